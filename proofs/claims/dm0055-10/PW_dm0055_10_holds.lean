import PyProof.Rows.All
import Wide.All
import OpenK.AllK
import Wide.FinOn
import PyProof.AttrMissHeap
import PyProof.TupleOfSeq
import PyProof.TupleCall
import PyProof.ZipIter
import PyProof.ListNew
import KE.KUnpack
import PyProof.SliceMore
import PyProof.NeKinds
import PyProof.ListIndexNeg
import Lean
import PySem.Challenge.RW_dm0055_10
set_option Elab.async false
set_option maxRecDepth 1000000
set_option maxHeartbeats 8000000
set_option linter.unusedVariables false
set_option genSizeOf false
set_option genInjectivity false
set_option linter.all false
section PtMHd10
open PySem PySem.W PyProof.Rows
namespace Mine
noncomputable def anyL {α : Type} (as : Array α) (p : α → Bool) (start : Nat) (stop : Nat) : Bool :=
  match Nat.beq start 0 && Nat.beq stop as.toList.length with
  | true => as.toList.any p
  | false => as.any p start stop
theorem anyL_eq : @Array.any.{0} = @anyL := by
  funext α as p start stop
  unfold anyL
  split
  · rename_i h
    rw [Bool.and_eq_true] at h
    have h1 : start = 0 := Nat.eq_of_beq_eq_true h.1
    have h2 : stop = as.size := Nat.eq_of_beq_eq_true h.2
    rw [h1, h2]
    exact (Array.any_toList ..).symm
  · rfl
noncomputable def tnew : Builtin := by
  refine (?g : (PySem.W.Fast.tw4202317264376624991 = ?f) → Builtin) ?h
  case h =>
    delta PySem.W.Fast.tw4202317264376624991
    rw [anyL_eq]
  case g => exact fun _ => ?f
theorem tnew_eq : PySem.Builtin.«type.__new__» = tnew := by
  rw [PySem.W.Fast.te4202317264376624991]
  delta PySem.W.Fast.tw4202317264376624991 tnew
  rw [anyL_eq]
noncomputable def tb (id : String) : Option Builtin := match code id == code "type.__new__" with
  | true => some tnew
  | false => treeTable id
theorem tb_eq : treeTable = tb := by
  funext id
  unfold tb
  split
  · rename_i h
    have h1 : code id = code "type.__new__" := by simpa using h
    unfold treeTable
    rw [h1]
    rw [← tnew_eq]
    exact (show treeTable "type.__new__" = some PySem.Builtin.«type.__new__» from by kernel_rfl)
  · rfl
noncomputable def pc0 : Stmt := by
  refine (?g : (PySem.Challenge.pw_dm0055_10.main.body.getD 0 (.Pass default) = ?f) → Stmt) ?h
  case h => dsimp only [PySem.Challenge.pw_dm0055_10, List.getD, List.getElem?_cons_zero, List.getElem?_cons_succ, Option.getD]; rfl
  case g => exact fun _ => ?f
noncomputable def pc1 : Stmt := by
  refine (?g : (PySem.Challenge.pw_dm0055_10.main.body.getD 1 (.Pass default) = ?f) → Stmt) ?h
  case h => dsimp only [PySem.Challenge.pw_dm0055_10, List.getD, List.getElem?_cons_zero, List.getElem?_cons_succ, Option.getD]; rfl
  case g => exact fun _ => ?f
noncomputable def pb2 : List Stmt := by
  refine (?g : ((match PySem.Challenge.pw_dm0055_10.main.body.getD 2 (.Pass default) with | .ClassDef _ _ _ b .. => b | _ => []) = ?f) → List Stmt) ?h
  case h => dsimp only [PySem.Challenge.pw_dm0055_10, List.getD, List.getElem?_cons_zero, List.getElem?_cons_succ, Option.getD]; rfl
  case g => exact fun _ => ?f
noncomputable def pc2x0 : Stmt := by
  refine (?g : (pb2.getD 0 (.Pass default) = ?f) → Stmt) ?h
  case h => dsimp only [pb2, List.getD, List.getElem?_cons_zero, List.getElem?_cons_succ, Option.getD]; rfl
  case g => exact fun _ => ?f
noncomputable def pc2x1 : Stmt := by
  refine (?g : (pb2.getD 1 (.Pass default) = ?f) → Stmt) ?h
  case h => dsimp only [pb2, List.getD, List.getElem?_cons_zero, List.getElem?_cons_succ, Option.getD]; rfl
  case g => exact fun _ => ?f
noncomputable def pc2x2 : Stmt := by
  refine (?g : (pb2.getD 2 (.Pass default) = ?f) → Stmt) ?h
  case h => dsimp only [pb2, List.getD, List.getElem?_cons_zero, List.getElem?_cons_succ, Option.getD]; rfl
  case g => exact fun _ => ?f
noncomputable def pc2x3 : Stmt := by
  refine (?g : (pb2.getD 3 (.Pass default) = ?f) → Stmt) ?h
  case h => dsimp only [pb2, List.getD, List.getElem?_cons_zero, List.getElem?_cons_succ, Option.getD]; rfl
  case g => exact fun _ => ?f
noncomputable def pc2 : Stmt := by
  refine (?g : (PySem.Challenge.pw_dm0055_10.main.body.getD 2 (.Pass default) = .ClassDef ?n ?b1 ?b2 [pc2x0, pc2x1, pc2x2, pc2x3] ?r1 ?r2 ?r3 ?r4 ?r5 ?r6 ?r7) → Stmt) ?h
  case h => dsimp only [PySem.Challenge.pw_dm0055_10, List.getD, List.getElem?_cons_zero, List.getElem?_cons_succ, Option.getD]; rfl
  case g => exact fun _ => .ClassDef ?n ?b1 ?b2 [pc2x0, pc2x1, pc2x2, pc2x3] ?r1 ?r2 ?r3 ?r4 ?r5 ?r6 ?r7
noncomputable def pb3 : List Stmt := by
  refine (?g : ((match PySem.Challenge.pw_dm0055_10.main.body.getD 3 (.Pass default) with | .ClassDef _ _ _ b .. => b | _ => []) = ?f) → List Stmt) ?h
  case h => dsimp only [PySem.Challenge.pw_dm0055_10, List.getD, List.getElem?_cons_zero, List.getElem?_cons_succ, Option.getD]; rfl
  case g => exact fun _ => ?f
noncomputable def pc3x0 : Stmt := by
  refine (?g : (pb3.getD 0 (.Pass default) = ?f) → Stmt) ?h
  case h => dsimp only [pb3, List.getD, List.getElem?_cons_zero, List.getElem?_cons_succ, Option.getD]; rfl
  case g => exact fun _ => ?f
noncomputable def pc3x1 : Stmt := by
  refine (?g : (pb3.getD 1 (.Pass default) = ?f) → Stmt) ?h
  case h => dsimp only [pb3, List.getD, List.getElem?_cons_zero, List.getElem?_cons_succ, Option.getD]; rfl
  case g => exact fun _ => ?f
noncomputable def pc3x2 : Stmt := by
  refine (?g : (pb3.getD 2 (.Pass default) = ?f) → Stmt) ?h
  case h => dsimp only [pb3, List.getD, List.getElem?_cons_zero, List.getElem?_cons_succ, Option.getD]; rfl
  case g => exact fun _ => ?f
noncomputable def pc3x3 : Stmt := by
  refine (?g : (pb3.getD 3 (.Pass default) = ?f) → Stmt) ?h
  case h => dsimp only [pb3, List.getD, List.getElem?_cons_zero, List.getElem?_cons_succ, Option.getD]; rfl
  case g => exact fun _ => ?f
noncomputable def pc3x4 : Stmt := by
  refine (?g : (pb3.getD 4 (.Pass default) = ?f) → Stmt) ?h
  case h => dsimp only [pb3, List.getD, List.getElem?_cons_zero, List.getElem?_cons_succ, Option.getD]; rfl
  case g => exact fun _ => ?f
noncomputable def pc3x5 : Stmt := by
  refine (?g : (pb3.getD 5 (.Pass default) = ?f) → Stmt) ?h
  case h => dsimp only [pb3, List.getD, List.getElem?_cons_zero, List.getElem?_cons_succ, Option.getD]; rfl
  case g => exact fun _ => ?f
noncomputable def pc3x6 : Stmt := by
  refine (?g : (pb3.getD 6 (.Pass default) = ?f) → Stmt) ?h
  case h => dsimp only [pb3, List.getD, List.getElem?_cons_zero, List.getElem?_cons_succ, Option.getD]; rfl
  case g => exact fun _ => ?f
noncomputable def pc3x7 : Stmt := by
  refine (?g : (pb3.getD 7 (.Pass default) = ?f) → Stmt) ?h
  case h => dsimp only [pb3, List.getD, List.getElem?_cons_zero, List.getElem?_cons_succ, Option.getD]; rfl
  case g => exact fun _ => ?f
noncomputable def pc3x8 : Stmt := by
  refine (?g : (pb3.getD 8 (.Pass default) = ?f) → Stmt) ?h
  case h => dsimp only [pb3, List.getD, List.getElem?_cons_zero, List.getElem?_cons_succ, Option.getD]; rfl
  case g => exact fun _ => ?f
noncomputable def pc3x9 : Stmt := by
  refine (?g : (pb3.getD 9 (.Pass default) = ?f) → Stmt) ?h
  case h => dsimp only [pb3, List.getD, List.getElem?_cons_zero, List.getElem?_cons_succ, Option.getD]; rfl
  case g => exact fun _ => ?f
noncomputable def pc3x10 : Stmt := by
  refine (?g : (pb3.getD 10 (.Pass default) = ?f) → Stmt) ?h
  case h => dsimp only [pb3, List.getD, List.getElem?_cons_zero, List.getElem?_cons_succ, Option.getD]; rfl
  case g => exact fun _ => ?f
noncomputable def pc3x11 : Stmt := by
  refine (?g : (pb3.getD 11 (.Pass default) = ?f) → Stmt) ?h
  case h => dsimp only [pb3, List.getD, List.getElem?_cons_zero, List.getElem?_cons_succ, Option.getD]; rfl
  case g => exact fun _ => ?f
noncomputable def pc3x12 : Stmt := by
  refine (?g : (pb3.getD 12 (.Pass default) = ?f) → Stmt) ?h
  case h => dsimp only [pb3, List.getD, List.getElem?_cons_zero, List.getElem?_cons_succ, Option.getD]; rfl
  case g => exact fun _ => ?f
noncomputable def pc3x13 : Stmt := by
  refine (?g : (pb3.getD 13 (.Pass default) = ?f) → Stmt) ?h
  case h => dsimp only [pb3, List.getD, List.getElem?_cons_zero, List.getElem?_cons_succ, Option.getD]; rfl
  case g => exact fun _ => ?f
noncomputable def pc3x14 : Stmt := by
  refine (?g : (pb3.getD 14 (.Pass default) = ?f) → Stmt) ?h
  case h => dsimp only [pb3, List.getD, List.getElem?_cons_zero, List.getElem?_cons_succ, Option.getD]; rfl
  case g => exact fun _ => ?f
noncomputable def pc3 : Stmt := by
  refine (?g : (PySem.Challenge.pw_dm0055_10.main.body.getD 3 (.Pass default) = .ClassDef ?n ?b1 ?b2 [pc3x0, pc3x1, pc3x2, pc3x3, pc3x4, pc3x5, pc3x6, pc3x7, pc3x8, pc3x9, pc3x10, pc3x11, pc3x12, pc3x13, pc3x14] ?r1 ?r2 ?r3 ?r4 ?r5 ?r6 ?r7) → Stmt) ?h
  case h => dsimp only [PySem.Challenge.pw_dm0055_10, List.getD, List.getElem?_cons_zero, List.getElem?_cons_succ, Option.getD]; rfl
  case g => exact fun _ => .ClassDef ?n ?b1 ?b2 [pc3x0, pc3x1, pc3x2, pc3x3, pc3x4, pc3x5, pc3x6, pc3x7, pc3x8, pc3x9, pc3x10, pc3x11, pc3x12, pc3x13, pc3x14] ?r1 ?r2 ?r3 ?r4 ?r5 ?r6 ?r7
noncomputable def pc4 : Stmt := by
  refine (?g : (PySem.Challenge.pw_dm0055_10.main.body.getD 4 (.Pass default) = ?f) → Stmt) ?h
  case h => dsimp only [PySem.Challenge.pw_dm0055_10, List.getD, List.getElem?_cons_zero, List.getElem?_cons_succ, Option.getD]; rfl
  case g => exact fun _ => ?f
noncomputable def pb5 : List Stmt := by
  refine (?g : ((match PySem.Challenge.pw_dm0055_10.main.body.getD 5 (.Pass default) with | .ClassDef _ _ _ b .. => b | _ => []) = ?f) → List Stmt) ?h
  case h => dsimp only [PySem.Challenge.pw_dm0055_10, List.getD, List.getElem?_cons_zero, List.getElem?_cons_succ, Option.getD]; rfl
  case g => exact fun _ => ?f
noncomputable def pc5x0 : Stmt := by
  refine (?g : (pb5.getD 0 (.Pass default) = ?f) → Stmt) ?h
  case h => dsimp only [pb5, List.getD, List.getElem?_cons_zero, List.getElem?_cons_succ, Option.getD]; rfl
  case g => exact fun _ => ?f
noncomputable def pc5x1 : Stmt := by
  refine (?g : (pb5.getD 1 (.Pass default) = ?f) → Stmt) ?h
  case h => dsimp only [pb5, List.getD, List.getElem?_cons_zero, List.getElem?_cons_succ, Option.getD]; rfl
  case g => exact fun _ => ?f
noncomputable def pc5x2 : Stmt := by
  refine (?g : (pb5.getD 2 (.Pass default) = ?f) → Stmt) ?h
  case h => dsimp only [pb5, List.getD, List.getElem?_cons_zero, List.getElem?_cons_succ, Option.getD]; rfl
  case g => exact fun _ => ?f
noncomputable def pc5x3 : Stmt := by
  refine (?g : (pb5.getD 3 (.Pass default) = ?f) → Stmt) ?h
  case h => dsimp only [pb5, List.getD, List.getElem?_cons_zero, List.getElem?_cons_succ, Option.getD]; rfl
  case g => exact fun _ => ?f
noncomputable def pc5x4 : Stmt := by
  refine (?g : (pb5.getD 4 (.Pass default) = ?f) → Stmt) ?h
  case h => dsimp only [pb5, List.getD, List.getElem?_cons_zero, List.getElem?_cons_succ, Option.getD]; rfl
  case g => exact fun _ => ?f
noncomputable def pc5x5 : Stmt := by
  refine (?g : (pb5.getD 5 (.Pass default) = ?f) → Stmt) ?h
  case h => dsimp only [pb5, List.getD, List.getElem?_cons_zero, List.getElem?_cons_succ, Option.getD]; rfl
  case g => exact fun _ => ?f
noncomputable def pc5x6 : Stmt := by
  refine (?g : (pb5.getD 6 (.Pass default) = ?f) → Stmt) ?h
  case h => dsimp only [pb5, List.getD, List.getElem?_cons_zero, List.getElem?_cons_succ, Option.getD]; rfl
  case g => exact fun _ => ?f
noncomputable def pc5x7 : Stmt := by
  refine (?g : (pb5.getD 7 (.Pass default) = ?f) → Stmt) ?h
  case h => dsimp only [pb5, List.getD, List.getElem?_cons_zero, List.getElem?_cons_succ, Option.getD]; rfl
  case g => exact fun _ => ?f
noncomputable def pc5x8 : Stmt := by
  refine (?g : (pb5.getD 8 (.Pass default) = ?f) → Stmt) ?h
  case h => dsimp only [pb5, List.getD, List.getElem?_cons_zero, List.getElem?_cons_succ, Option.getD]; rfl
  case g => exact fun _ => ?f
noncomputable def pc5x9 : Stmt := by
  refine (?g : (pb5.getD 9 (.Pass default) = ?f) → Stmt) ?h
  case h => dsimp only [pb5, List.getD, List.getElem?_cons_zero, List.getElem?_cons_succ, Option.getD]; rfl
  case g => exact fun _ => ?f
noncomputable def pc5x10 : Stmt := by
  refine (?g : (pb5.getD 10 (.Pass default) = ?f) → Stmt) ?h
  case h => dsimp only [pb5, List.getD, List.getElem?_cons_zero, List.getElem?_cons_succ, Option.getD]; rfl
  case g => exact fun _ => ?f
noncomputable def pc5x11 : Stmt := by
  refine (?g : (pb5.getD 11 (.Pass default) = ?f) → Stmt) ?h
  case h => dsimp only [pb5, List.getD, List.getElem?_cons_zero, List.getElem?_cons_succ, Option.getD]; rfl
  case g => exact fun _ => ?f
noncomputable def pc5x12 : Stmt := by
  refine (?g : (pb5.getD 12 (.Pass default) = ?f) → Stmt) ?h
  case h => dsimp only [pb5, List.getD, List.getElem?_cons_zero, List.getElem?_cons_succ, Option.getD]; rfl
  case g => exact fun _ => ?f
noncomputable def pc5 : Stmt := by
  refine (?g : (PySem.Challenge.pw_dm0055_10.main.body.getD 5 (.Pass default) = .ClassDef ?n ?b1 ?b2 [pc5x0, pc5x1, pc5x2, pc5x3, pc5x4, pc5x5, pc5x6, pc5x7, pc5x8, pc5x9, pc5x10, pc5x11, pc5x12] ?r1 ?r2 ?r3 ?r4 ?r5 ?r6 ?r7) → Stmt) ?h
  case h => dsimp only [PySem.Challenge.pw_dm0055_10, List.getD, List.getElem?_cons_zero, List.getElem?_cons_succ, Option.getD]; rfl
  case g => exact fun _ => .ClassDef ?n ?b1 ?b2 [pc5x0, pc5x1, pc5x2, pc5x3, pc5x4, pc5x5, pc5x6, pc5x7, pc5x8, pc5x9, pc5x10, pc5x11, pc5x12] ?r1 ?r2 ?r3 ?r4 ?r5 ?r6 ?r7
noncomputable def pc6 : Stmt := by
  refine (?g : (PySem.Challenge.pw_dm0055_10.main.body.getD 6 (.Pass default) = ?f) → Stmt) ?h
  case h => dsimp only [PySem.Challenge.pw_dm0055_10, List.getD, List.getElem?_cons_zero, List.getElem?_cons_succ, Option.getD]; rfl
  case g => exact fun _ => ?f
noncomputable def pc7 : Stmt := by
  refine (?g : (PySem.Challenge.pw_dm0055_10.main.body.getD 7 (.Pass default) = ?f) → Stmt) ?h
  case h => dsimp only [PySem.Challenge.pw_dm0055_10, List.getD, List.getElem?_cons_zero, List.getElem?_cons_succ, Option.getD]; rfl
  case g => exact fun _ => ?f
noncomputable def pc8 : Stmt := by
  refine (?g : (PySem.Challenge.pw_dm0055_10.main.body.getD 8 (.Pass default) = ?f) → Stmt) ?h
  case h => dsimp only [PySem.Challenge.pw_dm0055_10, List.getD, List.getElem?_cons_zero, List.getElem?_cons_succ, Option.getD]; rfl
  case g => exact fun _ => ?f
noncomputable def pwQ : Program := by
  refine (?g : (PySem.Challenge.pw_dm0055_10 = ⟨⟨[pc0, pc1, pc2, pc3, pc4, pc5, pc6, pc7, pc8], ?m1, ?m2, ?m3, ?m4⟩, ?a, ?b, ?c, ?d, ?e⟩) → Program) ?h
  case h => dsimp only [PySem.Challenge.pw_dm0055_10]; rfl
  case g => exact fun _ => ⟨⟨[pc0, pc1, pc2, pc3, pc4, pc5, pc6, pc7, pc8], ?m1, ?m2, ?m3, ?m4⟩, ?a, ?b, ?c, ?d, ?e⟩
theorem pwQ_eq : PySem.Challenge.pw_dm0055_10 = pwQ := by rfl
noncomputable def topS (i : Nat) : Stmt := pwQ.main.body.getD i (.Pass default)
noncomputable def inS (i j : Nat) : Stmt := match topS i with
  | .ClassDef _ _ _ b .. => b.getD j (.Pass default)
  | _ => .Pass default
noncomputable def docS : Stmt → Str
  | .FunctionDef _ _ b .. => (docOf b).getD (Str.ofString "")
  | _ => Str.ofString ""
noncomputable def docC (i : Nat) : Str := match topS i with
  | .ClassDef _ _ _ b .. => (docOf b).getD (Str.ofString "")
  | _ => Str.ofString ""
noncomputable def fnO (st : Stmt) (qual : Str) (dV doc pm cd : Value) (d : Option Addr := none) (an : Option Addr := none) : Obj := match st with
  | .FunctionDef name args body _ _ _ scope _ _ _ => ⟨.type "function", d, .func { name, qualname := qual, params := args, body := .stmts body, scope, globals := 3, closure := [], defaults := dV, kwdefaults := .none, doc, pyModule := pm, annotations := an, code := cd, closureTuple := .none, builtins := 0 }, #[]⟩
  | _ => default
noncomputable def fnC (st : Stmt) (qual : Str) (cl : List (Str × Addr)) (doc pm cd ct : Value) : Obj := match st with
  | .FunctionDef name args body _ _ _ scope _ _ _ => ⟨.type "function", none, .func { name, qualname := qual, params := args, body := .stmts body, scope, globals := 3, closure := cl, defaults := .none, kwdefaults := .none, doc, pyModule := pm, annotations := none, code := cd, closureTuple := ct, builtins := 0 }, #[]⟩
  | _ => default
noncomputable def fnT (st : Stmt) (qual : Str) (cls : Value) (g b : Addr) : Obj := match st with
  | .FunctionDef name args body _ _ _ scope _ _ _ => ⟨cls, none, .func { name, qualname := qual, params := args, body := .stmts body, scope, globals := g, closure := [], defaults := .none, kwdefaults := .none, doc := .none, pyModule := .none, annotations := none, code := .none, closureTuple := .none, builtins := b }, #[]⟩
  | _ => default
noncomputable def en (P : Params) (k : String) (t : Nat) (v : Value) : DictEntry := ⟨PyData.keyHash P (Str.ofString k), .str (Str.ofString k) t, v⟩
noncomputable def o2 (P : Params) : Obj := boot_o_2 P
noncomputable def o3 (P : Params) : Obj := ⟨(.type "dict"), none, .dict #[en P "__name__" 165 (.str (Str.ofString "law_dm0055_10") 575), en P "__doc__" 166 .none, en P "__package__" 167 .none, en P "__loader__" 168 (.builtin "__main__.__loader__#opaque"), en P "__spec__" 169 .none, en P "__annotations__" 170 (.ref 6), en P "__builtins__" 171 (.ref 4), en P "__file__" 173 (.str (Str.ofString "/claim/cut.py") 172), en P "__cached__" 174 .none, en P "_wall" 193 (.ref 21), en P "_tuplegetter" 252 (.ref 60), en P "Match" 380 (.ref 135), en P "_calculate_ratio" 388 (.ref 145), en P "SequenceMatcher" 574 (.ref 242), en P "_law_longest" 592 (.ref 253), en P "law" 598 (.ref 258)] 16, #[]⟩
noncomputable def o81 (_ : Params) : Obj := ⟨(.type "code"), none, .fields #[(.str (Str.ofString "__new__") 274), (.str (Str.ofString "Match.__new__") 275), (.str (Str.ofString "/claim/cut.py") 276), (.int (29) 0), (.int (4) 0), (.int (0) 0), (.int (0) 0), (.int (3) 0), (.ref 76), (.bool true), (.int (181) 0), (.ref 77), .none, (.ref 78), (.ref 79), (.ref 80), (.int (281) 0), (.int (29) 0), (.str (Str.ofString "/claim/cut.py") 282)], #[]⟩
noncomputable def o82 (_ : Params) : Obj := fnO (inS 3 4) (Str.ofString "Match.__new__") .none (.str (Str.ofString "Create new instance of Match(a, b, size)") 283) (.str (Str.ofString "cpy313.difflib") 194) (.ref 81)
noncomputable def o88 (_ : Params) : Obj := ⟨(.type "code"), none, .fields #[(.str (Str.ofString "_make") 285), (.str (Str.ofString "Match._make") 286), (.str (Str.ofString "/claim/cut.py") 287), (.int (33) 0), (.int (2) 0), (.int (0) 0), (.int (0) 0), (.int (3) 0), (.ref 83), (.bool true), (.int (181) 0), (.ref 84), .none, (.ref 85), (.ref 86), (.ref 87), (.int (291) 0), (.int (33) 0), (.str (Str.ofString "/claim/cut.py") 292)], #[]⟩
noncomputable def o89 (_ : Params) : Obj := fnO (inS 3 5) (Str.ofString "Match._make") .none (.str (Str.ofString "Make a new Match object from a sequence or iterable") 293) (.str (Str.ofString "cpy313.difflib") 194) (.ref 88) none (some 92)
noncomputable def o91 (_ : Params) : Obj := ⟨(.type "classmethod"), (some 90), .fields #[(.ref 89), (.bool false)], #[]⟩
noncomputable def o134 (P : Params) : Obj := ⟨(.type "dict"), none, .dict #[en P "__module__" 260 (.str (Str.ofString "cpy313.difflib") 194), en P "__firstlineno__" 264 (.int (23) 263), en P "__doc__" 266 (.str (Str.ofString "Match(a, b, size)") 265), en P "__slots__" 268 (.ref 73), en P "_fields" 272 (.ref 74), en P "_field_defaults" 273 (.ref 75), en P "__new__" 284 (.ref 136), en P "_make" 306 (.ref 91), en P "_replace" 317 (.ref 100), en P "__replace__" 318 (.ref 100), en P "__repr__" 326 (.ref 107), en P "_asdict" 333 (.ref 114), en P "__getnewargs__" 341 (.ref 121), en P "__match_args__" 345 (.ref 122), en P "a" 355 (.ref 124), en P "b" 365 (.ref 127), en P "size" 375 (.ref 130), en P "__static_attributes__" 376 (.ref 132)] 2, #[]⟩
noncomputable def o135 (_ : Params) : Obj := ⟨(.type "type"), none, .cls { name := (Str.ofString "Match"), bases := [(.type "tuple")], mro := [(.ref 135), (.type "tuple"), (.type "object")], ns := 134, qualname := (Str.ofString "Match"), hasDict := false, slotNames := [], subclasses := [], abstract := false, collection := none, hasDel := false }, #[(some (.ref 65)), none, (some (.str (Str.ofString "Match") 253)), (some (.str (Str.ofString "Match") 261)), (some .none), (some (.bool false))]⟩
noncomputable def o136 (_ : Params) : Obj := ⟨(.type "staticmethod"), none, .fields #[(.ref 82)], #[]⟩
noncomputable def o153 (_ : Params) : Obj := ⟨(.type "tuple"), none, .seq #[.none, (.str (Str.ofString "") 404), (.str (Str.ofString "") 405), (.bool true)] 0, #[]⟩
noncomputable def o159 (_ : Params) : Obj := ⟨(.type "code"), none, .fields #[(.str (Str.ofString "__init__") 406), (.str (Str.ofString "SequenceMatcher.__init__") 407), (.str (Str.ofString "/claim/cut.py") 408), (.int (145) 0), (.int (5) 0), (.int (0) 0), (.int (0) 0), (.int (3) 0), (.ref 154), (.bool true), (.int (181) 0), (.ref 155), .none, (.ref 156), (.ref 157), (.ref 158), (.int (414) 0), (.int (145) 0), (.str (Str.ofString "/claim/cut.py") 415)], #[]⟩
noncomputable def o160 (_ : Params) : Obj := fnO (inS 5 1) (Str.ofString "SequenceMatcher.__init__") (.ref 153) (.str (docS (inS 5 1)) 416) (.str (Str.ofString "cpy313.difflib") 194) (.ref 159)
noncomputable def o166 (_ : Params) : Obj := ⟨(.type "code"), none, .fields #[(.str (Str.ofString "set_seqs") 418), (.str (Str.ofString "SequenceMatcher.set_seqs") 419), (.str (Str.ofString "/claim/cut.py") 420), (.int (173) 0), (.int (3) 0), (.int (0) 0), (.int (0) 0), (.int (3) 0), (.ref 161), (.bool true), (.int (181) 0), (.ref 162), .none, (.ref 163), (.ref 164), (.ref 165), (.int (424) 0), (.int (173) 0), (.str (Str.ofString "/claim/cut.py") 425)], #[]⟩
noncomputable def o167 (_ : Params) : Obj := fnO (inS 5 2) (Str.ofString "SequenceMatcher.set_seqs") .none (.str (docS (inS 5 2)) 426) (.str (Str.ofString "cpy313.difflib") 194) (.ref 166)
noncomputable def o173 (_ : Params) : Obj := ⟨(.type "code"), none, .fields #[(.str (Str.ofString "set_seq1") 428), (.str (Str.ofString "SequenceMatcher.set_seq1") 429), (.str (Str.ofString "/claim/cut.py") 430), (.int (184) 0), (.int (2) 0), (.int (0) 0), (.int (0) 0), (.int (3) 0), (.ref 168), (.bool true), (.int (181) 0), (.ref 169), .none, (.ref 170), (.ref 171), (.ref 172), (.int (433) 0), (.int (184) 0), (.str (Str.ofString "/claim/cut.py") 434)], #[]⟩
noncomputable def o174 (_ : Params) : Obj := fnO (inS 5 3) (Str.ofString "SequenceMatcher.set_seq1") .none (.str (docS (inS 5 3)) 435) (.str (Str.ofString "cpy313.difflib") 194) (.ref 173)
noncomputable def o180 (_ : Params) : Obj := ⟨(.type "code"), none, .fields #[(.str (Str.ofString "set_seq2") 437), (.str (Str.ofString "SequenceMatcher.set_seq2") 438), (.str (Str.ofString "/claim/cut.py") 439), (.int (209) 0), (.int (2) 0), (.int (0) 0), (.int (0) 0), (.int (3) 0), (.ref 175), (.bool true), (.int (181) 0), (.ref 176), .none, (.ref 177), (.ref 178), (.ref 179), (.int (442) 0), (.int (209) 0), (.str (Str.ofString "/claim/cut.py") 443)], #[]⟩
noncomputable def o181 (_ : Params) : Obj := fnO (inS 5 4) (Str.ofString "SequenceMatcher.set_seq2") .none (.str (docS (inS 5 4)) 444) (.str (Str.ofString "cpy313.difflib") 194) (.ref 180)
noncomputable def o187 (_ : Params) : Obj := ⟨(.type "code"), none, .fields #[(.str (Str.ofString "__chain_b") 446), (.str (Str.ofString "SequenceMatcher.__chain_b") 447), (.str (Str.ofString "/claim/cut.py") 448), (.int (236) 0), (.int (1) 0), (.int (0) 0), (.int (0) 0), (.int (3) 0), (.ref 182), (.bool true), (.int (181) 0), (.ref 183), .none, (.ref 184), (.ref 185), (.ref 186), (.int (461) 0), (.int (236) 0), (.str (Str.ofString "/claim/cut.py") 462)], #[]⟩
noncomputable def o188 (_ : Params) : Obj := fnO (inS 5 5) (Str.ofString "SequenceMatcher.__chain_b") .none .none (.str (Str.ofString "cpy313.difflib") 194) (.ref 187)
noncomputable def o189 (_ : Params) : Obj := ⟨(.type "tuple"), none, .seq #[(.int (0) 464), .none, (.int (0) 465), .none] 0, #[]⟩
noncomputable def o195 (_ : Params) : Obj := ⟨(.type "code"), none, .fields #[(.str (Str.ofString "find_longest_match") 466), (.str (Str.ofString "SequenceMatcher.find_longest_match") 467), (.str (Str.ofString "/claim/cut.py") 468), (.int (260) 0), (.int (5) 0), (.int (0) 0), (.int (0) 0), (.int (3) 0), (.ref 190), (.bool true), (.int (181) 0), (.ref 191), .none, (.ref 192), (.ref 193), (.ref 194), (.int (488) 0), (.int (260) 0), (.str (Str.ofString "/claim/cut.py") 489)], #[]⟩
noncomputable def o196 (_ : Params) : Obj := fnO (inS 5 6) (Str.ofString "SequenceMatcher.find_longest_match") (.ref 189) (.str (docS (inS 5 6)) 490) (.str (Str.ofString "cpy313.difflib") 194) (.ref 195)
noncomputable def o202 (_ : Params) : Obj := ⟨(.type "code"), none, .fields #[(.str (Str.ofString "get_matching_blocks") 492), (.str (Str.ofString "SequenceMatcher.get_matching_blocks") 493), (.str (Str.ofString "/claim/cut.py") 494), (.int (335) 0), (.int (1) 0), (.int (0) 0), (.int (0) 0), (.int (3) 0), (.ref 197), (.bool true), (.int (181) 0), (.ref 198), .none, (.ref 199), (.ref 200), (.ref 201), (.int (515) 0), (.int (335) 0), (.str (Str.ofString "/claim/cut.py") 516)], #[]⟩
noncomputable def o203 (_ : Params) : Obj := fnO (inS 5 7) (Str.ofString "SequenceMatcher.get_matching_blocks") .none (.str (docS (inS 5 7)) 517) (.str (Str.ofString "cpy313.difflib") 194) (.ref 202)
noncomputable def o209 (_ : Params) : Obj := ⟨(.type "code"), none, .fields #[(.str (Str.ofString "get_opcodes") 519), (.str (Str.ofString "SequenceMatcher.get_opcodes") 520), (.str (Str.ofString "/claim/cut.py") 521), (.int (383) 0), (.int (1) 0), (.int (0) 0), (.int (0) 0), (.int (3) 0), (.ref 204), (.bool true), (.int (181) 0), (.ref 205), .none, (.ref 206), (.ref 207), (.ref 208), (.int (523) 0), (.int (383) 0), (.str (Str.ofString "/claim/cut.py") 524)], #[]⟩
noncomputable def o210 (_ : Params) : Obj := fnO (inS 5 8) (Str.ofString "SequenceMatcher.get_opcodes") .none .none (.str (Str.ofString "cpy313.difflib") 194) (.ref 209)
noncomputable def o241 (P : Params) : Obj := ⟨(.type "dict"), none, .dict #[en P "__module__" 396 (.str (Str.ofString "cpy313.difflib") 194), en P "__firstlineno__" 400 (.int (70) 399), en P "__doc__" 402 (.str (docC 5) 401), en P "__init__" 417 (.ref 160), en P "set_seqs" 427 (.ref 167), en P "set_seq1" 436 (.ref 174), en P "set_seq2" 445 (.ref 181), en P "_SequenceMatcher__chain_b" 463 (.ref 188), en P "find_longest_match" 491 (.ref 196), en P "get_matching_blocks" 518 (.ref 203), en P "get_opcodes" 525 (.ref 210), en P "get_grouped_opcodes" 534 (.ref 218), en P "ratio" 543 (.ref 225), en P "quick_ratio" 550 (.ref 232), en P "real_quick_ratio" 557 (.ref 239), en P "__static_attributes__" 568 (.ref 240), en P "__dict__" 570 (.ref 243), en P "__weakref__" 572 (.ref 244)] 3, #[]⟩
noncomputable def o242 (_ : Params) : Obj := ⟨(.type "type"), none, .cls { name := (Str.ofString "SequenceMatcher"), bases := [(.type "object")], mro := [(.ref 242), (.type "object")], ns := 241, qualname := (Str.ofString "SequenceMatcher"), hasDict := true, slotNames := [], subclasses := [], abstract := false, collection := none, hasDel := false }, #[none, none, (some (.str (Str.ofString "SequenceMatcher") 389)), (some (.str (Str.ofString "SequenceMatcher") 397)), (some (.builtin "object.__new__")), (some (.bool true))]⟩
noncomputable def o252 (_ : Params) : Obj := ⟨(.type "code"), none, .fields #[(.str (Str.ofString "_law_longest") 577), (.str (Str.ofString "_law_longest") 578), (.str (Str.ofString "/claim/cut.py") 579), (.int (419) 0), (.int (6) 0), (.int (0) 0), (.int (0) 0), (.int (3) 0), (.ref 247), (.bool true), (.int (181) 0), (.ref 248), .none, (.ref 249), (.ref 250), (.ref 251), (.int (590) 0), (.int (419) 0), (.str (Str.ofString "/claim/cut.py") 591)], #[]⟩
noncomputable def o253 (_ : Params) : Obj := fnO (topS 7) (Str.ofString "_law_longest") .none .none (.str (Str.ofString "law_dm0055_10") 575) (.ref 252)
noncomputable def o257 (_ : Params) : Obj := ⟨(.type "code"), none, .fields #[(.str (Str.ofString "law") 593), (.str (Str.ofString "law") 594), (.str (Str.ofString "/claim/cut.py") 595), (.int (429) 0), (.int (1) 0), (.int (0) 0), (.int (0) 0), (.int (3) 0), (.ref 254), (.bool true), (.int (181) 0), (.ref 255), .none, .none, .none, (.ref 256), (.int (596) 0), (.int (429) 0), (.str (Str.ofString "/claim/cut.py") 597)], #[]⟩
noncomputable def o258 (_ : Params) : Obj := fnO (topS 8) (Str.ofString "law") .none .none (.str (Str.ofString "law_dm0055_10") 575) (.ref 257)
noncomputable def hb0 (P : Params) (r : List Obj) : List Obj := boot_o_0 P ::
  boot_o_1 P ::
  o2 P ::
  o3 P ::
  boot_o_4 P ::
  boot_o_5 P ::
  boot_o_6 P ::
  boot_o_7 P ::
  boot_o_8 P ::
  boot_o_9 P ::
  boot_o_10 P ::
  ⟨(.type "tuple"), none, .seq #[] 0, #[]⟩ :: r
noncomputable def hb1 (P : Params) (r : List Obj) : List Obj := ⟨.none, none, .fields #[(.int (1) 0), (.int (0) 0), (.ref 20), (.int (5) 0), (.int (0) 0), (.ref 27), (.int (23) 0), (.int (0) 0), (.ref 71), (.int (66) 0), (.int (0) 0), (.ref 144), (.int (70) 0), (.int (0) 0), (.ref 151), (.int (419) 0), (.int (0) 0), (.ref 252), (.int (429) 0), (.int (0) 0), (.ref 257)], #[]⟩ ::
  ⟨(.type "code"), none, .fields #[(.str (Str.ofString "<module>") 182), (.str (Str.ofString "<module>") 183), (.str (Str.ofString "/claim/cut.py") 184), (.int (1) 0), (.int (0) 0), (.int (0) 0), (.int (0) 0), (.int (0) 0), (.ref 11), (.bool false), (.int (181) 0), (.ref 12), .none, .none, .none, .none, (.int (185) 0), (.int (1) 0), (.str (Str.ofString "/claim/cut.py") 186)], #[]⟩ ::
  ⟨(.type "frame"), none, .plain, #[(some (.ref 13)), (some (.ref 3)), (some (.ref 3)), none, (some (.str (Str.ofString "__main__") 164)), none, (some (.ref 0))]⟩ ::
  ⟨(.type "tuple"), none, .seq #[] 0, #[]⟩ ::
  ⟨.none, none, .fields #[], #[]⟩ ::
  ⟨(.type "tuple"), none, .seq #[(.str (Str.ofString "k") 190)] 0, #[]⟩ ::
  ⟨(.type "tuple"), none, .seq #[] 0, #[]⟩ ::
  fnT (topS 0) (Str.ofString "_wall") .none 0 0 ::
  ⟨(.type "code"), none, .fields #[(.str (Str.ofString "_wall") 187), (.str (Str.ofString "_wall") 188), (.str (Str.ofString "/claim/cut.py") 189), (.int (1) 0), (.int (1) 0), (.int (0) 0), (.int (0) 0), (.int (3) 0), (.ref 15), (.bool true), (.int (181) 0), (.ref 16), .none, (.ref 17), (.ref 18), (.ref 19), (.int (191) 0), (.int (1) 0), (.str (Str.ofString "/claim/cut.py") 192)], #[]⟩ ::
  fnO (topS 0) (Str.ofString "_wall") .none .none (.str (Str.ofString "__main__") 164) (.ref 20) ::
  ⟨(.type "tuple"), none, .seq #[] 0, #[]⟩ ::
  ⟨(.type "builtin_function_or_method"), none, .fields #[(.builtin "type.__prepare__"), (.type "type")], #[]⟩ :: r
noncomputable def hb2 (P : Params) (r : List Obj) : List Obj := ⟨(.type "dict"), none, .dict #[en P "__module__" 203 (.str (Str.ofString "cpy313.difflib") 194), en P "__qualname__" 205 (.str (Str.ofString "_tuplegetter") 204), en P "__firstlineno__" 207 (.int (5) 206), en P "__init__" 216 (.ref 35), en P "__get__" 225 (.ref 43), en P "__set__" 234 (.ref 50), en P "__delete__" 242 (.ref 57), en P "__static_attributes__" 245 (.ref 58)] 8, #[]⟩ ::
  ⟨(.type "tuple"), none, .seq #[] 0, #[]⟩ ::
  ⟨.none, none, .fields #[(.int (7) 0), (.int (4) 0), (.ref 34), (.int (11) 0), (.int (4) 0), (.ref 42), (.int (18) 0), (.int (4) 0), (.ref 49), (.int (21) 0), (.int (4) 0), (.ref 56)], #[]⟩ ::
  ⟨(.type "code"), none, .fields #[(.str (Str.ofString "_tuplegetter") 198), (.str (Str.ofString "_tuplegetter") 199), (.str (Str.ofString "/claim/cut.py") 200), (.int (5) 0), (.int (0) 0), (.int (0) 0), (.int (0) 0), (.int (0) 0), (.ref 25), (.bool false), (.int (181) 0), (.ref 26), .none, .none, .none, .none, (.int (201) 0), (.int (5) 0), (.str (Str.ofString "/claim/cut.py") 202)], #[]⟩ ::
  ⟨(.type "frame"), none, .plain, #[(some (.ref 27)), (some (.ref 3)), (some (.ref 24)), none, (some (.str (Str.ofString "cpy313.difflib") 194)), none, (some (.ref 0))]⟩ ::
  ⟨(.type "tuple"), none, .seq #[] 0, #[]⟩ ::
  ⟨.none, none, .fields #[], #[]⟩ ::
  ⟨(.type "tuple"), none, .seq #[(.str (Str.ofString "self") 211), (.str (Str.ofString "index") 212), (.str (Str.ofString "doc") 213)] 0, #[]⟩ ::
  ⟨(.type "tuple"), none, .seq #[] 0, #[]⟩ ::
  fnT (inS 2 0) (Str.ofString "_tuplegetter.__init__") .none 0 0 ::
  ⟨(.type "code"), none, .fields #[(.str (Str.ofString "__init__") 208), (.str (Str.ofString "_tuplegetter.__init__") 209), (.str (Str.ofString "/claim/cut.py") 210), (.int (7) 0), (.int (3) 0), (.int (0) 0), (.int (0) 0), (.int (3) 0), (.ref 29), (.bool true), (.int (181) 0), (.ref 30), .none, (.ref 31), (.ref 32), (.ref 33), (.int (214) 0), (.int (7) 0), (.str (Str.ofString "/claim/cut.py") 215)], #[]⟩ ::
  fnO (inS 2 0) (Str.ofString "_tuplegetter.__init__") .none .none (.str (Str.ofString "cpy313.difflib") 194) (.ref 34) :: r
noncomputable def hb3 (P : Params) (r : List Obj) : List Obj := ⟨(.type "tuple"), none, .seq #[.none] 0, #[]⟩ ::
  ⟨(.type "tuple"), none, .seq #[] 0, #[]⟩ ::
  ⟨.none, none, .fields #[], #[]⟩ ::
  ⟨(.type "tuple"), none, .seq #[(.str (Str.ofString "self") 220), (.str (Str.ofString "obj") 221), (.str (Str.ofString "objtype") 222)] 0, #[]⟩ ::
  ⟨(.type "tuple"), none, .seq #[] 0, #[]⟩ ::
  fnT (inS 2 1) (Str.ofString "_tuplegetter.__get__") .none 0 0 ::
  ⟨(.type "code"), none, .fields #[(.str (Str.ofString "__get__") 217), (.str (Str.ofString "_tuplegetter.__get__") 218), (.str (Str.ofString "/claim/cut.py") 219), (.int (11) 0), (.int (3) 0), (.int (0) 0), (.int (0) 0), (.int (3) 0), (.ref 37), (.bool true), (.int (181) 0), (.ref 38), .none, (.ref 39), (.ref 40), (.ref 41), (.int (223) 0), (.int (11) 0), (.str (Str.ofString "/claim/cut.py") 224)], #[]⟩ ::
  fnO (inS 2 1) (Str.ofString "_tuplegetter.__get__") (.ref 36) .none (.str (Str.ofString "cpy313.difflib") 194) (.ref 42) ::
  ⟨(.type "tuple"), none, .seq #[] 0, #[]⟩ ::
  ⟨.none, none, .fields #[], #[]⟩ ::
  ⟨(.type "tuple"), none, .seq #[(.str (Str.ofString "self") 229), (.str (Str.ofString "obj") 230), (.str (Str.ofString "value") 231)] 0, #[]⟩ ::
  ⟨(.type "tuple"), none, .seq #[] 0, #[]⟩ :: r
noncomputable def hb4 (P : Params) (r : List Obj) : List Obj := fnT (inS 2 2) (Str.ofString "_tuplegetter.__set__") .none 0 0 ::
  ⟨(.type "code"), none, .fields #[(.str (Str.ofString "__set__") 226), (.str (Str.ofString "_tuplegetter.__set__") 227), (.str (Str.ofString "/claim/cut.py") 228), (.int (18) 0), (.int (3) 0), (.int (0) 0), (.int (0) 0), (.int (3) 0), (.ref 44), (.bool true), (.int (181) 0), (.ref 45), .none, (.ref 46), (.ref 47), (.ref 48), (.int (232) 0), (.int (18) 0), (.str (Str.ofString "/claim/cut.py") 233)], #[]⟩ ::
  fnO (inS 2 2) (Str.ofString "_tuplegetter.__set__") .none .none (.str (Str.ofString "cpy313.difflib") 194) (.ref 49) ::
  ⟨(.type "tuple"), none, .seq #[] 0, #[]⟩ ::
  ⟨.none, none, .fields #[], #[]⟩ ::
  ⟨(.type "tuple"), none, .seq #[(.str (Str.ofString "self") 238), (.str (Str.ofString "obj") 239)] 0, #[]⟩ ::
  ⟨(.type "tuple"), none, .seq #[] 0, #[]⟩ ::
  fnT (inS 2 3) (Str.ofString "_tuplegetter.__delete__") .none 0 0 ::
  ⟨(.type "code"), none, .fields #[(.str (Str.ofString "__delete__") 235), (.str (Str.ofString "_tuplegetter.__delete__") 236), (.str (Str.ofString "/claim/cut.py") 237), (.int (21) 0), (.int (2) 0), (.int (0) 0), (.int (0) 0), (.int (3) 0), (.ref 51), (.bool true), (.int (181) 0), (.ref 52), .none, (.ref 53), (.ref 54), (.ref 55), (.int (240) 0), (.int (21) 0), (.str (Str.ofString "/claim/cut.py") 241)], #[]⟩ ::
  fnO (inS 2 3) (Str.ofString "_tuplegetter.__delete__") .none .none (.str (Str.ofString "cpy313.difflib") 194) (.ref 56) ::
  ⟨(.type "tuple"), none, .seq #[(.str (Str.ofString "__doc__") 243), (.str (Str.ofString "index") 244)] 0, #[]⟩ ::
  ⟨(.type "dict"), none, .dict #[en P "__module__" 203 (.str (Str.ofString "cpy313.difflib") 194), en P "__firstlineno__" 207 (.int (5) 206), en P "__init__" 216 (.ref 35), en P "__get__" 225 (.ref 43), en P "__set__" 234 (.ref 50), en P "__delete__" 242 (.ref 57), en P "__static_attributes__" 245 (.ref 58), en P "__dict__" 247 (.ref 61), en P "__weakref__" 249 (.ref 62), en P "__doc__" 250 .none] 4, #[]⟩ :: r
noncomputable def hb5 (P : Params) (r : List Obj) : List Obj := ⟨(.type "type"), none, .cls { name := (Str.ofString "_tuplegetter"), bases := [(.type "object")], mro := [(.ref 60), (.type "object")], ns := 59, qualname := (Str.ofString "_tuplegetter"), hasDict := true, slotNames := [], subclasses := [], abstract := false, collection := none, hasDel := false }, #[none, none, (some (.str (Str.ofString "_tuplegetter") 196)), (some (.str (Str.ofString "_tuplegetter") 204)), (some (.builtin "object.__new__")), (some (.bool true))]⟩ ::
  ⟨(.type "getset_descriptor"), none, .fields #[(.str (Str.ofString "__dict__") 246), (.ref 60), (.builtin "function.__dict__"), (.builtin "function.__dict__#set")], #[]⟩ ::
  ⟨(.type "getset_descriptor"), none, .fields #[(.str (Str.ofString "__weakref__") 248), (.ref 60), (.builtin "ExceptionGroup.__weakref__"), .none], #[]⟩ ::
  ⟨(.type "super"), none, .fields #[(.ref 60), (.ref 60), (.ref 60)], #[]⟩ ::
  ⟨(.type "builtin_function_or_method"), none, .fields #[(.builtin "object.__init_subclass__"), (.ref 60)], #[]⟩ ::
  ⟨(.type "tuple"), none, .seq #[(.type "tuple")] 0, #[]⟩ ::
  ⟨(.type "builtin_function_or_method"), none, .fields #[(.builtin "type.__prepare__"), (.type "type")], #[]⟩ ::
  ⟨(.type "dict"), none, .dict #[en P "__module__" 260 (.str (Str.ofString "cpy313.difflib") 194), en P "__qualname__" 262 (.str (Str.ofString "Match") 261), en P "__firstlineno__" 264 (.int (23) 263), en P "__doc__" 266 (.str (Str.ofString "Match(a, b, size)") 265), en P "__slots__" 268 (.ref 73), en P "_fields" 272 (.ref 74), en P "_field_defaults" 273 (.ref 75), en P "__new__" 284 (.ref 82), en P "_make" 306 (.ref 91), en P "_replace" 317 (.ref 100), en P "__replace__" 318 (.ref 100), en P "__repr__" 326 (.ref 107), en P "_asdict" 333 (.ref 114), en P "__getnewargs__" 341 (.ref 121), en P "__match_args__" 345 (.ref 122), en P "a" 355 (.ref 124), en P "b" 365 (.ref 127), en P "size" 375 (.ref 130), en P "__static_attributes__" 376 (.ref 132), en P "__classcell__" 377 (.ref 68)] 20, #[]⟩ ::
  ⟨(.type "cell"), none, .cell (some (.ref 135)), #[]⟩ ::
  ⟨(.type "tuple"), none, .seq #[] 0, #[]⟩ ::
  ⟨.none, none, .fields #[(.int (29) 0), (.int (4) 0), (.ref 81), (.int (34) 0), (.int (4) 0), (.ref 88), (.int (41) 0), (.int (4) 0), (.ref 99), (.int (52) 0), (.int (4) 0), (.ref 106), (.int (56) 0), (.int (4) 0), (.ref 113), (.int (59) 0), (.int (4) 0), (.ref 120)], #[]⟩ ::
  ⟨(.type "code"), none, .fields #[(.str (Str.ofString "Match") 255), (.str (Str.ofString "Match") 256), (.str (Str.ofString "/claim/cut.py") 257), (.int (23) 0), (.int (0) 0), (.int (0) 0), (.int (0) 0), (.int (0) 0), (.ref 69), (.bool false), (.int (181) 0), (.ref 70), .none, .none, .none, .none, (.int (258) 0), (.int (23) 0), (.str (Str.ofString "/claim/cut.py") 259)], #[]⟩ :: r
noncomputable def hb6 (P : Params) (r : List Obj) : List Obj := ⟨(.type "frame"), none, .plain, #[(some (.ref 71)), (some (.ref 3)), (some (.ref 67)), none, (some (.str (Str.ofString "cpy313.difflib") 194)), none, (some (.ref 0))]⟩ ::
  ⟨(.type "tuple"), none, .seq #[] 0, #[]⟩ ::
  ⟨(.type "tuple"), none, .seq #[(.str (Str.ofString "a") 269), (.str (Str.ofString "b") 270), (.str (Str.ofString "size") 271)] 0, #[]⟩ ::
  ⟨(.type "dict"), none, .dict #[] 0, #[]⟩ ::
  ⟨(.type "tuple"), none, .seq #[] 0, #[]⟩ ::
  ⟨.none, none, .fields #[], #[]⟩ ::
  ⟨(.type "tuple"), none, .seq #[(.str (Str.ofString "_cls") 277), (.str (Str.ofString "a") 278), (.str (Str.ofString "b") 279), (.str (Str.ofString "size") 280)] 0, #[]⟩ ::
  ⟨(.type "tuple"), none, .seq #[] 0, #[]⟩ ::
  fnT (inS 3 4) (Str.ofString "Match.__new__") .none 0 0 ::
  o81 P ::
  o82 P ::
  ⟨(.type "tuple"), none, .seq #[] 0, #[]⟩ :: r
noncomputable def hb7 (P : Params) (r : List Obj) : List Obj := ⟨.none, none, .fields #[], #[]⟩ ::
  ⟨(.type "tuple"), none, .seq #[(.str (Str.ofString "cls") 288), (.str (Str.ofString "iterable") 289), (.str (Str.ofString "result") 290)] 0, #[]⟩ ::
  ⟨(.type "tuple"), none, .seq #[] 0, #[]⟩ ::
  fnT (inS 3 5) (Str.ofString "Match._make") .none 0 0 ::
  o88 P ::
  o89 P ::
  ⟨(.type "dict"), none, .dict #[en P "__module__" 295 (.str (Str.ofString "cpy313.difflib") 194), en P "__name__" 298 (.str (Str.ofString "_make") 297), en P "__qualname__" 301 (.str (Str.ofString "Match._make") 300), en P "__doc__" 303 (.str (Str.ofString "Make a new Match object from a sequence or iterable") 293), en P "__annotations__" 305 (.ref 92)] 5, #[]⟩ ::
  o91 P ::
  ⟨(.type "dict"), none, .dict #[] 0, #[]⟩ ::
  ⟨(.type "tuple"), none, .seq #[(.ref 68)] 0, #[]⟩ ::
  ⟨(.type "tuple"), none, .seq #[(.str (Str.ofString "__class__") 310)] 0, #[]⟩ ::
  ⟨.none, none, .fields #[], #[]⟩ :: r
noncomputable def hb8 (P : Params) (r : List Obj) : List Obj := ⟨(.type "tuple"), none, .seq #[(.str (Str.ofString "self") 311), (.str (Str.ofString "kwds") 312), (.str (Str.ofString "result") 313)] 0, #[]⟩ ::
  ⟨(.type "tuple"), none, .seq #[] 0, #[]⟩ ::
  fnT (inS 3 6) (Str.ofString "Match._replace") .none 0 0 ::
  ⟨(.type "code"), none, .fields #[(.str (Str.ofString "_replace") 307), (.str (Str.ofString "Match._replace") 308), (.str (Str.ofString "/claim/cut.py") 309), (.int (41) 0), (.int (1) 0), (.int (1) 0), (.int (0) 0), (.int (11) 0), (.ref 94), (.bool true), (.int (181) 0), (.ref 95), .none, (.ref 96), (.ref 97), (.ref 98), (.int (314) 0), (.int (41) 0), (.str (Str.ofString "/claim/cut.py") 315)], #[]⟩ ::
  fnC (inS 3 6) (Str.ofString "Match._replace") [((Str.ofString "__class__"), 68)] (.str (docS (inS 3 6)) 316) (.str (Str.ofString "cpy313.difflib") 194) (.ref 99) (.ref 93) ::
  ⟨(.type "tuple"), none, .seq #[] 0, #[]⟩ ::
  ⟨.none, none, .fields #[], #[]⟩ ::
  ⟨(.type "tuple"), none, .seq #[(.str (Str.ofString "self") 322)] 0, #[]⟩ ::
  ⟨(.type "tuple"), none, .seq #[] 0, #[]⟩ ::
  fnT (inS 3 8) (Str.ofString "Match.__repr__") .none 0 0 ::
  ⟨(.type "code"), none, .fields #[(.str (Str.ofString "__repr__") 319), (.str (Str.ofString "Match.__repr__") 320), (.str (Str.ofString "/claim/cut.py") 321), (.int (52) 0), (.int (1) 0), (.int (0) 0), (.int (0) 0), (.int (3) 0), (.ref 101), (.bool true), (.int (181) 0), (.ref 102), .none, (.ref 103), (.ref 104), (.ref 105), (.int (323) 0), (.int (52) 0), (.str (Str.ofString "/claim/cut.py") 324)], #[]⟩ ::
  fnO (inS 3 8) (Str.ofString "Match.__repr__") .none (.str (Str.ofString "Return a nicely formatted representation string") 325) (.str (Str.ofString "cpy313.difflib") 194) (.ref 106) :: r
noncomputable def hb9 (P : Params) (r : List Obj) : List Obj := ⟨(.type "tuple"), none, .seq #[] 0, #[]⟩ ::
  ⟨.none, none, .fields #[], #[]⟩ ::
  ⟨(.type "tuple"), none, .seq #[(.str (Str.ofString "self") 330)] 0, #[]⟩ ::
  ⟨(.type "tuple"), none, .seq #[] 0, #[]⟩ ::
  fnT (inS 3 9) (Str.ofString "Match._asdict") .none 0 0 ::
  ⟨(.type "code"), none, .fields #[(.str (Str.ofString "_asdict") 327), (.str (Str.ofString "Match._asdict") 328), (.str (Str.ofString "/claim/cut.py") 329), (.int (56) 0), (.int (1) 0), (.int (0) 0), (.int (0) 0), (.int (3) 0), (.ref 108), (.bool true), (.int (181) 0), (.ref 109), .none, (.ref 110), (.ref 111), (.ref 112), (.int (331) 0), (.int (56) 0), (.str (Str.ofString "/claim/cut.py") 332)], #[]⟩ ::
  fnO (inS 3 9) (Str.ofString "Match._asdict") .none .none (.str (Str.ofString "cpy313.difflib") 194) (.ref 113) ::
  ⟨(.type "tuple"), none, .seq #[] 0, #[]⟩ ::
  ⟨.none, none, .fields #[], #[]⟩ ::
  ⟨(.type "tuple"), none, .seq #[(.str (Str.ofString "self") 337)] 0, #[]⟩ ::
  ⟨(.type "tuple"), none, .seq #[] 0, #[]⟩ ::
  fnT (inS 3 10) (Str.ofString "Match.__getnewargs__") .none 0 0 :: r
noncomputable def hb10 (P : Params) (r : List Obj) : List Obj := ⟨(.type "code"), none, .fields #[(.str (Str.ofString "__getnewargs__") 334), (.str (Str.ofString "Match.__getnewargs__") 335), (.str (Str.ofString "/claim/cut.py") 336), (.int (59) 0), (.int (1) 0), (.int (0) 0), (.int (0) 0), (.int (3) 0), (.ref 115), (.bool true), (.int (181) 0), (.ref 116), .none, (.ref 117), (.ref 118), (.ref 119), (.int (338) 0), (.int (59) 0), (.str (Str.ofString "/claim/cut.py") 339)], #[]⟩ ::
  fnO (inS 3 10) (Str.ofString "Match.__getnewargs__") .none (.str (Str.ofString "Return self as a plain tuple.  Used by copy and pickle.") 340) (.str (Str.ofString "cpy313.difflib") 194) (.ref 120) ::
  ⟨(.type "tuple"), none, .seq #[(.str (Str.ofString "a") 342), (.str (Str.ofString "b") 343), (.str (Str.ofString "size") 344)] 0, #[]⟩ ::
  ⟨(.type "dict"), none, .dict #[en P "index" 352 (.int (0) 346), en P "__doc__" 354 (.str (Str.ofString "Alias for field number 0") 347)] 2, #[]⟩ ::
  ⟨(.ref 60), (some 123), .plain, #[]⟩ ::
  ⟨(.type "frame"), none, .dict #[en P "self" 348 (.ref 124), en P "index" 349 (.int (0) 346), en P "doc" 350 (.str (Str.ofString "Alias for field number 0") 347)] 3, #[]⟩ ::
  ⟨(.type "dict"), none, .dict #[en P "index" 362 (.int (1) 356), en P "__doc__" 364 (.str (Str.ofString "Alias for field number 1") 357)] 2, #[]⟩ ::
  ⟨(.ref 60), (some 126), .plain, #[]⟩ ::
  ⟨(.type "frame"), none, .dict #[en P "self" 358 (.ref 127), en P "index" 359 (.int (1) 356), en P "doc" 360 (.str (Str.ofString "Alias for field number 1") 357)] 3, #[]⟩ ::
  ⟨(.type "dict"), none, .dict #[en P "index" 372 (.int (2) 366), en P "__doc__" 374 (.str (Str.ofString "Alias for field number 2") 367)] 2, #[]⟩ ::
  ⟨(.ref 60), (some 129), .plain, #[]⟩ ::
  ⟨(.type "frame"), none, .dict #[en P "self" 368 (.ref 130), en P "index" 369 (.int (2) 366), en P "doc" 370 (.str (Str.ofString "Alias for field number 2") 367)] 3, #[]⟩ :: r
noncomputable def hb11 (P : Params) (r : List Obj) : List Obj := ⟨(.type "tuple"), none, .seq #[] 0, #[]⟩ ::
  ⟨(.type "list"), none, .seq #[] 0, #[]⟩ ::
  o134 P ::
  o135 P ::
  o136 P ::
  ⟨(.type "super"), none, .fields #[(.ref 135), (.ref 135), (.ref 135)], #[]⟩ ::
  ⟨(.type "builtin_function_or_method"), none, .fields #[(.builtin "object.__init_subclass__"), (.ref 135)], #[]⟩ ::
  ⟨(.type "tuple"), none, .seq #[] 0, #[]⟩ ::
  ⟨.none, none, .fields #[], #[]⟩ ::
  ⟨(.type "tuple"), none, .seq #[(.str (Str.ofString "matches") 384), (.str (Str.ofString "length") 385)] 0, #[]⟩ ::
  ⟨(.type "tuple"), none, .seq #[] 0, #[]⟩ ::
  fnT (topS 4) (Str.ofString "_calculate_ratio") .none 0 0 :: r
noncomputable def hb12 (P : Params) (r : List Obj) : List Obj := ⟨(.type "code"), none, .fields #[(.str (Str.ofString "_calculate_ratio") 381), (.str (Str.ofString "_calculate_ratio") 382), (.str (Str.ofString "/claim/cut.py") 383), (.int (66) 0), (.int (2) 0), (.int (0) 0), (.int (0) 0), (.int (3) 0), (.ref 139), (.bool true), (.int (181) 0), (.ref 140), .none, (.ref 141), (.ref 142), (.ref 143), (.int (386) 0), (.int (66) 0), (.str (Str.ofString "/claim/cut.py") 387)], #[]⟩ ::
  fnO (topS 4) (Str.ofString "_calculate_ratio") .none .none (.str (Str.ofString "cpy313.difflib") 194) (.ref 144) ::
  ⟨(.type "tuple"), none, .seq #[] 0, #[]⟩ ::
  ⟨(.type "builtin_function_or_method"), none, .fields #[(.builtin "type.__prepare__"), (.type "type")], #[]⟩ ::
  ⟨(.type "dict"), none, .dict #[en P "__module__" 396 (.str (Str.ofString "cpy313.difflib") 194), en P "__qualname__" 398 (.str (Str.ofString "SequenceMatcher") 397), en P "__firstlineno__" 400 (.int (70) 399), en P "__doc__" 402 (.str (docC 5) 401), en P "__init__" 417 (.ref 160), en P "set_seqs" 427 (.ref 167), en P "set_seq1" 436 (.ref 174), en P "set_seq2" 445 (.ref 181), en P "_SequenceMatcher__chain_b" 463 (.ref 188), en P "find_longest_match" 491 (.ref 196), en P "get_matching_blocks" 518 (.ref 203), en P "get_opcodes" 525 (.ref 210), en P "get_grouped_opcodes" 534 (.ref 218), en P "ratio" 543 (.ref 225), en P "quick_ratio" 550 (.ref 232), en P "real_quick_ratio" 557 (.ref 239), en P "__static_attributes__" 568 (.ref 240)] 17, #[]⟩ ::
  ⟨(.type "tuple"), none, .seq #[] 0, #[]⟩ ::
  ⟨.none, none, .fields #[(.int (145) 0), (.int (4) 0), (.ref 159), (.int (173) 0), (.int (4) 0), (.ref 166), (.int (184) 0), (.int (4) 0), (.ref 173), (.int (209) 0), (.int (4) 0), (.ref 180), (.int (236) 0), (.int (4) 0), (.ref 187), (.int (260) 0), (.int (4) 0), (.ref 195), (.int (335) 0), (.int (4) 0), (.ref 202), (.int (383) 0), (.int (4) 0), (.ref 209), (.int (386) 0), (.int (4) 0), (.ref 217), (.int (389) 0), (.int (4) 0), (.ref 224), (.int (413) 0), (.int (4) 0), (.ref 231), (.int (416) 0), (.int (4) 0), (.ref 238)], #[]⟩ ::
  ⟨(.type "code"), none, .fields #[(.str (Str.ofString "SequenceMatcher") 391), (.str (Str.ofString "SequenceMatcher") 392), (.str (Str.ofString "/claim/cut.py") 393), (.int (70) 0), (.int (0) 0), (.int (0) 0), (.int (0) 0), (.int (0) 0), (.ref 149), (.bool false), (.int (181) 0), (.ref 150), .none, .none, .none, .none, (.int (394) 0), (.int (70) 0), (.str (Str.ofString "/claim/cut.py") 395)], #[]⟩ ::
  ⟨(.type "frame"), none, .plain, #[(some (.ref 151)), (some (.ref 3)), (some (.ref 148)), none, (some (.str (Str.ofString "cpy313.difflib") 194)), none, (some (.ref 0))]⟩ ::
  o153 P ::
  ⟨(.type "tuple"), none, .seq #[] 0, #[]⟩ ::
  ⟨.none, none, .fields #[], #[]⟩ :: r
noncomputable def hb13 (P : Params) (r : List Obj) : List Obj := ⟨(.type "tuple"), none, .seq #[(.str (Str.ofString "self") 409), (.str (Str.ofString "isjunk") 410), (.str (Str.ofString "a") 411), (.str (Str.ofString "b") 412), (.str (Str.ofString "autojunk") 413)] 0, #[]⟩ ::
  ⟨(.type "tuple"), none, .seq #[] 0, #[]⟩ ::
  fnT (inS 5 1) (Str.ofString "SequenceMatcher.__init__") .none 0 0 ::
  o159 P ::
  o160 P ::
  ⟨(.type "tuple"), none, .seq #[] 0, #[]⟩ ::
  ⟨.none, none, .fields #[], #[]⟩ ::
  ⟨(.type "tuple"), none, .seq #[(.str (Str.ofString "self") 421), (.str (Str.ofString "a") 422), (.str (Str.ofString "b") 423)] 0, #[]⟩ ::
  ⟨(.type "tuple"), none, .seq #[] 0, #[]⟩ ::
  fnT (inS 5 2) (Str.ofString "SequenceMatcher.set_seqs") .none 0 0 ::
  o166 P ::
  o167 P :: r
noncomputable def hb14 (P : Params) (r : List Obj) : List Obj := ⟨(.type "tuple"), none, .seq #[] 0, #[]⟩ ::
  ⟨.none, none, .fields #[], #[]⟩ ::
  ⟨(.type "tuple"), none, .seq #[(.str (Str.ofString "self") 431), (.str (Str.ofString "a") 432)] 0, #[]⟩ ::
  ⟨(.type "tuple"), none, .seq #[] 0, #[]⟩ ::
  fnT (inS 5 3) (Str.ofString "SequenceMatcher.set_seq1") .none 0 0 ::
  o173 P ::
  o174 P ::
  ⟨(.type "tuple"), none, .seq #[] 0, #[]⟩ ::
  ⟨.none, none, .fields #[], #[]⟩ ::
  ⟨(.type "tuple"), none, .seq #[(.str (Str.ofString "self") 440), (.str (Str.ofString "b") 441)] 0, #[]⟩ ::
  ⟨(.type "tuple"), none, .seq #[] 0, #[]⟩ ::
  fnT (inS 5 4) (Str.ofString "SequenceMatcher.set_seq2") .none 0 0 :: r
noncomputable def hb15 (P : Params) (r : List Obj) : List Obj := o180 P ::
  o181 P ::
  ⟨(.type "tuple"), none, .seq #[] 0, #[]⟩ ::
  ⟨.none, none, .fields #[], #[]⟩ ::
  ⟨(.type "tuple"), none, .seq #[(.str (Str.ofString "self") 449), (.str (Str.ofString "b") 450), (.str (Str.ofString "b2j") 451), (.str (Str.ofString "i") 452), (.str (Str.ofString "elt") 453), (.str (Str.ofString "indices") 454), (.str (Str.ofString "junk") 455), (.str (Str.ofString "isjunk") 456), (.str (Str.ofString "popular") 457), (.str (Str.ofString "n") 458), (.str (Str.ofString "ntest") 459), (.str (Str.ofString "idxs") 460)] 0, #[]⟩ ::
  ⟨(.type "tuple"), none, .seq #[] 0, #[]⟩ ::
  fnT (inS 5 5) (Str.ofString "SequenceMatcher.__chain_b") .none 0 0 ::
  o187 P ::
  o188 P ::
  o189 P ::
  ⟨(.type "tuple"), none, .seq #[] 0, #[]⟩ ::
  ⟨.none, none, .fields #[], #[]⟩ :: r
noncomputable def hb16 (P : Params) (r : List Obj) : List Obj := ⟨(.type "tuple"), none, .seq #[(.str (Str.ofString "self") 469), (.str (Str.ofString "alo") 470), (.str (Str.ofString "ahi") 471), (.str (Str.ofString "blo") 472), (.str (Str.ofString "bhi") 473), (.str (Str.ofString "a") 474), (.str (Str.ofString "b") 475), (.str (Str.ofString "b2j") 476), (.str (Str.ofString "isbjunk") 477), (.str (Str.ofString "besti") 478), (.str (Str.ofString "bestj") 479), (.str (Str.ofString "bestsize") 480), (.str (Str.ofString "j2len") 481), (.str (Str.ofString "nothing") 482), (.str (Str.ofString "i") 483), (.str (Str.ofString "j2lenget") 484), (.str (Str.ofString "newj2len") 485), (.str (Str.ofString "j") 486), (.str (Str.ofString "k") 487)] 0, #[]⟩ ::
  ⟨(.type "tuple"), none, .seq #[] 0, #[]⟩ ::
  fnT (inS 5 6) (Str.ofString "SequenceMatcher.find_longest_match") .none 0 0 ::
  o195 P ::
  o196 P ::
  ⟨(.type "tuple"), none, .seq #[] 0, #[]⟩ ::
  ⟨.none, none, .fields #[], #[]⟩ ::
  ⟨(.type "tuple"), none, .seq #[(.str (Str.ofString "self") 495), (.str (Str.ofString "la") 496), (.str (Str.ofString "lb") 497), (.str (Str.ofString "queue") 498), (.str (Str.ofString "matching_blocks") 499), (.str (Str.ofString "alo") 500), (.str (Str.ofString "ahi") 501), (.str (Str.ofString "blo") 502), (.str (Str.ofString "bhi") 503), (.str (Str.ofString "i") 504), (.str (Str.ofString "j") 505), (.str (Str.ofString "k") 506), (.str (Str.ofString "x") 507), (.str (Str.ofString "i1") 508), (.str (Str.ofString "j1") 509), (.str (Str.ofString "k1") 510), (.str (Str.ofString "non_adjacent") 511), (.str (Str.ofString "i2") 512), (.str (Str.ofString "j2") 513), (.str (Str.ofString "k2") 514)] 0, #[]⟩ ::
  ⟨(.type "tuple"), none, .seq #[] 0, #[]⟩ ::
  fnT (inS 5 7) (Str.ofString "SequenceMatcher.get_matching_blocks") .none 0 0 ::
  o202 P ::
  o203 P :: r
noncomputable def hb17 (P : Params) (r : List Obj) : List Obj := ⟨(.type "tuple"), none, .seq #[] 0, #[]⟩ ::
  ⟨.none, none, .fields #[], #[]⟩ ::
  ⟨(.type "tuple"), none, .seq #[(.str (Str.ofString "self") 522)] 0, #[]⟩ ::
  ⟨(.type "tuple"), none, .seq #[] 0, #[]⟩ ::
  fnT (inS 5 8) (Str.ofString "SequenceMatcher.get_opcodes") .none 0 0 ::
  o209 P ::
  o210 P ::
  ⟨(.type "tuple"), none, .seq #[(.int (3) 526)] 0, #[]⟩ ::
  ⟨(.type "tuple"), none, .seq #[] 0, #[]⟩ ::
  ⟨.none, none, .fields #[], #[]⟩ ::
  ⟨(.type "tuple"), none, .seq #[(.str (Str.ofString "self") 530), (.str (Str.ofString "n") 531)] 0, #[]⟩ ::
  ⟨(.type "tuple"), none, .seq #[] 0, #[]⟩ :: r
noncomputable def hb18 (P : Params) (r : List Obj) : List Obj := fnT (inS 5 9) (Str.ofString "SequenceMatcher.get_grouped_opcodes") .none 0 0 ::
  ⟨(.type "code"), none, .fields #[(.str (Str.ofString "get_grouped_opcodes") 527), (.str (Str.ofString "SequenceMatcher.get_grouped_opcodes") 528), (.str (Str.ofString "/claim/cut.py") 529), (.int (386) 0), (.int (2) 0), (.int (0) 0), (.int (0) 0), (.int (3) 0), (.ref 212), (.bool true), (.int (181) 0), (.ref 213), .none, (.ref 214), (.ref 215), (.ref 216), (.int (532) 0), (.int (386) 0), (.str (Str.ofString "/claim/cut.py") 533)], #[]⟩ ::
  fnO (inS 5 9) (Str.ofString "SequenceMatcher.get_grouped_opcodes") (.ref 211) .none (.str (Str.ofString "cpy313.difflib") 194) (.ref 217) ::
  ⟨(.type "tuple"), none, .seq #[] 0, #[]⟩ ::
  ⟨.none, none, .fields #[], #[]⟩ ::
  ⟨(.type "tuple"), none, .seq #[(.str (Str.ofString "self") 538), (.str (Str.ofString "matches") 539)] 0, #[]⟩ ::
  ⟨(.type "tuple"), none, .seq #[] 0, #[]⟩ ::
  fnT (inS 5 10) (Str.ofString "SequenceMatcher.ratio") .none 0 0 ::
  ⟨(.type "code"), none, .fields #[(.str (Str.ofString "ratio") 535), (.str (Str.ofString "SequenceMatcher.ratio") 536), (.str (Str.ofString "/claim/cut.py") 537), (.int (389) 0), (.int (1) 0), (.int (0) 0), (.int (0) 0), (.int (3) 0), (.ref 219), (.bool true), (.int (181) 0), (.ref 220), .none, (.ref 221), (.ref 222), (.ref 223), (.int (540) 0), (.int (389) 0), (.str (Str.ofString "/claim/cut.py") 541)], #[]⟩ ::
  fnO (inS 5 10) (Str.ofString "SequenceMatcher.ratio") .none (.str (docS (inS 5 10)) 542) (.str (Str.ofString "cpy313.difflib") 194) (.ref 224) ::
  ⟨(.type "tuple"), none, .seq #[] 0, #[]⟩ ::
  ⟨.none, none, .fields #[], #[]⟩ :: r
noncomputable def hb19 (P : Params) (r : List Obj) : List Obj := ⟨(.type "tuple"), none, .seq #[(.str (Str.ofString "self") 547)] 0, #[]⟩ ::
  ⟨(.type "tuple"), none, .seq #[] 0, #[]⟩ ::
  fnT (inS 5 11) (Str.ofString "SequenceMatcher.quick_ratio") .none 0 0 ::
  ⟨(.type "code"), none, .fields #[(.str (Str.ofString "quick_ratio") 544), (.str (Str.ofString "SequenceMatcher.quick_ratio") 545), (.str (Str.ofString "/claim/cut.py") 546), (.int (413) 0), (.int (1) 0), (.int (0) 0), (.int (0) 0), (.int (3) 0), (.ref 226), (.bool true), (.int (181) 0), (.ref 227), .none, (.ref 228), (.ref 229), (.ref 230), (.int (548) 0), (.int (413) 0), (.str (Str.ofString "/claim/cut.py") 549)], #[]⟩ ::
  fnO (inS 5 11) (Str.ofString "SequenceMatcher.quick_ratio") .none .none (.str (Str.ofString "cpy313.difflib") 194) (.ref 231) ::
  ⟨(.type "tuple"), none, .seq #[] 0, #[]⟩ ::
  ⟨.none, none, .fields #[], #[]⟩ ::
  ⟨(.type "tuple"), none, .seq #[(.str (Str.ofString "self") 554)] 0, #[]⟩ ::
  ⟨(.type "tuple"), none, .seq #[] 0, #[]⟩ ::
  fnT (inS 5 12) (Str.ofString "SequenceMatcher.real_quick_ratio") .none 0 0 ::
  ⟨(.type "code"), none, .fields #[(.str (Str.ofString "real_quick_ratio") 551), (.str (Str.ofString "SequenceMatcher.real_quick_ratio") 552), (.str (Str.ofString "/claim/cut.py") 553), (.int (416) 0), (.int (1) 0), (.int (0) 0), (.int (0) 0), (.int (3) 0), (.ref 233), (.bool true), (.int (181) 0), (.ref 234), .none, (.ref 235), (.ref 236), (.ref 237), (.int (555) 0), (.int (416) 0), (.str (Str.ofString "/claim/cut.py") 556)], #[]⟩ ::
  fnO (inS 5 12) (Str.ofString "SequenceMatcher.real_quick_ratio") .none .none (.str (Str.ofString "cpy313.difflib") 194) (.ref 238) :: r
noncomputable def hb20 (P : Params) (r : List Obj) : List Obj := ⟨(.type "tuple"), none, .seq #[(.str (Str.ofString "a") 558), (.str (Str.ofString "autojunk") 559), (.str (Str.ofString "b") 560), (.str (Str.ofString "b2j") 561), (.str (Str.ofString "bjunk") 562), (.str (Str.ofString "bpopular") 563), (.str (Str.ofString "fullbcount") 564), (.str (Str.ofString "isjunk") 565), (.str (Str.ofString "matching_blocks") 566), (.str (Str.ofString "opcodes") 567)] 0, #[]⟩ ::
  o241 P ::
  o242 P ::
  ⟨(.type "getset_descriptor"), none, .fields #[(.str (Str.ofString "__dict__") 569), (.ref 242), (.builtin "function.__dict__"), (.builtin "function.__dict__#set")], #[]⟩ ::
  ⟨(.type "getset_descriptor"), none, .fields #[(.str (Str.ofString "__weakref__") 571), (.ref 242), (.builtin "ExceptionGroup.__weakref__"), .none], #[]⟩ ::
  ⟨(.type "super"), none, .fields #[(.ref 242), (.ref 242), (.ref 242)], #[]⟩ ::
  ⟨(.type "builtin_function_or_method"), none, .fields #[(.builtin "object.__init_subclass__"), (.ref 242)], #[]⟩ ::
  ⟨(.type "tuple"), none, .seq #[] 0, #[]⟩ ::
  ⟨.none, none, .fields #[], #[]⟩ ::
  ⟨(.type "tuple"), none, .seq #[(.str (Str.ofString "one") 580), (.str (Str.ofString "other") 581), (.str (Str.ofString "alo") 582), (.str (Str.ofString "ahi") 583), (.str (Str.ofString "blo") 584), (.str (Str.ofString "bhi") 585), (.str (Str.ofString "best") 586), (.str (Str.ofString "i") 587), (.str (Str.ofString "j") 588), (.str (Str.ofString "size") 589)] 0, #[]⟩ ::
  ⟨(.type "tuple"), none, .seq #[] 0, #[]⟩ ::
  fnT (topS 7) (Str.ofString "_law_longest") .none 0 0 :: r
noncomputable def hb21 (P : Params) (r : List Obj) : List Obj := o252 P ::
  o253 P ::
  ⟨(.type "tuple"), none, .seq #[] 0, #[]⟩ ::
  ⟨.none, none, .fields #[], #[]⟩ ::
  fnT (topS 8) (Str.ofString "law") .none 0 0 ::
  o257 P ::
  o258 P :: r
noncomputable def hob (P : Params) : List Obj := hb0 P (hb1 P (hb2 P (hb3 P (hb4 P (hb5 P (hb6 P (hb7 P (hb8 P (hb9 P (hb10 P (hb11 P (hb12 P (hb13 P (hb14 P (hb15 P (hb16 P (hb17 P (hb18 P (hb19 P (hb20 P (hb21 P [])))))))))))))))))))))
noncomputable def KK (P : Params) : Frag := [(2, o2 P), (3, o3 P), (81, o81 P), (82, o82 P), (88, o88 P), (89, o89 P), (91, o91 P), (134, o134 P), (135, o135 P), (136, o136 P), (153, o153 P), (159, o159 P), (160, o160 P), (166, o166 P), (167, o167 P), (173, o173 P), (174, o174 P), (180, o180 P), (181, o181 P), (187, o187 P), (188, o188 P), (189, o189 P), (195, o195 P), (196, o196 P), (202, o202 P), (203, o203 P), (209, o209 P), (210, o210 P), (241, o241 P), (242, o242 P), (252, o252 P), (253, o253 P), (257, o257 P), (258, o258 P)]
noncomputable def KA : List Addr := [2, 3, 81, 82, 88, 89, 91, 134, 135, 136, 153, 159, 160, 166, 167, 173, 174, 180, 181, 187, 188, 189, 195, 196, 202, 203, 209, 210, 241, 242, 252, 253, 257, 258]
theorem KA_eq (P : Params) : KA = (KK P).map (·.1) := by rfl
noncomputable def hook : Hook := kHook KK KA KA_eq
noncomputable def Qv : Program := view pwQ [0, 2, 3, 4, 5, 7, 8]
noncomputable def lse : List Str := [Str.ofString "_tuplegetter", Str.ofString "Match", Str.ofString "SequenceMatcher"]
noncomputable def Xt (s : Shared) : Bool := xlAt Qv [] s && recOk [] s
noncomputable def NN : Nat := 4442
noncomputable def H1 (P : Params) : Heap := ⟨Array.mk (hob P), (boot_heap P).life⟩
noncomputable def runL (w : World) (os : OsState) := topRun tb pwQ w 11 (some (.ref 6)) NN ⟨boot_heap w.params, Array.mk [], boot_drawn, boot_toks, os⟩ (topStub pwQ)
noncomputable def runR (w : World) (os : OsState) : Option Shared := some ⟨H1 w.params, Array.mk [], boot_drawn, 599, os⟩
noncomputable def seenL (w : World) := (fun os => ((staticsOk (importedModules pwQ.main.body) (boot_heap w.params) (H1 w.params) && namesBound pwQ (H1 w.params) && gensDone ⟨H1 w.params, Array.mk [], boot_drawn, 599, os⟩ && laidKept (boot_heap w.params) (H1 w.params)),
        openSeen Qv lse (importedModules pwQ.main.body) Xt true ⟨H1 w.params, Array.mk [], boot_drawn, 599, os⟩, KA.map (H1 w.params).get?))
noncomputable def seenR (w : World) := (fun (_ : OsState) => (true, openGood Qv lse, (KK w.params).map fun p => some p.2))
noncomputable def sizeL (w : World) := ((boot_heap w.params).isNs mainGlobals && (Array.mk ([] : List GenState)).size == 0, (boot_heap w.params).objs.size, (boot_heap w.params).nsMap mainGlobals "__annotations__")
noncomputable def T1 {α β γ δ ε : Type} (_ : α) (_ : β) (_ : γ) (_ : δ) (_ : ε) : Bool := true
theorem twins : T1 runL runR seenL seenR sizeL = true := by k_qdec
theorem runE (w : World) (os : OsState) : PySem.W.Fast.tw15381529512651596867 w os = PySem.W.Fast.tw6244362003190856736 w os := by kernel_rfl
theorem sizeE (w : World) : PySem.W.Fast.tw10514693982987533042 w = (true, 11, some (.ref 6)) := by kernel_rfl
noncomputable def S1 (w : World) (os : OsState) : Shared := ⟨H1 w.params, Array.mk [], boot_drawn, 599, os⟩
noncomputable def c1 (w : World) (os : OsState) : Bool := staticsOk (importedModules pwQ.main.body) (boot_heap w.params) (H1 w.params) && namesBound pwQ (H1 w.params) && gensDone (S1 w os) && laidKept (boot_heap w.params) (H1 w.params)
noncomputable def c2 (w : World) (os : OsState) := seen ((recsOf Qv).map (·.name)) (ownsOf Qv) [] { S1 w os with gens := #[] }
noncomputable def c2' := expectedOf Qv
noncomputable def c3 (w : World) (os : OsState) := (S1 w os).heap.bltView
noncomputable def c3' := bltViewBooted
noncomputable def c4 (w : World) (os : OsState) : Bool := (S1 w os).heap.keysOk (looseW Qv lse) ((recsOf Qv).map (·.name)) ((litsOf Qv).map (·.1)) ((clssOf Qv (looseW Qv lse)).map (·.name)) && (S1 w os).heap.accountedOkI (importedModules pwQ.main.body) && (S1 w os).heap.isNs mainGlobals && (S1 w os).heap.isNs builtinsNs && tablesOk Qv (S1 w os).heap && Xt (S1 w os) && (if true then (S1 w os).gens.size == 0 else !leftWithCleanup (S1 w os).gens)
noncomputable def c5 (w : World) (os : OsState) := tabsOk Qv (S1 w os)
noncomputable def c6 (w : World) (os : OsState) := pinSeenD Qv (drecsOf Qv) (S1 w os)
noncomputable def c6' := pinGoodD (drecsOf Qv)
noncomputable def c7 (w : World) (os : OsState) := plainSeenE Qv (looseW Qv lse) (S1 w os)
noncomputable def c7' := plainGoodE Qv (looseW Qv lse)
noncomputable def c8 (w : World) (os : OsState) := plainSeenD Qv lse (S1 w os)
noncomputable def c8' := plainGoodD Qv lse
noncomputable def c9 (w : World) (os : OsState) := wideSeen Qv (S1 w os)
noncomputable def c9' := wideGood Qv
noncomputable def c10 (w : World) (os : OsState) := clsSeenW Qv lse (S1 w os)
noncomputable def c10' := clsGoodW Qv lse
noncomputable def c11 (w : World) := KA.map (H1 w.params).get?
noncomputable def c11' (w : World) := (KK w.params).map fun p => some p.2
noncomputable def T2 {α : Type} (_ : List α) : Bool := true
noncomputable def cT : Bool := T1 (T1 c1 c2 c2' c3 c3') (T1 c4 c5 c6 c6' c7) (T1 c7' c8 c8' c9 c9') (T1 c10 c10' c11 c11' c11) c11
theorem twins2 : cT = true := by k_qdec
theorem h1 (w : World) (os : OsState) : c1 w os = true := (congrFun (congrFun PySem.W.Fast.te10920333779067502452 w) os).trans (show PySem.W.Fast.tw10920333779067502452 w os = true by kernel_rfl)
theorem h2 (w : World) (os : OsState) : c2 w os = c2' := ((congrFun (congrFun PySem.W.Fast.te15298049041461200483 w) os).trans (show PySem.W.Fast.tw15298049041461200483 w os = PySem.W.Fast.tw8145393984083213835 by kernel_rfl)).trans PySem.W.Fast.te8145393984083213835.symm
theorem h3 (w : World) (os : OsState) : c3 w os = c3' := (congrFun (congrFun PySem.W.Fast.te9505515677306966007 w) os).trans (show PySem.W.Fast.tw9505515677306966007 w os = bltViewBooted by kernel_rfl)
theorem h4 (w : World) (os : OsState) : c4 w os = true := (congrFun (congrFun PySem.W.Fast.te8902883440061526510 w) os).trans (show PySem.W.Fast.tw8902883440061526510 w os = true by kernel_rfl)
theorem h5 (w : World) (os : OsState) : c5 w os = true := (congrFun (congrFun PySem.W.Fast.te112623482992817249 w) os).trans (show PySem.W.Fast.tw112623482992817249 w os = true by kernel_rfl)
theorem h6 (w : World) (os : OsState) : c6 w os = c6' := ((congrFun (congrFun PySem.W.Fast.te3388506972715701839 w) os).trans (show PySem.W.Fast.tw3388506972715701839 w os = PySem.W.Fast.tw11924729189265545270 by kernel_rfl)).trans PySem.W.Fast.te11924729189265545270.symm
theorem h7 (w : World) (os : OsState) : c7 w os = c7' := ((congrFun (congrFun PySem.W.Fast.te3964231150610930400 w) os).trans (show PySem.W.Fast.tw3964231150610930400 w os = PySem.W.Fast.tw9731080240744520703 by kernel_rfl)).trans PySem.W.Fast.te9731080240744520703.symm
theorem h8 (w : World) (os : OsState) : c8 w os = c8' := ((congrFun (congrFun PySem.W.Fast.te6159370609340956628 w) os).trans (show PySem.W.Fast.tw6159370609340956628 w os = PySem.W.Fast.tw17236375024367597389 by kernel_rfl)).trans PySem.W.Fast.te17236375024367597389.symm
theorem h9 (w : World) (os : OsState) : c9 w os = c9' := ((congrFun (congrFun PySem.W.Fast.te12235788490245954311 w) os).trans (show PySem.W.Fast.tw12235788490245954311 w os = PySem.W.Fast.tw145277328556879716 by kernel_rfl)).trans PySem.W.Fast.te145277328556879716.symm
theorem h10 (w : World) (os : OsState) : c10 w os = c10' := ((congrFun (congrFun PySem.W.Fast.te15207989009047853142 w) os).trans (show PySem.W.Fast.tw15207989009047853142 w os = PySem.W.Fast.tw10023420664617810962 by kernel_rfl)).trans PySem.W.Fast.te10023420664617810962.symm
theorem h11 (w : World) : c11 w = c11' w := by kernel_rfl
theorem left : LeftO pwQ Qv lse Xt (Hook.obs hook) (Hook.val hook) NN true := by
  refine LeftO.of_pieces (H₀ := boot_heap) (H₁ := H1) (gs₀ := Array.mk []) (gs₁ := Array.mk []) (d₀ := boot_drawn) (d₁ := boot_drawn) (k₀ := boot_toks) (k₁ := 599) (m₀ := 11) (ann := some (.ref 6)) (M := NN)
    (boot_open (by kernel_rfl) (by kernel_rfl) (fun s => by kernel_rfl)) (fun w => (congrFun PySem.W.Fast.te10514693982987533042 w).trans (sizeE w)) (fun w os => ?_) (by kernel_rfl) (fun w => funext fun os => ?_)
  · rw [tb_eq]
    exact ((congrFun (congrFun PySem.W.Fast.te15381529512651596867 w) os).trans (runE w os)).trans (congrFun (congrFun PySem.W.Fast.te6244362003190856736 w) os).symm
  · show (c1 w os, (c2 w os, c3 w os, c4 w os, c5 w os, c6 w os, c7 w os, c8 w os, c9 w os, c10 w os), c11 w) = (true, (c2', c3', true, true, c6', c7', c8', c9', c10'), c11' w)
    rw [h1 w os, h2 w os, h3 w os, h4 w os, h5 w os, h6 w os, h7 w os, h8 w os, h9 w os, h10 w os, h11 w]

end Mine
end PtMHd10
section PtLg1
open PySem PySem.W PyProof.Rows
namespace Mine

/-- what a program's value stands for -/
inductive V where
  | none
  | bool (b : Bool)
  | int (i : Int)
  | str (x : Str)
  | con (v : Value)
  | ref (a : Addr)
  | bm (id : String) (v : V)
  | eset
  | rng (i j k : Int)
  | tup (vs : List V)
  | mat (vs : List V)
  | lst (vs : List V)

/-- an instance of the class Match (at 135 in each of the texts): a tuple by its data -/
noncomputable def matchAt : Addr := 135
noncomputable def IsMat (h : Heap) (a : Addr) (items : Array Value) : Prop := ∃ n dd, h.get? a = some { cls := .ref matchAt, dict := dd, data := .seq items n }
noncomputable def IsBm (h : Heap) (a : Addr) (id : String) (y : Value) : Prop := ∃ cls, cls = "builtin_function_or_method" ∧ h.get? a = some { cls := .type cls, data := .fields #[.builtin id, y] }
noncomputable def IsEset (h : Heap) (a : Addr) : Prop := ∃ led, h.get? a = some { cls := .type "set", dict := none, data := .set #[] 0 (.fresh 0 0 led) }

mutual
noncomputable def Rep (h : Heap) (own : List Addr) : V → Value → Prop
  | .none, x => x = .none
  | .bool b, x => x = .bool b
  | .int i, x => ∃ t, x = .int i t
  | .str y, x => ∃ t, x = .str y t
  | .con c, x => x = c
  | .ref a, x => x = .ref a
  | .bm id v, x => ∃ a y, x = .ref a ∧ a ∉ own ∧ IsBm h a id y ∧ Rep h own v y
  | .eset, x => ∃ a, x = .ref a ∧ a ∉ own ∧ IsEset h a
  | .rng i j k, x => ∃ a t u v, x = .ref a ∧ a ∉ own ∧ IsRange h a i j k t u v
  | .tup vs, x => ∃ a items, x = .ref a ∧ a ∉ own ∧ IsTup h a items ∧ Reps h own vs items.toList
  | .mat vs, x => ∃ a items, x = .ref a ∧ a ∉ own ∧ IsMat h a items ∧ Reps h own vs items.toList
  | .lst vs, x => ∃ a items, x = .ref a ∧ a ∉ own ∧ h.PlainList a items ∧ Reps h own vs items.toList
noncomputable def Reps (h : Heap) (own : List Addr) : List V → List Value → Prop
  | [], l => l = []
  | v :: vs, l => ∃ x r, l = x :: r ∧ Rep h own v x ∧ Reps h own vs r
end

/-- objects that stand in h, not owned, with items or fields: kept -/
noncomputable def Fol (L : Addr) (own : List Addr) (h : Heap) (own' : List Addr) (h' : Heap) : Prop :=
  ∀ b o, h.get? b = some o → b ∉ own → b ≠ L → h'.get? b = some o ∧ b ∉ own'
theorem Fol.refl (L : Addr) (own : List Addr) (h : Heap) : Fol L own h own h := fun _ _ e n _ => ⟨e, n⟩
theorem Fol.trans {L : Addr} {o1 o2 o3 : List Addr} {h1 h2 h3 : Heap} (x : Fol L o1 h1 o2 h2) (y : Fol L o2 h2 o3 h3) : Fol L o1 h1 o3 h3 :=
  fun b o e n l => y b o (x b o e n l).1 (x b o e n l).2 l

/-- the objects that a value's reading goes through are kept -/
noncomputable def Seqs (own : List Addr) (h : Heap) (own' : List Addr) (h' : Heap) : Prop :=
  ∀ b o, h.get? b = some o → b ∉ own → (∀ es ep, o.data ≠ .dict es ep) → h'.get? b = some o ∧ b ∉ own'
theorem Fol.seqs {L : Addr} {o1 o2 : List Addr} {h1 h2 : Heap} {m : Str → Option Value} (x : Fol L o1 h1 o2 h2) (n : h1.Ns L m) : Seqs o1 h1 o2 h2 := by
  intro b o e nb nd
  refine x b o e nb ?_
  rintro rfl
  obtain ⟨o', es, ep, e', d, _⟩ := n
  rw [e] at e'; cases e'
  exact nd es ep d

mutual
theorem Rep.seqs {h h' : Heap} {own own' : List Addr} (S : Seqs own h own' h') : ∀ (v : V) (x : Value), Rep h own v x → Rep h' own' v x
  | .none, _, r => r
  | .bool _, _, r => r
  | .int _, _, r => r
  | .str _, _, r => r
  | .con _, _, r => r
  | .ref _, _, r => r
  | .bm id v, x, r => by
    obtain ⟨a, y, rfl, n, ⟨c, hc, e⟩, ry⟩ := r
    have := S a _ e n (fun _ _ q => by cases q)
    exact ⟨a, y, rfl, this.2, ⟨c, hc, this.1⟩, Rep.seqs S v y ry⟩
  | .eset, x, r => by
    obtain ⟨a, rfl, n, c, e⟩ := r
    have := S a _ e n (fun _ _ q => by cases q)
    exact ⟨a, rfl, this.2, c, this.1⟩
  | .rng i j k, x, r => by
    obtain ⟨a, t, u, v, rfl, n, e⟩ := r
    have := S a _ e n (fun _ _ q => by cases q)
    exact ⟨a, t, u, v, rfl, this.2, this.1⟩
  | .tup vs, x, r => by
    obtain ⟨a, items, rfl, n, ⟨o, e, c, k, d⟩, rs⟩ := r
    have := S a _ e n (fun _ _ q => by rw [d] at q; cases q)
    exact ⟨a, items, rfl, this.2, ⟨o, this.1, c, k, d⟩, Reps.seqs S vs _ rs⟩
  | .mat vs, x, r => by
    obtain ⟨a, items, rfl, n, ⟨k, dd, e⟩, rs⟩ := r
    have := S a _ e n (fun _ _ q => by cases q)
    exact ⟨a, items, rfl, this.2, ⟨k, dd, this.1⟩, Reps.seqs S vs _ rs⟩
  | .lst vs, x, r => by
    obtain ⟨a, items, rfl, n, ⟨k, e⟩, rs⟩ := r
    have := S a _ e n (fun _ _ q => by cases q)
    exact ⟨a, items, rfl, this.2, ⟨k, this.1⟩, Reps.seqs S vs _ rs⟩
theorem Reps.seqs {h h' : Heap} {own own' : List Addr} (S : Seqs own h own' h') : ∀ (vs : List V) (l : List Value), Reps h own vs l → Reps h' own' vs l
  | [], _, r => r
  | v :: vs, l, r => by
    obtain ⟨x, t, rfl, r1, r2⟩ := r
    exact ⟨x, t, rfl, Rep.seqs S v x r1, Reps.seqs S vs t r2⟩
end

noncomputable def OptRep (h : Heap) (own : List Addr) : Option V → Option Value → Prop
  | .none, x => x = .none
  | some v, x => ∃ val, x = some val ∧ Rep h own v val
theorem OptRep.seqs {h h' : Heap} {own own' : List Addr} (S : Seqs own h own' h') {v : Option V} {x : Option Value} (r : OptRep h own v x) : OptRep h' own' v x := by
  cases v with
  | none => exact r
  | some v => obtain ⟨val, rfl, r⟩ := r; exact ⟨val, rfl, r.seqs S⟩

/-- an object that the call may change -/
inductive O where
  | list (vs : List V)
  | map (f : Int → Option V) (n : Nat)
  | inst (C d : Addr)
  | attrs (f : Str → Option V) (n : Nat)
  | cell (v : Option V)

section
variable (prog : Program) (w : World)
noncomputable def OAt (h : Heap) (own : List Addr) (a : Addr) : O → Prop
  | .list vs => ∃ items, h.PlainList a items ∧ Reps h own vs items.toList
  | .map f n => ∃ g, h.MapOf (intKind prog w) a g ∧ h.DictLe a n ∧ ∀ k, OptRep h own (f k) (g k)
  | .inst C d => h.get? a = some { cls := .ref C, dict := some d }
  | .attrs f n => ∃ m, h.Ns a m ∧ h.DictLe a n ∧ ∀ x, OptRep h own (f x) (m x)
  | .cell v => ∃ x, h.IsCell a x ∧ OptRep h own v x

structure St where
  vars : List (Str × V)
  own : List (Addr × O)

structure Cx where
  top : Heap
  h₀ : Heap
  lent : List Addr
  hid : List Addr
  gens : Array GenState
  os : OsState

noncomputable def Cx.adr (c : Cx) (st : St) : List Addr := st.own.map (·.1) ++ c.hid

structure At (c : Cx) (env : Env) (st : St) (s : Shared) : Prop where
  vars : ∃ m, s.heap.Ns env.locals m ∧ ∀ x v, st.vars.lookup x = some v → ∃ val, m x = some val ∧ Rep s.heap (c.adr st) v val
  keep : ∀ b o, c.h₀.get? b = some o → b ∉ c.lent → s.heap.get? b = some o
  own : ∀ p ∈ st.own, OAt prog w s.heap (c.adr st) p.1 p.2
  nodup : (st.own.map (·.1)).Nodup
  off : env.locals ∉ (c.adr st)
  fresh : ∀ p ∈ st.own, c.top.get? p.1 = Option.none ∧ (p.1 ∈ c.lent ∨ c.h₀.get? p.1 = Option.none)
  top : ∀ b o, c.top.get? b = some o → s.heap.get? b = some o
  low : c.top.objs.size ≤ c.h₀.objs.size
  hid : ∀ a ∈ c.hid, a < c.h₀.objs.size ∧ a ∉ st.own.map (·.1) ∧ a ∉ c.lent ∧ c.top.get? a = Option.none
  above : c.h₀.objs.size ≤ env.locals
  gens : s.gens = c.gens
  os : s.os = c.os

/-- a value and what holds of it -/
inductive Vp (c : Cx) (Q : V → St → Prop) (s' : Shared) (st' : St) (x : Value) : Prop
  | mk (v : V) (r : Rep s'.heap (c.adr st') v x) (q : Q v st')
inductive Vps (c : Cx) (Q : List V → St → Prop) (s' : Shared) (st' : St) (x : List Value) : Prop
  | mk (v : List V) (r : Reps s'.heap (c.adr st') v x) (q : Q v st')
/-- an operation's value and what holds of it -/
inductive OpE (O : V → Prop) (Q : V → Prop) : Prop
  | mk (v : V) (o : O v) (q : Q v)
inductive OpB (O : V → Prop) (Q : Bool → Prop) : Prop
  | mk (v : Bool) (o : O (.bool v)) (q : Q v)
inductive MeE (C : Addr) (name : Str) (v : V) (own : List (Addr × O)) (Q : Addr → Prop) : Prop
  | mk (x d : Addr) (f : Str → Option V) (z : Nat) (e : v = .ref x) (i : (x, .inst C d) ∈ own) (a : (d, .attrs f z) ∈ own) (n : f name = Option.none) (q : Q x)
inductive FnE (F : List (Addr × O) → (V → List (Addr × O) → Prop) → Prop) (st : St) (Q : V → St → Prop) : Prop
  | mk (objs rest : List (Addr × O)) (post : V → List (Addr × O) → Prop) (p : st.own.Perm (objs ++ rest)) (f : F objs post) (q : ∀ u objs', post u objs' → Q u ⟨st.vars, objs' ++ rest⟩)
inductive UnE (U : List V → Prop) (n : Nat) (Q : List V → Prop) : Prop
  | mk (vs : List V) (u : U vs) (l : vs.length = n) (q : Q vs)
inductive LsE (v : V) (Q : List V → Prop) : Prop
  | mk (vs : List V) (e : v = .lst vs) (q : Q vs)
inductive ForE (n : Nat) (st : St) (T : (Nat → St → Prop) → Prop) (D : St → Prop) : Prop
  | mk (J : Nat → St → Prop) (z : J 0 st) (t : T J) (d : ∀ st₂, J n st₂ → D st₂)
inductive CoE (l : Prop) (B : (V → Option V) → Prop) (Q : (V → Option V) → Prop) : Prop
  | mk (z : l) (out : V → Option V) (b : B out) (q : Q out)
inductive SlE (L : List V → Prop) (Q : List V → Prop) : Prop
  | mk (vs : List V) (l : L vs) (z : vs.length ≤ sizeLine) (q : Q vs)
structure AOk (n : Nat) (A : Around) : Prop where
  handled : A.handled = Option.none
  depth : A.depth + n ≤ 990
  units : A.units + 20 * n ≤ 9000

/-- the end of a tree's run, told from where it began -/
inductive Pst (c : Cx) (env : Env) (st : St) (s : Shared) {α : Type} (R : Shared → St → α → Prop) (x : α) (s' : Shared) : Prop
  | mk (st' : St) (at_ : At prog w c env st' s') (fol : Fol env.locals (c.adr st) s.heap (c.adr st') s'.heap) (rel : R s' st' x)
noncomputable abbrev Wp (c : Cx) (env : Env) (A : Around) {α : Type} (t : Sem α) (R : Shared → St → α → Prop) (st : St) (s : Shared) : Prop :=
  wpAny (model prog w) A t (Pst prog w c env st s R) (fun _ _ => False) s

noncomputable def W (c : Cx) (env : Env) (A : Around) (e : Expr) (st : St) (Q : V → St → Prop) : Prop :=
  ∀ s, At prog w c env st s → Wp prog w c env A (eval e env) (Vp c Q) st s
end
end Mine
end PtLg1
section PtLg2
open PySem PySem.W PyProof.Rows
namespace Mine
section
variable {prog : Program} {w : World} {c : Cx} {env : Env} {A : Around} {st st' : St} {s s' : Shared}

theorem Fol.of_keep {L : Addr} {own : List Addr} {h h' : Heap} (k : ∀ b o, h.get? b = some o → h'.get? b = some o) : Fol L own h own h' := fun b o e n _ => ⟨k b o e, n⟩

/-- nothing that stands is changed -/
structure Quiet (s s' : Shared) : Prop where
  keep : ∀ b o, s.heap.get? b = some o → s'.heap.get? b = some o
  gens : s'.gens = s.gens
  os : s'.os = s.os
theorem Quiet.refl (s : Shared) : Quiet s s := ⟨fun _ _ e => e, rfl, rfl⟩
theorem Quiet.toks (s : Shared) (t : Nat) : Quiet s { s with toks := t } := ⟨fun _ _ e => e, rfl, rfl⟩
theorem Quiet.push (s : Shared) (o : Obj) (t : Nat) : Quiet s { s with heap := s.heap.push o, toks := t } := ⟨fun _ _ e => Heap.get?_push_of_some _ e, rfl, rfl⟩
theorem Quiet.seqs (q : Quiet s s') (own : List Addr) : Seqs own s.heap own s'.heap := fun b o e n _ => ⟨q.keep b o e, n⟩
theorem Rep.quiet (q : Quiet s s') {own : List Addr} {v : V} {x : Value} (r : Rep s.heap own v x) : Rep s'.heap own v x := Rep.seqs (q.seqs own) v x r
theorem Reps.quiet (q : Quiet s s') {own : List Addr} {v : List V} {x : List Value} (r : Reps s.heap own v x) : Reps s'.heap own v x := Reps.seqs (q.seqs own) v x r
theorem Fol.quiet (q : Quiet s s') (L : Addr) (own : List Addr) : Fol L own s.heap own s'.heap := Fol.of_keep q.keep

theorem OAt.keeps {h h' : Heap} {own : List Addr} {a : Addr} {o : O} (k : ∀ b o, h.get? b = some o → h'.get? b = some o) (x : OAt prog w h own a o) : OAt prog w h' own a o := by
  have S : Seqs own h own h' := fun b o e n _ => ⟨k b o e, n⟩
  cases o with
  | list vs => obtain ⟨items, p, r⟩ := x; exact ⟨items, p.at fun o e => k _ _ e, r.seqs S⟩
  | map f n =>
    obtain ⟨g, ⟨o, es, ep, e, y⟩, l, r⟩ := x
    refine ⟨g, ⟨o, es, ep, k _ _ e, y⟩, fun o' es' ep' e' d => ?_, fun i => (r i).seqs S⟩
    rw [k _ _ e] at e'; cases e'
    exact l o es' ep' e d
  | inst C d => exact k _ _ x
  | attrs f z =>
    obtain ⟨m, ⟨o, es, ep, e, y⟩, l, r⟩ := x
    refine ⟨m, ⟨o, es, ep, k _ _ e, y⟩, fun o' es' ep' e' d => ?_, fun i => (r i).seqs S⟩
    rw [k _ _ e] at e'; cases e'
    exact l o es' ep' e d
  | cell v => 
    obtain ⟨y, n, r⟩ := x
    refine ⟨y, ?_, r.seqs S⟩
    obtain ⟨o, e, d⟩ := n
    exact ⟨o, k _ _ e, d⟩

theorem At.quiet (a : At prog w c env st s) (q : Quiet s s') : At prog w c env st s' where
  vars := by
    obtain ⟨m, n, r⟩ := a.vars
    exact ⟨m, n.keeps q.keep, fun x v e => let ⟨val, h1, h2⟩ := r x v e; ⟨val, h1, h2.quiet q⟩⟩
  keep := fun b o e n => q.keep b o (a.keep b o e n)
  own := fun p hp => (a.own p hp).keeps q.keep
  nodup := a.nodup
  off := a.off
  fresh := a.fresh
  top := fun b o e => q.keep b o (a.top b o e)
  low := a.low
  hid := a.hid
  above := a.above
  gens := q.gens.trans a.gens
  os := q.os.trans a.os

theorem At.seqs (a : At prog w c env st s) {own' : List Addr} {h' : Heap} (F : Fol env.locals (c.adr st) s.heap own' h') : Seqs (c.adr st) s.heap own' h' := by
  obtain ⟨m, n, _⟩ := a.vars
  exact F.seqs n
theorem At.rep (a : At prog w c env st s) {own' : List Addr} {h' : Heap} (F : Fol env.locals (c.adr st) s.heap own' h') {v : V} {x : Value} (r : Rep s.heap (c.adr st) v x) : Rep h' own' v x := Rep.seqs (a.seqs F) v x r
theorem At.reps (a : At prog w c env st s) {own' : List Addr} {h' : Heap} (F : Fol env.locals (c.adr st) s.heap own' h') {v : List V} {x : List Value} (r : Reps s.heap (c.adr st) v x) : Reps h' own' v x := Reps.seqs (a.seqs F) v x r

theorem Pst.here {α : Type} {R : Shared → St → α → Prop} {x : α} (a : At prog w c env st s) (r : R s st x) : Pst prog w c env st s R x s := ⟨st, a, Fol.refl _ _ _, r⟩
theorem Pst.from {α : Type} {R : Shared → St → α → Prop} {x : α} {s₁ s' : Shared} {st₁ : St} (F : Fol env.locals (c.adr st) s.heap (c.adr st₁) s₁.heap) (p : Pst prog w c env st₁ s₁ R x s') : Pst prog w c env st s R x s' :=
  let ⟨st', a, F', r⟩ := p; ⟨st', a, F.trans F', r⟩
theorem Pst.mono {α : Type} {R R' : Shared → St → α → Prop} {x : α} (p : Pst prog w c env st s R x s') (h : ∀ s' st' x, At prog w c env st' s' → R s' st' x → R' s' st' x) : Pst prog w c env st s R' x s' :=
  let ⟨st', a, F', r⟩ := p; ⟨st', a, F', h _ _ _ a r⟩

theorem Wp.bind {α β : Type} {m : Sem α} {f : α → Sem β} {R : Shared → St → β → Prop} (h : Wp prog w c env A m (fun s₁ st₁ x => Wp prog w c env A (f x) R st₁ s₁) st s) : Wp prog w c env A (m >>= f) R st s :=
  wpAny_bind (wpAny_mono h (fun _ _ ⟨_, _, F, r⟩ => wpAny_mono r (fun _ _ p => Pst.from F p) fun _ _ e => e) fun _ _ e => e)
theorem Wp.mono {α : Type} {m : Sem α} {R R' : Shared → St → α → Prop} (h : Wp prog w c env A m R st s) (k : ∀ s' st' x, At prog w c env st' s' → R s' st' x → R' s' st' x) : Wp prog w c env A m R' st s :=
  wpAny_mono h (fun _ _ p => p.mono k) fun _ _ e => e
theorem Wp.pure {α : Type} {x : α} {R : Shared → St → α → Prop} (a : At prog w c env st s) (r : R s st x) : Wp prog w c env A (Pure.pure x) R st s := wpAny_pure (Pst.here a r)
theorem Wp.quiet {α : Type} {t : Sem α} {R : Shared → St → α → Prop} (a : At prog w c env st s) (h : wpAny (model prog w) A t (fun x s' => Quiet s s' ∧ (At prog w c env st s' → R s' st x)) (fun _ _ => False) s) : Wp prog w c env A t R st s :=
  wpAny_mono h (fun _ s' ⟨q, r⟩ => ⟨st, a.quiet q, Fol.quiet q _ _, r (a.quiet q)⟩) fun _ _ e => e

theorem wpAny_release {M : Model} {E : Value → Shared → Prop} {vs keep : List Value} {Q : Unit → Shared → Prop} (h : Q () s) : wpAny M A (release vs keep) Q E s := by
  unfold release
  generalize vs.filter _ = l
  induction l with
  | nil => exact wpAny_pure h
  | cons x l ih =>
    cases l with
    | nil => exact wpAny_pure h
    | cons y l => exact wpAny_bind (wpAny_holding (wpAny_point ih))
theorem wpAny_operate {M : Model} {E : Value → Shared → Prop} {vs : List Value} {m : Sem Value} {Q : Value → Shared → Prop} (h : wpAny M A m Q E s) : wpAny M A (operate vs m) Q E s :=
  wpAny_bind (wpAny_holding (wpAny_mono h (fun _ _ q => wpAny_bind (wpAny_release (wpAny_pure q))) fun _ _ e => e))

theorem OAt.lt {h : Heap} {own : List Addr} {a : Addr} {o : O} (x : OAt prog w h own a o) : a < h.objs.size := by
  cases o with
  | list vs => obtain ⟨items, ⟨_, e⟩, _⟩ := x; exact Heap.lt_size e
  | map f n => obtain ⟨g, ⟨_, _, _, e, _⟩, _, _⟩ := x; exact Heap.lt_size e
  | inst C d => exact Heap.lt_size x
  | attrs f z => obtain ⟨m, n, _⟩ := x; exact n.lt
  | cell v => obtain ⟨y, ⟨_, e, _⟩, _⟩ := x; exact Heap.lt_size e
theorem At.size (a : At prog w c env st s) : c.h₀.objs.size < s.heap.objs.size := by
  obtain ⟨m, n, _⟩ := a.vars
  exact Nat.lt_of_le_of_lt a.above n.lt
theorem At.lt (a : At prog w c env st s) : ∀ b ∈ c.adr st, b < s.heap.objs.size ∧ c.top.get? b = Option.none := fun b hb => by
  rcases List.mem_append.mp hb with h | h
  · obtain ⟨p, hp, rfl⟩ := List.mem_map.mp h; exact ⟨(a.own p hp).lt, (a.fresh p hp).1⟩
  · exact ⟨Nat.lt_trans (a.hid b h).1 a.size, (a.hid b h).2.2.2⟩

/-- a pure operation over values -/
noncomputable def Op (prog : Program) (w : World) (top : Heap) (n : Nat) (t : List Value → Sem Value) (vs : List V) (v : V) : Prop :=
  ∀ (A : Around) (s : Shared) (own : List Addr) (xs : List Value), AOk n A → (∀ b o, top.get? b = some o → s.heap.get? b = some o) → top.objs.size ≤ s.heap.objs.size → (∀ a ∈ own, a < s.heap.objs.size ∧ top.get? a = none) → Reps s.heap own vs xs → wpAny (model prog w) A (t xs) (fun x s' => Rep s'.heap own v x ∧ Quiet s s') (fun _ _ => False) s

theorem Wp.op {n : Nat} {t : List Value → Sem Value} {vs : List V} {v : V} {xs : List Value} {R : Shared → St → Value → Prop} (o : Op prog w c.top n t vs v) (hA : AOk n A) (a : At prog w c env st s) (r : Reps s.heap (c.adr st) vs xs)
    (h : ∀ s' x, At prog w c env st s' → Rep s'.heap (c.adr st) v x → R s' st x) : Wp prog w c env A (t xs) R st s :=
  Wp.quiet a (wpAny_mono (o A s _ xs hA a.top (Nat.le_trans a.low (Nat.le_of_lt a.size)) a.lt r) (fun x s' ⟨r, q⟩ => ⟨q, fun a' => h s' x a' r⟩) fun _ _ e => e)

theorem Reps.two {h : Heap} {own : List Addr} {v u : V} {x y : Value} (a : Rep h own v x) (b : Rep h own u y) : Reps h own [v, u] [x, y] := ⟨x, [y], rfl, a, y, [], rfl, b, rfl⟩
theorem Reps.one {h : Heap} {own : List Addr} {v : V} {x : Value} (a : Rep h own v x) : Reps h own [v] [x] := ⟨x, [], rfl, a, rfl⟩

theorem W.mono {e : Expr} {Q Q' : V → St → Prop} (h : W prog w c env A e st Q) (k : ∀ v st', Q v st' → Q' v st') : W prog w c env A e st Q' :=
  fun s a => Wp.mono (h s a) fun _ _ _ _ ⟨v, r, q⟩ => ⟨v, r, k _ _ q⟩
theorem W.int {i : Int} {k : Nat} {pos : Pos} {Q : V → St → Prop} (h : Q (.int i) st) : W prog w c env A (.Constant (.int i) k pos) st Q :=
  fun s a => Wp.quiet a (wpAny_Constant_int ⟨Quiet.toks _ _, fun _ => ⟨.int i, ⟨_, rfl⟩, h⟩⟩)
theorem W.str {i : Str} {k : Nat} {pos : Pos} {Q : V → St → Prop} (h : Q (.str i) st) : W prog w c env A (.Constant (.str i) k pos) st Q :=
  fun s a => Wp.quiet a (Calls.Constant_str ⟨Quiet.toks _ _, fun _ => ⟨.str i, ⟨_, rfl⟩, h⟩⟩)
theorem W.none {k : Nat} {pos : Pos} {Q : V → St → Prop} (h : Q .none st) : W prog w c env A (.Constant .none k pos) st Q :=
  fun _ a => Wp.pure a ⟨.none, rfl, h⟩
theorem W.bool {b : Bool} {k : Nat} {pos : Pos} {Q : V → St → Prop} (h : Q (.bool b) st) : W prog w c env A (.Constant (.bool b) k pos) st Q :=
  fun _ a => Wp.pure a ⟨.bool b, rfl, h⟩
theorem W.loc {x : Str} {pos : Pos} {v : V} {Q : V → St → Prop} (hv : st.vars.lookup x = some v) (h : Q v st)
    (hk : env.scope.kind = .function := by rfl) (hl : env.kindOf x = some .local := by rfl) (hd : (x == ("__debug__" : Str)) = false := by decide) : W prog w c env A (.Name x pos) st Q := fun s a => by
  obtain ⟨m, n, r⟩ := a.vars
  obtain ⟨val, hm, hr⟩ := r x v hv
  exact wpAny_Name (wpAny_loadName_local hk hl n hm (Pst.here a ⟨v, hr, h⟩)) hd
theorem W.bin {l r : Expr} {op : Operator} {pos : Pos} {n : Nat} {Q : V → St → Prop} (hA : AOk n A)
    (h : W prog w c env A l st (fun va st₁ => W prog w c env A r st₁ (fun vb st₂ => OpE (Op prog w c.top n (fun xs => binaryOp op (xs.getD 0 .none) (xs.getD 1 .none)) [va, vb]) fun v => Q v st₂))) : W prog w c env A (.BinOp l op r pos) st Q := fun s a => by
  rw [eval_BinOp]
  refine Wp.bind (Wp.mono (h s a) fun s₁ st₁ x a₁ ⟨va, ra, h₁⟩ => ?_)
  refine wpAny_bind (wpAny_holding (wpAny_mono (h₁ s₁ a₁) (fun y s₂ p => ?_) fun _ _ e => e))
  obtain ⟨st₂, a₂, F, vb, rb, v, o, q⟩ := p
  refine wpAny_bind (wpAny_standAt (wpAny_operate ?_))
  exact wpAny_mono (Wp.op (xs := [x, y]) o hA a₂ (Reps.two (a₁.rep F ra) rb) fun s' x a' r' => (⟨v, r', q⟩ : Vp c Q s' st₂ x)) (fun _ _ p => Pst.from F p) fun _ _ e => e
end
end Mine
end PtLg2
section PtLg3
open PySem PySem.W PyProof.Rows
namespace Mine
inductive Fl where
  | next | brk | cont
  | ret (v : V)
noncomputable def FRep (h : Heap) (own : List Addr) : Fl → Flow → Prop
  | .next, f => f = .next
  | .brk, f => f = .brk
  | .cont, f => f = .cont
  | .ret v, f => ∃ x, f = .ret x ∧ Rep h own v x
noncomputable def St.set (st : St) (x : Str) (v : V) : St := ⟨(x, v) :: st.vars, st.own⟩
inductive Fp (c : Cx) (Q : Fl → St → Prop) (s' : Shared) (st' : St) (f : Flow) : Prop
  | mk (fl : Fl) (r : FRep s'.heap (c.adr st') fl f) (q : Q fl st')
section
variable (prog : Program) (w : World)
noncomputable def WX (c : Cx) (env : Env) (A : Around) (t : Stmt) (st : St) (Q : Fl → St → Prop) : Prop :=
  ∀ s, At prog w c env st s → Wp prog w c env A (exec t env) (Fp c Q) st s
noncomputable def WS (c : Cx) (env : Env) (A : Around) (l : List Stmt) (st : St) (Q : Fl → St → Prop) : Prop :=
  ∀ s, At prog w c env st s → Wp prog w c env A (execs l env) (Fp c Q) st s
/-- a test -/
noncomputable def WB (c : Cx) (env : Env) (A : Around) (e : Expr) (st : St) (Q : Bool → St → Prop) : Prop :=
  ∀ s, At prog w c env st s → Wp prog w c env A (isTrue e env (eval e env)) (fun _ st' b => Q b st') st s
end
section
variable {prog : Program} {w : World} {c : Cx} {env : Env} {A : Around} {st st' : St} {s s' : Shared} {Q : Fl → St → Prop}
theorem WX.mono {t : Stmt} {Q' : Fl → St → Prop} (h : WX prog w c env A t st Q) (k : ∀ f st', Q f st' → Q' f st') : WX prog w c env A t st Q' :=
  fun s a => Wp.mono (h s a) fun _ _ _ _ ⟨v, r, q⟩ => ⟨v, r, k _ _ q⟩
theorem WS.mono {t : List Stmt} {Q' : Fl → St → Prop} (h : WS prog w c env A t st Q) (k : ∀ f st', Q f st' → Q' f st') : WS prog w c env A t st Q' :=
  fun s a => Wp.mono (h s a) fun _ _ _ _ ⟨v, r, q⟩ => ⟨v, r, k _ _ q⟩
theorem WS.nil (h : Q .next st) : WS prog w c env A [] st Q := fun s a => Wp.pure a ⟨.next, rfl, h⟩
theorem WS.cons {t : Stmt} {l : List Stmt} (h : WX prog w c env A t st (fun f st₁ => match f with | .next => WS prog w c env A l st₁ Q | f => Q f st₁)) : WS prog w c env A (t :: l) st Q := fun s a => by
  rw [execs_cons]
  refine Wp.bind (Wp.mono (h s a) fun s₁ st₁ f a₁ ⟨fl, r, q⟩ => ?_)
  cases fl with
  | next => cases r; exact q s₁ a₁
  | brk => cases r; exact Wp.pure a₁ ⟨.brk, rfl, q⟩
  | cont => cases r; exact Wp.pure a₁ ⟨.cont, rfl, q⟩
  | ret v => obtain ⟨x, rfl, r⟩ := r; exact Wp.pure a₁ ⟨.ret v, ⟨x, rfl, r⟩, q⟩

theorem At.set (a : At prog w c env st s) {x : Str} {v : V} {val : Value} (r : Rep s.heap (c.adr st) v val) {m : Str → Option Value} (hm : ∀ y u, st.vars.lookup y = some u → ∃ val, m y = some val ∧ Rep s.heap (c.adr st) u val) {h' : Heap} {t : Nat}
    (n : h'.Ns env.locals (fun y => if y = x then some val else m y)) (k : Heap.SameBut env.locals s.heap h') : At prog w c env (st.set x v) { s with heap := h', toks := t } ∧ Fol env.locals (c.adr st) s.heap (c.adr (st.set x v)) h' := by
  have F : Fol env.locals (c.adr st) s.heap (c.adr st) h' := fun b o e nb nl => ⟨(k.2 b nl).trans e, nb⟩
  have S := a.seqs F
  refine ⟨⟨⟨_, n, fun y u e => ?_⟩, fun b o e nb => ?_, fun p hp => ?_, a.nodup, a.off, a.fresh, fun b o e => ?_, a.low, a.hid, a.above, a.gens, a.os⟩, F⟩
  · by_cases q : y = x
    · subst q
      simp only [St.set, List.lookup_cons, beq_self_eq_true] at e
      cases e
      exact ⟨val, by simp, Rep.seqs S _ _ r⟩
    · have q' : (y == x) = false := by simpa using q
      simp only [St.set, List.lookup_cons, q'] at e
      obtain ⟨val', h1, h2⟩ := hm y u e
      exact ⟨val', by simp [q, h1], Rep.seqs S _ _ h2⟩
  · have : b ≠ env.locals := fun q => absurd (Heap.lt_size e) (by rw [q]; exact Nat.not_lt.mpr a.above)
    exact (k.2 b this).trans (a.keep b o e nb)
  · have hne : p.1 ≠ env.locals := fun q => a.off (List.mem_append_left _ (q ▸ List.mem_map_of_mem hp))
    have x := a.own p hp
    show OAt prog w h' (c.adr st) p.1 p.2
    obtain ⟨b, o⟩ := p
    cases o with
    | list vs => obtain ⟨items, ⟨i, e⟩, r⟩ := x; exact ⟨items, ⟨i, (k.2 b hne).trans e⟩, Reps.seqs S _ _ r⟩
    | map f n =>
      obtain ⟨g, m', l, r⟩ := x
      refine ⟨g, m'.sameBut k hne, l.sameBut k hne, fun i => (r i).seqs S⟩
    | inst C d => exact (k.2 b hne).trans x
    | attrs f z => obtain ⟨m', n', l, r⟩ := x; exact ⟨m', n'.sameBut k hne, l.sameBut k hne, fun i => (r i).seqs S⟩
    | cell v => obtain ⟨y, ⟨o, e, d⟩, r⟩ := x; exact ⟨y, ⟨o, (k.2 b hne).trans e, d⟩, r.seqs S⟩
  · have : b ≠ env.locals := fun q => absurd (Heap.lt_size e) (by rw [q]; exact Nat.not_lt.mpr (Nat.le_trans a.low a.above))
    exact (k.2 b this).trans (a.top b o e)

theorem Wp.store {x : Str} {v : V} {val : Value} {R : Shared → St → Unit → Prop} (a : At prog w c env st s) (r : Rep s.heap (c.adr st) v val) (h : ∀ s', At prog w c env (st.set x v) s' → R s' (st.set x v) ())
    (hk : env.scope.kind = .function) (hl : env.kindOf x = some .local) : Wp prog w c env A (storeName env x val) R st s := by
  obtain ⟨m, n, hm⟩ := a.vars
  refine wpAny_storeName_local hl n (fun h' n' k => ?_) (by rw [hk]; rfl)
  obtain ⟨a', F⟩ := a.set r hm (t := s.toks + 1) n' k
  exact ⟨_, a', F, h _ a'⟩

theorem WX.assign {x : Str} {p pos : Pos} {e : Expr} (h : W prog w c env A e st (fun v st₁ => Q .next (st₁.set x v)))
    (hk : env.scope.kind = .function := by rfl) (hl : env.kindOf x = some .local := by rfl) (hs : swapsWith e (some (.Name x p)) pos.line env = pure false := by rfl) : WX prog w c env A (.Assign [.Name x p] e pos) st Q := fun s a =>
  wpAny_Assign_Name (wpAny_mono (h s a) (fun val s₁ ⟨st₁, a₁, F, v, r, q⟩ => wpAny_mono (Wp.store (R := fun _ st' _ => Q .next st') a₁ r (fun _ _ => q) hk hl) (fun _ _ ⟨st₂, a₂, F₂, q₂⟩ => ⟨st₂, a₂, F.trans F₂, .next, rfl, q₂⟩) fun _ _ e => e) fun _ _ e => e) hs
theorem WX.ret {e : Expr} {pos : Pos} (h : W prog w c env A e st (fun v st₁ => Q (.ret v) st₁)) : WX prog w c env A (.Return (some e) pos) st Q := fun s a =>
  wpAny_Return_some (wpAny_mono (h s a) (fun x s₁ ⟨st₁, a₁, F, v, r, q⟩ => ⟨st₁, a₁, F, .ret v, ⟨x, rfl, r⟩, q⟩) fun _ _ e => e)
theorem WX.brk {pos : Pos} (h : Q .brk st) : WX prog w c env A (.Break pos) st Q := fun s a => wpAny_Break (Pst.here a ⟨.brk, rfl, h⟩)
theorem WX.cont {pos : Pos} (h : Q .cont st) : WX prog w c env A (.Continue pos) st Q := fun s a => wpAny_Continue (Pst.here a ⟨.cont, rfl, h⟩)
theorem WX.ifs {t : Expr} {b o : List Stmt} {pos : Pos} (h : WB prog w c env A t st (fun x st₁ => if x then WS prog w c env A b st₁ Q else WS prog w c env A o st₁ Q)) : WX prog w c env A (.If t b o pos) st Q := fun s a => by
  rw [exec_If]
  refine wpAny_bind (wpAny_standAt ?_)
  refine Wp.bind (Wp.mono (h s a) fun s₁ st₁ x a₁ q => ?_)
  cases x with
  | true => exact q s₁ a₁
  | false => exact q s₁ a₁

/-- while: a word over the state, a measure -/
theorem WX.while {t : Expr} {b : List Stmt} {pos : Pos} (I : Nat → St → Prop) (n : Nat) (h0 : I n st)
    (turn : ∀ n st, I n st → WB prog w c env A t st (fun x st₁ => if x then WS prog w c env A b st₁ (fun f st₂ => match f with | .next | .cont => ∃ m, m < n ∧ I m st₂ | .brk => Q .next st₂ | .ret v => Q (.ret v) st₂) else Q .next st₁)) :
    WX prog w c env A (.While t b [] pos) st Q := fun s a => by
  refine wpAny_While ?_
  refine codeAny_whileLoop (fun n s₁ => ∃ st₁, At prog w c env st₁ s₁ ∧ Fol env.locals (c.adr st) s.heap (c.adr st₁) s₁.heap ∧ I n st₁) (fun n s₁ ⟨st₁, a₁, F₁, i₁⟩ => ?_) n ⟨st, a, Fol.refl _ _ _, h0⟩
  refine wpAny_mono (turn n st₁ i₁ s₁ a₁) (fun x s₂ ⟨st₂, a₂, F₂, q⟩ => ?_) (fun _ _ e => e.elim)
  cases x with
  | false => exact wpAny_execs_nil ⟨st₂, a₂, F₁.trans F₂, .next, rfl, q⟩
  | true =>
    refine wpAny_mono (q s₂ a₂) (fun f s₃ ⟨st₃, a₃, F₃, fl, r, q⟩ => ?_) (fun _ _ e => e.elim)
    have F := (F₁.trans F₂).trans F₃
    cases fl with
    | next => cases r; obtain ⟨m, hm, i⟩ := q; exact ⟨m, hm, st₃, a₃, F, i⟩
    | cont => cases r; obtain ⟨m, hm, i⟩ := q; exact ⟨m, hm, st₃, a₃, F, i⟩
    | brk => cases r; exact ⟨st₃, a₃, F, .next, rfl, q⟩
    | ret v => obtain ⟨x, rfl, r⟩ := r; exact ⟨st₃, a₃, F, .ret v, ⟨x, rfl, r⟩, q⟩
end
end Mine
end PtLg3
section PtLg4
open PySem PySem.W PyProof.Rows
namespace Mine
/-- fewer owned: a value stands for no less -/
theorem Rep.less {h : Heap} {own own' : List Addr} (k : ∀ a, a ∈ own' → a ∈ own) {v : V} {x : Value} (r : Rep h own v x) : Rep h own' v x :=
  Rep.seqs (fun b o e n _ => ⟨e, fun q => n (k b q)⟩) v x r
theorem Reps.less {h : Heap} {own own' : List Addr} (k : ∀ a, a ∈ own' → a ∈ own) {v : List V} {x : List Value} (r : Reps h own v x) : Reps h own' v x :=
  Reps.seqs (fun b o e n _ => ⟨e, fun q => n (k b q)⟩) v x r

noncomputable def Fl.val : Fl → V
  | .ret v => v
  | _ => .none
/-- names bound to values -/
noncomputable def Bound (h : Heap) (own : List Addr) : List (Str × V) → List (Str × Value) → Prop
  | [], l => l = []
  | (y, v) :: vs, l => ∃ x r, l = (y, x) :: r ∧ Rep h own v x ∧ Bound h own vs r
theorem Bound.names {h : Heap} {own : List Addr} : ∀ {vs : List (Str × V)} {l : List (Str × Value)}, Bound h own vs l → l.map (·.1) = vs.map (·.1)
  | [], _, r => by cases r; rfl
  | (y, v) :: vs, _, ⟨x, r, e, _, b⟩ => by subst e; simp [b.names]
theorem Bound.lookup {h : Heap} {own : List Addr} : ∀ {vs : List (Str × V)} {l : List (Str × Value)} {y : Str} {v : V}, Bound h own vs l → vs.lookup y = some v → ∃ x, l.lookup y = some x ∧ Rep h own v x
  | (z, u) :: vs, _, y, v, ⟨x, r, e, p, b⟩, q => by
    subst e
    rw [List.lookup_cons] at q ⊢
    cases hz : y == z with
    | true => rw [hz] at q; cases q; exact ⟨x, rfl, p⟩
    | false => rw [hz] at q; exact b.lookup q
theorem lookup_append' {α : Type} : ∀ (l k : List (Str × α)) (y : Str), (l ++ k).lookup y = (l.lookup y).or (k.lookup y)
  | [], k, y => by simp
  | (z, u) :: l, k, y => by
    rw [List.cons_append, List.lookup_cons, List.lookup_cons]
    cases y == z with
    | true => simp
    | false => exact lookup_append' l k y
theorem lookup_none' {α : Type} : ∀ {l : List (Str × α)} {y : Str}, y ∉ l.map (·.1) → l.lookup y = none
  | [], _, _ => rfl
  | (z, u) :: l, y, n => by
    rw [List.lookup_cons]
    have hz : (y == z) = false := by simpa using fun e => n (by simp [e])
    rw [hz]; exact lookup_none' fun q => n (by simp [q])
theorem lookup_reverse' {α : Type} : ∀ {l : List (Str × α)} (y : Str), (l.map (·.1)).Nodup → l.reverse.lookup y = l.lookup y
  | [], _, _ => rfl
  | (z, u) :: l, y, nd => by
    rw [List.reverse_cons, lookup_append', List.lookup_cons]
    simp only [List.map_cons, List.nodup_cons] at nd
    rw [lookup_reverse' y nd.2]
    cases hz : y == z with
    | true =>
      have : y = z := by simpa using hz
      subst this
      rw [lookup_none' nd.1]
      simp [List.lookup_cons]
    | false =>
      simp only [List.lookup_cons, hz]
      cases l.lookup y <;> rfl

section
variable {prog : Program} {w : World} {top : Heap}
theorem AOk.deeper {n : Nat} {A : Around} (a : AOk (n + 1) A) (env : Env) : AOk n (A.deeper env) := ⟨a.handled, by have := a.depth; show A.depth + 1 + n ≤ 990; (first | lia | omega), by have := a.units; show A.units + 3 + 20 * n ≤ 9000; (first | lia | omega)⟩
theorem AOk.less {n m : Nat} {A : Around} (a : AOk n A) (h : m ≤ n) : AOk m A := ⟨a.handled, by have := a.depth; (first | lia | omega), by have := a.units; (first | lia | omega)⟩
theorem AOk.room {n : Nat} {A : Around} (a : AOk n A) : A.depth < recursionLimit := by have := a.depth; show A.depth < 1000; (first | lia | omega)

/-- a def without cells, called: what its body does -/
theorem Op.fn {n : Nat} {f : Addr} {o : Obj} {fd : FuncData} {body : List Stmt} {args : List V} {v : V} {vars : List (Str × V)} {bind : List Value → List (Str × Value)}
    (ho : top.get? f = some o) (hd : o.data = .func fd) (hb : fd.body = .stmts body) (hcr : top.CodeRec fd.code fd.qualname) (hl : top.NoLimit)
    (hbind : ∀ (s : Shared) (own : List Addr) (xs : List Value), (∀ b o, top.get? b = some o → s.heap.get? b = some o) → Reps s.heap own args xs → BindsTo s fd ⟨xs, []⟩ (bind xs) ∧ Bound s.heap own vars (bind xs))
    (hcell : ∀ x ∈ fd.scope.names, x.2 ≠ .cell) (hloc : ∀ x ∈ vars, fd.scope.names.lookup x.1 = some .local) (hnd : (vars.map (·.1)).Nodup)
    (h : ∀ (c : Cx) (L : Addr) (A : Around), AOk n A → c.top = top → WS prog w c (callEnv fd L f) A body ⟨vars, []⟩ (fun fl _ => fl.val = v))
    (hco : fd.scope.isCoroutine = false) (hgen : fd.scope.isGenerator = false) (hk : fd.scope.kind = .function) :
    Op prog w top (n + 1) (fun xs => call (.ref f) xs) args v := by
  intro A s own xs hA ht hsz hown r
  obtain ⟨hB, hV⟩ := hbind s own xs ht r
  refine wpAny_call (codeAny_call_def hA.room (ht _ _ ho) hd (hl.keeps ht) (hcr.keeps ht) hb hB hcell (fun x hx => ?_) (fun h₁ ns k => ?_) hco hgen hk)
  · have : x.1 ∈ (bind xs).map (·.1) := List.mem_map_of_mem hx
    rw [hV.names] at this
    obtain ⟨p, hp, e⟩ := List.mem_map.mp this
    rw [← e]; exact hloc p hp
  · have q : Quiet s { s with heap := h₁, toks := s.toks + (bind xs).length } := ⟨k, rfl, rfl⟩
    have at' : At prog w ⟨top, s.heap, [], own, s.gens, s.os⟩ (callEnv fd s.heap.objs.size f) ⟨vars, []⟩ { s with heap := h₁, toks := s.toks + (bind xs).length } := by
      refine ⟨⟨_, ns, fun y v e => ?_⟩, fun b o e _ => k b o e, (fun p hp => nomatch hp), List.nodup_nil, ?_, (fun p hp => nomatch hp), fun b o e => k b o (ht b o e), hsz, fun a ha => ⟨(hown a ha).1, by simp, by simp, (hown a ha).2⟩, Nat.le_refl _, rfl, rfl⟩
      · obtain ⟨x, e1, e2⟩ := hV.lookup e
        refine ⟨x, ?_, ?_⟩
        · show (bind xs).reverse.lookup y = some x
          rw [lookup_reverse' y (by rw [hV.names]; exact hnd)]; exact e1
        · exact e2.quiet q
      · show s.heap.objs.size ∉ [] ++ own
        simp only [List.nil_append]
        exact fun m => absurd (hown _ m).1 (Nat.lt_irrefl _)
    refine wpAny_mono (h _ _ _ (hA.deeper _) rfl _ at') (fun fl s' p => ?_) (fun _ _ e => e.elim)
    obtain ⟨st', a', F, g, rg, hv⟩ := p
    have qq : Quiet s s' := ⟨fun b o e => a'.keep b o e (by simp), a'.gens, a'.os⟩
    have le : ∀ a, a ∈ own → a ∈ Cx.adr ⟨top, s.heap, [], own, s.gens, s.os⟩ st' := fun a ha => List.mem_append_right _ ha
    cases g with
    | next => cases rg; subst hv; exact ⟨rfl, qq⟩
    | brk => cases rg; subst hv; exact ⟨rfl, qq⟩
    | cont => cases rg; subst hv; exact ⟨rfl, qq⟩
    | ret u => obtain ⟨x, rfl, rr⟩ := rg; subst hv; exact ⟨rr.less le, qq⟩
end
end Mine
end PtLg4
section PtLg5
open PySem PySem.W PyProof.Rows
namespace Mine
section
variable (prog : Program) (w : World)
/-- the trees of a list of expressions, run one behind the other -/
noncomputable def WL (c : Cx) (env : Env) (A : Around) (l : List (Bool × Sem Value)) (st : St) (Q : List V → St → Prop) : Prop :=
  ∀ s, At prog w c env st s → Wp prog w c env A (spliced l) (Vps c Q) st s
end
section
variable {prog : Program} {w : World} {c : Cx} {env : Env} {A : Around} {st st' : St} {s s' : Shared} {Q : V → St → Prop}
theorem W.glob {x : Str} {pos : Pos} {v : Value} {mg : Str → Option Value} (hg : c.top.Ns env.globals mg) (hv : mg x = some v) (h : Q (.con v) st)
    (hk : env.scope.kind = .function := by rfl) (hl : env.kindOf x = some .globalImplicit := by rfl) (hd : (x == ("__debug__" : Str)) = false := by decide) : W prog w c env A (.Name x pos) st Q := fun s a =>
  Calls.Name_function_global hk hl (Calls.loadGlobal_global (hg.keeps a.top) hv (Pst.here a ⟨.con v, rfl, h⟩)) hd
theorem W.bi {x : Str} {pos : Pos} {v : Value} {mg mb : Str → Option Value} (hg : c.top.Ns env.globals mg) (hn : mg x = Option.none) (hb : c.top.Ns env.builtins mb) (hv : mb x = some v) (h : Q (.con v) st)
    (hk : env.scope.kind = .function := by rfl) (hl : env.kindOf x = some .globalImplicit := by rfl) (hd : (x == ("__debug__" : Str)) = false := by decide) : W prog w c env A (.Name x pos) st Q := fun s a =>
  Calls.Name_function_global hk hl (Calls.loadGlobal_builtin (hg.keeps a.top) hn (hb.keeps a.top) hv (Pst.here a ⟨.con v, rfl, h⟩)) hd

theorem WL.nil {Q : List V → St → Prop} (h : Q [] st) : WL prog w c env A [] st Q := fun s a => Calls.spliced_nil (Pst.here a ⟨[], rfl, h⟩)
theorem WL.cons {Q : List V → St → Prop} {e : Expr} {r : List (Bool × Sem Value)} (h : W prog w c env A e st (fun v st₁ => WL prog w c env A r st₁ (fun vs st₂ => Q (v :: vs) st₂))) : WL prog w c env A ((false, eval e env) :: r) st Q := fun s a => by
  refine Calls.spliced_cons (wpAny_mono (h s a) (fun x s₁ ⟨st₁, a₁, F₁, v, rv, h₁⟩ => ?_) fun _ _ e => e)
  refine wpAny_mono (h₁ s₁ a₁) (fun xs s₂ ⟨st₂, a₂, F₂, vs, rvs, q⟩ => ?_) fun _ _ e => e
  exact ⟨st₂, a₂, F₁.trans F₂, v :: vs, ⟨x, xs, rfl, a₁.rep F₂ rv, rvs⟩, q⟩

theorem evalArgs_pos {M : Model} {E : Value → Shared → Prop} {f : Value} {l : List (Bool × Sem Value)} {Q : Args → Shared → Prop} (hl : ∀ p ∈ l, p.1 = false)
    (h : wpAny M A (spliced l) (fun vs s' => Q ⟨vs, []⟩ s') E s) : wpAny M A (evalArgs f true l []) Q E s := by
  cases l with
  | nil =>
    unfold evalArgs
    show wpAny M A (spliced [] >>= _) Q E s
    refine wpAny_bind (wpAny_mono h (fun vs s' h' => wpAny_holding (wpAny_bind (wpAny_pure (wpAny_bind (wpAny_pure (wpAny_pure h')))))) fun _ _ x => x)
  | cons p r =>
    obtain ⟨b, x⟩ := p
    have : b = false := hl _ (.head _)
    subst this
    exact Calls.evalArgs_plain h

/-- what a callee is kept by: asked, it tells, and changes nothing -/
noncomputable def Kpt (prog : Program) (w : World) (top : Heap) (g : Value) : Prop := ∀ (A : Around) (s : Shared), (∀ b o, top.get? b = some o → s.heap.get? b = some o) → wpAny (model prog w) A (keeperOf g) (fun k s' => s' = s) (fun _ _ => False) s
inductive KpE (prog : Program) (w : World) (top : Heap) (vf : V) (Q : Value → Prop) : Prop
  | mk (g : Value) (e : vf = .con g) (k : Kpt prog w top g) (q : Q g)
theorem Kpt.builtin {top : Heap} {id : String} : Kpt prog w top (.builtin id) := fun A s _ => wpAny_pure rfl
theorem Kpt.type {top : Heap} {id : String} : Kpt prog w top (.type id) := fun A s _ => wpAny_pure rfl
theorem Kpt.fn {top : Heap} {f : Addr} {o : Obj} {fd : FuncData} (ho : top.get? f = some o) (hd : o.data = .func fd) : Kpt prog w top (.ref f) := fun A s k => by
  unfold keeperOf
  refine wpAny_bind (wpAny_load (k _ _ ho) ?_)
  rw [hd]
  exact wpAny_pure rfl

theorem callWith_any {pos : Pos} {g : Value} {first : List Value} {args : List (Bool × Sem Value)} {R : Value → Shared → Prop} (hl : ∀ p ∈ args, p.1 = false)
    (h : wpAny (model prog w) A (spliced args) (fun vs s₁ => wpAny (model prog w) A (keeperOf g) (fun _ s' => s' = s₁) (fun _ _ => False) s₁ ∧ wpAny (model prog w) A (call g (first ++ vs) []) R (fun _ _ => False) s₁) (fun _ _ => False) s) :
    wpAny (model prog w) A (callWith pos g first args []) R (fun _ _ => False) s := by
  unfold callWith
  refine wpAny_bind (wpAny_holding (evalArgs_pos hl (wpAny_mono h (fun vs s₁ h₁ => wpAny_bind (wpAny_standAt ?_)) fun _ _ x => x)))
  have tail : ∀ {t : Sem Value}, wpAny (model prog w) A t R (fun _ _ => False) s₁ → wpAny (model prog w) A (t >>= fun r => holding [r] point >>= fun _ => pure r) R (fun _ _ => False) s₁ :=
    fun ht => wpAny_bind (wpAny_mono ht (fun r s₂ hr => wpAny_bind (wpAny_holding (wpAny_point (wpAny_pure hr)))) fun _ _ x => x)
  have hs : args.any (·.1) = false := by
    rw [List.any_eq_false]; intro p hp; rw [hl p hp]; exact Bool.false_ne_true
  simp only [hs, List.any_nil, Bool.or_false]
  refine wpAny_bind (wpAny_mono h₁.1 (fun k s' e => ?_) fun _ _ x => x)
  subst e
  cases k with
  | frame =>
    dsimp only
    split
    · exact tail h₁.2
    · exact tail (by unfold callMarked; exact Calls.wpAny_keep h₁.2)
  | boundFrame =>
    dsimp only
    split
    · exact tail h₁.2
    · exact tail (by unfold callMarked; exact Calls.wpAny_keep h₁.2)
  | machine => exact tail h₁.2
  | caller => exact tail (wpAny_operate h₁.2)

noncomputable def plainArg : Expr → Bool
  | .Starred .. => false
  | _ => true
theorem plain_each {env : Env} {pos : Pos} : ∀ {args : List Expr}, args.all plainArg = true → ∀ p ∈ backTo pos (starEach args env), p.1 = false
  | [], _, p, hp => by cases hp
  | e :: r, h, p, hp => by
    simp only [List.all_cons, Bool.and_eq_true] at h
    have key : starEach (e :: r) env = (false, eval e env) :: starEach r env := by
      cases e <;> first | rfl | (simp [plainArg] at h)
    rw [key] at hp
    rcases List.mem_cons.mp hp with rfl | hp
    · rfl
    · exact plain_each h.2 p hp
theorem W.call {f : Expr} {args : List Expr} {pos : Pos} {n : Nat} (hA : AOk n A)
    (h : W prog w c env A f st (fun vf st₁ => KpE prog w c.top vf fun g => WL prog w c env A (backTo pos (starEach args env)) st₁ (fun vs st₂ => OpE (Op prog w c.top n (fun xs => PySem.call g xs) vs) fun v => Q v st₂)))
    (hl : args.all plainArg = true := by rfl)
    (he : eval (.Call f args [] pos) env = (do callWith pos (← eval f env) [] (backTo pos (starEach args env)) []) := by rfl) : W prog w c env A (.Call f args [] pos) st Q := fun s a => by
  rw [he]
  refine Wp.bind (Wp.mono (h s a) fun s₁ st₁ x a₁ ⟨vf, rf, g, e, hk, h₁⟩ => ?_)
  subst e
  cases rf
  refine callWith_any (plain_each hl) (wpAny_mono (h₁ s₁ a₁) (fun xs s₂ p => ?_) fun _ _ x => x)
  obtain ⟨st₂, a₂, F, vs, rvs, v, o, q⟩ := p
  refine ⟨hk A s₂ a₂.top, ?_⟩
  exact wpAny_mono (Wp.op (xs := xs) o hA a₂ rvs fun s' x a' r' => (⟨v, r', q⟩ : Vp c Q s' st₂ x)) (fun _ _ p => Pst.from F p) fun _ _ e => e

theorem W.cmp {l r : Expr} {op : CmpOp} {pos : Pos} {n : Nat} (hA : AOk n A)
    (h : W prog w c env A l st (fun va st₁ => W prog w c env A r st₁ (fun vb st₂ => OpE (Op prog w c.top n (fun xs => compareOp op (xs.getD 0 .none) (xs.getD 1 .none)) [va, vb]) fun v => Q v st₂)))
    (hm : behindInMarks op r = false := by with_unfolding_all rfl) : W prog w c env A (.Compare l [op] [r] pos) st Q := fun s a => by
  refine wpAny_Compare1 (wpAny_mono (h s a) (fun x s₁ ⟨st₁, a₁, F₁, va, ra, h₁⟩ => ?_) fun _ _ e => e) hm
  refine wpAny_mono (h₁ s₁ a₁) (fun y s₂ ⟨st₂, a₂, F₂, vb, rb, v, o, q⟩ => ?_) fun _ _ e => e
  exact wpAny_mono (Wp.op (xs := [x, y]) o hA a₂ (Reps.two (a₁.rep F₂ ra) rb) fun s' x a' r' => (⟨v, r', q⟩ : Vp c Q s' st₂ x)) (fun _ _ p => Pst.from (F₁.trans F₂) p) fun _ _ e => e
theorem WB.cmp {Q : Bool → St → Prop} {l r : Expr} {op : CmpOp} {pos : Pos} {n : Nat} (hA : AOk n A)
    (h : W prog w c env A l st (fun va st₁ => W prog w c env A r st₁ (fun vb st₂ => OpB (Op prog w c.top n (fun xs => compareOp op (xs.getD 0 .none) (xs.getD 1 .none)) [va, vb]) fun b => Q b st₂)))
    (hm : behindInMarks op r = false := by with_unfolding_all rfl) : WB prog w c env A (.Compare l [op] [r] pos) st Q := fun s a => by
  refine wpAny_isTrue_Compare1 (wpAny_mono (h s a) (fun x s₁ ⟨st₁, a₁, F₁, va, ra, h₁⟩ => ?_) fun _ _ e => e) hm
  refine wpAny_mono (h₁ s₁ a₁) (fun y s₂ ⟨st₂, a₂, F₂, vb, rb, b, o, q⟩ => ?_) fun _ _ e => e
  refine wpAny_mono (Wp.op (R := fun s' st' x => x = .bool b ∧ Q b st') (xs := [x, y]) o hA a₂ (Reps.two (a₁.rep F₂ ra) rb) fun s' x a' r' => ⟨r', q⟩) (fun z s₃ ⟨st₃, a₃, F₃, e, q⟩ => ?_) fun _ _ e => e
  subst e
  exact wpAny_truthy_bool ⟨st₃, a₃, (F₁.trans F₂).trans F₃, q⟩
theorem WB.not {Q : Bool → St → Prop} {x : Expr} {pos : Pos} (h : WB prog w c env A x st (fun b st₁ => Q (!b) st₁)) : WB prog w c env A (.UnaryOp .Not x pos) st Q := fun s a =>
  isTrue_not (wpAny_mono (h s a) (fun _ _ ⟨st₁, a₁, F, q⟩ => ⟨st₁, a₁, F, q⟩) fun _ _ e => e)
theorem WB.and_nil {Q : Bool → St → Prop} {pos : Pos} (h : Q true st) : WB prog w c env A (.BoolOp .And [] pos) st Q := fun s a => isTrue_and_nil (Pst.here a h)
theorem WB.or_nil {Q : Bool → St → Prop} {pos : Pos} (h : Q false st) : WB prog w c env A (.BoolOp .Or [] pos) st Q := fun s a => isTrue_or_nil (Pst.here a h)
theorem WB.and {Q : Bool → St → Prop} {x : Expr} {r : List Expr} {pos : Pos} (h : WB prog w c env A x st (fun b st₁ => if b then WB prog w c env A (.BoolOp .And r pos) st₁ Q else Q false st₁)) : WB prog w c env A (.BoolOp .And (x :: r) pos) st Q := fun s a => by
  refine isTrue_and (wpAny_mono (h s a) (fun b s₁ ⟨st₁, a₁, F, q⟩ => ?_) fun _ _ e => e)
  cases b with
  | false => exact ⟨st₁, a₁, F, q⟩
  | true => exact wpAny_mono (q s₁ a₁) (fun _ _ p => Pst.from F p) fun _ _ e => e
theorem WB.or {Q : Bool → St → Prop} {x : Expr} {r : List Expr} {pos : Pos} (h : WB prog w c env A x st (fun b st₁ => if b then Q true st₁ else WB prog w c env A (.BoolOp .Or r pos) st₁ Q)) : WB prog w c env A (.BoolOp .Or (x :: r) pos) st Q := fun s a => by
  refine isTrue_or (wpAny_mono (h s a) (fun b s₁ ⟨st₁, a₁, F, q⟩ => ?_) fun _ _ e => e)
  cases b with
  | true => exact ⟨st₁, a₁, F, q⟩
  | false => exact wpAny_mono (q s₁ a₁) (fun _ _ p => Pst.from F p) fun _ _ e => e
end

section
variable {prog : Program} {w : World} {top : Heap} {n : Nat} {i j : Int}
theorem Op.ints {t : List Value → Sem Value} {v : V} (h : ∀ A s (own : List Addr) a b, wpAny (model prog w) A (t [.int i a, .int j b]) (fun x s' => Rep s'.heap own v x ∧ Quiet s s') (fun _ _ => False) s) : Op prog w top n t [.int i, .int j] v := by
  rintro A s own xs _ _ _ _ ⟨x, r, rfl, ⟨a, rfl⟩, y, r', rfl, ⟨b, rfl⟩, rfl⟩
  exact h A s own a b
theorem Op.add : Op prog w top n (fun xs => binaryOp .Add (xs.getD 0 .none) (xs.getD 1 .none)) [.int i, .int j] (.int (i + j)) := Op.ints fun A s own a b => add_int ⟨⟨_, rfl⟩, Quiet.toks _ _⟩
theorem Op.sub : Op prog w top n (fun xs => binaryOp .Sub (xs.getD 0 .none) (xs.getD 1 .none)) [.int i, .int j] (.int (i - j)) := Op.ints fun A s own a b => sub_int ⟨⟨_, rfl⟩, Quiet.toks _ _⟩
theorem Op.mod (h : j ≠ 0) : Op prog w top n (fun xs => binaryOp .Mod (xs.getD 0 .none) (xs.getD 1 .none)) [.int i, .int j] (.int (i.fmod j)) := Op.ints fun A s own a b => mod_int h ⟨⟨_, rfl⟩, Quiet.toks _ _⟩
theorem Op.lt : Op prog w top n (fun xs => compareOp .Lt (xs.getD 0 .none) (xs.getD 1 .none)) [.int i, .int j] (.bool (decide (i < j))) := Op.ints fun A s own a b => lt_int ⟨rfl, Quiet.refl _⟩
theorem Op.gt : Op prog w top n (fun xs => compareOp .Gt (xs.getD 0 .none) (xs.getD 1 .none)) [.int i, .int j] (.bool (decide (j < i))) := Op.ints fun A s own a b => gt_int ⟨rfl, Quiet.refl _⟩
theorem Op.ge : Op prog w top n (fun xs => compareOp .GtE (xs.getD 0 .none) (xs.getD 1 .none)) [.int i, .int j] (.bool (decide (j ≤ i))) := Op.ints fun A s own a b => ge_int ⟨rfl, Quiet.refl _⟩
theorem Op.eq : Op prog w top n (fun xs => compareOp .Eq (xs.getD 0 .none) (xs.getD 1 .none)) [.int i, .int j] (.bool (i == j)) := Op.ints fun A s own a b => eq_int ⟨rfl, Quiet.refl _⟩
theorem Op.ne : Op prog w top n (fun xs => compareOp .NotEq (xs.getD 0 .none) (xs.getD 1 .none)) [.int i, .int j] (.bool (i != j)) := Op.ints fun A s own a b => ne_int ⟨rfl, Quiet.refl _⟩
end
end Mine
end PtLg5
section PtLg6
open PySem PySem.W PyProof.Rows
namespace Mine
/-- objects that a value's reading may go through -/
noncomputable def Rd (h : Heap) (b : Addr) : Prop := (∃ i, IsTup h b i) ∨ (∃ i, IsMat h b i) ∨ (∃ i, h.IsList b i) ∨ (∃ i c, IsBm h b i c) ∨ (∃ i j k t u v, IsRange h b i j k t u v) ∨ IsEset h b
mutual
theorem Rep.but {h h' : Heap} {own wr : List Addr} (k : ∀ b o, b ∉ wr → h.get? b = some o → h'.get? b = some o) (nr : ∀ b ∈ wr, ¬ Rd h b) : ∀ (v : V) (x : Value), Rep h own v x → Rep h' own v x
  | .none, _, r => r
  | .bool _, _, r => r
  | .int _, _, r => r
  | .str _, _, r => r
  | .con _, _, r => r
  | .ref _, _, r => r
  | .bm id v, x, r => by
    obtain ⟨a, y, rfl, n, i, ry⟩ := r
    have ne : a ∉ wr := fun q => nr a q (.inr (.inr (.inr (.inl ⟨_, _, i⟩))))
    obtain ⟨c, hc, e⟩ := i
    exact ⟨a, y, rfl, n, ⟨c, hc, k _ _ ne e⟩, Rep.but k nr v y ry⟩
  | .eset, x, r => by
    obtain ⟨a, rfl, n, i⟩ := r
    have ne : a ∉ wr := fun q => nr a q (.inr (.inr (.inr (.inr (.inr i)))))
    obtain ⟨c, e⟩ := i
    exact ⟨a, rfl, n, c, k _ _ ne e⟩
  | .rng i j l, x, r => by
    obtain ⟨a, t, u, v, rfl, n, e⟩ := r
    have ne : a ∉ wr := fun q => nr a q (.inr (.inr (.inr (.inr (.inl ⟨_, _, _, _, _, _, e⟩)))))
    exact ⟨a, t, u, v, rfl, n, k _ _ ne e⟩
  | .tup vs, x, r => by
    obtain ⟨a, items, rfl, n, i, rs⟩ := r
    have ne : a ∉ wr := fun q => nr a q (.inl ⟨_, i⟩)
    obtain ⟨o, e, c⟩ := i
    exact ⟨a, items, rfl, n, ⟨o, k _ _ ne e, c⟩, Reps.but k nr vs _ rs⟩
  | .mat vs, x, r => by
    obtain ⟨a, items, rfl, n, i, rs⟩ := r
    have ne : a ∉ wr := fun q => nr a q (.inr (.inl ⟨_, i⟩))
    obtain ⟨o, dd, e⟩ := i
    exact ⟨a, items, rfl, n, ⟨o, dd, k _ _ ne e⟩, Reps.but k nr vs _ rs⟩
  | .lst vs, x, r => by
    obtain ⟨a, items, rfl, n, i, rs⟩ := r
    have ne : a ∉ wr := fun q => nr a q (.inr (.inr (.inl ⟨_, i.isList⟩)))
    obtain ⟨o, e⟩ := i
    exact ⟨a, items, rfl, n, ⟨o, k _ _ ne e⟩, Reps.but k nr vs _ rs⟩
theorem Reps.but {h h' : Heap} {own wr : List Addr} (k : ∀ b o, b ∉ wr → h.get? b = some o → h'.get? b = some o) (nr : ∀ b ∈ wr, ¬ Rd h b) : ∀ (vs : List V) (l : List Value), Reps h own vs l → Reps h' own vs l
  | [], _, r => r
  | v :: vs, l, r => by
    obtain ⟨x, t, rfl, r1, r2⟩ := r
    exact ⟨x, t, rfl, Rep.but k nr v x r1, Reps.but k nr vs t r2⟩
end
theorem OptRep.but {h h' : Heap} {own wr : List Addr} (k : ∀ b o, b ∉ wr → h.get? b = some o → h'.get? b = some o) (nr : ∀ b ∈ wr, ¬ Rd h b) {v : Option V} {x : Option Value} (r : OptRep h own v x) : OptRep h' own v x := by
  cases v with
  | none => exact r
  | some v => obtain ⟨val, rfl, r⟩ := r; exact ⟨val, rfl, Rep.but k nr _ _ r⟩
section
variable {prog : Program} {w : World} {c : Cx} {env : Env} {A : Around} {st st' : St} {s s' : Shared}
theorem OAt.but {h h' : Heap} {own wr : List Addr} (k : ∀ b o, b ∉ wr → h.get? b = some o → h'.get? b = some o) (nr : ∀ b ∈ wr, ¬ Rd h b) {a : Addr} {o : O} (hne : a ∉ wr) (x : OAt prog w h own a o) : OAt prog w h' own a o := by
  cases o with
  | list vs => obtain ⟨items, ⟨i, e⟩, r⟩ := x; exact ⟨items, ⟨i, k _ _ hne e⟩, Reps.but k nr _ _ r⟩
  | map f n =>
    obtain ⟨g, ⟨o, es, ep, e, y⟩, l, r⟩ := x
    refine ⟨g, ⟨o, es, ep, k _ _ hne e, y⟩, fun o' es' ep' e' d => ?_, fun i => (r i).but k nr⟩
    rw [k _ _ hne e] at e'; cases e'
    exact l o es' ep' e d
  | inst C d => exact k _ _ hne x
  | attrs f z =>
    obtain ⟨m', ⟨o, es, ep, e, y⟩, l, r⟩ := x
    refine ⟨m', ⟨o, es, ep, k _ _ hne e, y⟩, fun o' es' ep' e' d => ?_, fun i => (r i).but k nr⟩
    rw [k _ _ hne e] at e'; cases e'
    exact l o es' ep' e d
  | cell v => obtain ⟨y, ⟨o, e, d⟩, r⟩ := x; exact ⟨y, ⟨o, k _ _ hne e, d⟩, r.but k nr⟩
theorem At.but (a : At prog w c env st s) {wr : List Addr} (k : ∀ b o, b ∉ wr → s.heap.get? b = some o → s'.heap.get? b = some o) (nr : ∀ b ∈ wr, ¬ Rd s.heap b)
    (no : ∀ b ∈ wr, b ∉ c.adr st ∧ b ≠ env.locals ∧ c.h₀.get? b = Option.none ∧ c.top.get? b = Option.none) (hg : s'.gens = s.gens) (ho : s'.os = s.os) : At prog w c env st s' where
  vars := by
    obtain ⟨m, ⟨o, es, ep, e, y⟩, r⟩ := a.vars
    exact ⟨m, ⟨o, es, ep, k _ _ (fun q => (no _ q).2.1 rfl) e, y⟩, fun x v e => let ⟨val, h1, h2⟩ := r x v e; ⟨val, h1, Rep.but k nr _ _ h2⟩⟩
  keep := fun b o e n => k b o (fun q => by rw [(no b q).2.2.1] at e; cases e) (a.keep b o e n)
  own := fun p hp => (a.own p hp).but k nr fun q => (no _ q).1 (List.mem_append_left _ (List.mem_map_of_mem hp))
  nodup := a.nodup
  off := a.off
  fresh := a.fresh
  top := fun b o e => k b o (fun q => by rw [(no b q).2.2.2] at e; cases e) (a.top b o e)
  low := a.low
  hid := a.hid
  above := a.above
  gens := hg.trans a.gens
  os := ho.trans a.os

/-- a for loop over what an iterator walks through -/
theorem loop_for {x : Str} {px : Pos} {body : List Stmt} {Q : Fl → St → Prop} {I : Addr} {fp wr : List Addr} {n : Nat} {P : Nat → Value → Prop} {S : Nat → Heap → Prop} (Wk : Walks prog w A I fp wr n P S)
    (PF : Heap → List Addr → Prop) (pfS : ∀ o h o' h', Seqs o h o' h' → PF h o → PF h' o') (pfB : ∀ o h h', (∀ b ob, b ∉ wr → h.get? b = some ob → h'.get? b = some ob) → (∀ b ∈ wr, ¬ Rd h b) → PF h o → PF h' o)
    (vs : List V) (hn : vs.length = n) (hP : ∀ i v h o, i < n → P i v → PF h o → ∃ u, vs[i]? = some u ∧ Rep h o u v)
    (hR : ∀ i h, S i h → ∀ b ∈ wr, ¬ Rd h b) (hfp : ∀ b ∈ fp, ∀ i h, S i h → ∃ o, h.get? b = some o ∧ (∀ es ep, o.data ≠ .dict es ep))
    {s₀ : Shared} {st₀ : St} (a : At prog w c env st s) (F₀ : Fol env.locals (c.adr st₀) s₀.heap (c.adr st) s.heap) (hs : S 0 s.heap) (hpf : PF s.heap (c.adr st))
    (hnew : ∀ b ∈ wr, s₀.heap.get? b = Option.none ∧ c.h₀.get? b = Option.none ∧ c.top.get? b = Option.none) (hoff : ∀ b ∈ fp, b ∉ c.adr st)
    (J : Nat → St → Prop) (h0 : J 0 st) (turn : ∀ k st₂ u, vs[k]? = some u → J k st₂ → WS prog w c env A body (st₂.set x u) (fun f st₃ => match f with | .next | .cont => J (k + 1) st₃ | .brk => Q .next st₃ | .ret v => Q (.ret v) st₃))
    (done : ∀ st₂, J n st₂ → Q .next st₂) (hk : env.scope.kind = .function) (hl : env.kindOf x = some .local) :
    codeAny (model prog w) A (.forLoop (.Name x px) (.ref I) body [] env) (fun r s' => match r with | .ok f => Pst prog w c env st₀ s₀ (Fp c Q) f s' | .error e => False) s := by
  refine codeAny_forLoop (fun m s₁ => ∃ k st₁, m = n - k ∧ k ≤ n ∧ At prog w c env st₁ s₁ ∧ Fol env.locals (c.adr st₀) s₀.heap (c.adr st₁) s₁.heap ∧ S k s₁.heap ∧ PF s₁.heap (c.adr st₁) ∧ (∀ b ∈ fp, b ∉ c.adr st₁) ∧ J k st₁) (fun m s₁ q => ?_) n ⟨0, st, rfl, Nat.zero_le _, a, F₀, hs, hpf, hoff, h0⟩
  obtain ⟨k, st₁, rfl, hkn, a₁, F₁, hs₁, hpf₁, hoff₁, hj⟩ := q
  have hL : ∀ b ∈ wr, b ≠ env.locals := fun b hb q => by
    obtain ⟨m, ⟨o, es, ep, e, d, _⟩, _⟩ := a₁.vars
    obtain ⟨o', e', nd⟩ := hfp b (Wk.sub b hb) k _ hs₁
    rw [q, e] at e'; cases e'; exact nd _ _ d
  have no : ∀ b ∈ wr, b ∉ c.adr st₁ ∧ b ≠ env.locals ∧ c.h₀.get? b = Option.none ∧ c.top.get? b = Option.none := fun b hb => ⟨hoff₁ b (Wk.sub b hb), hL b hb, (hnew b hb).2⟩
  have nr := hR k _ hs₁
  have Fb : ∀ h' : Heap, (∀ b o, b ∉ wr → s₁.heap.get? b = some o → h'.get? b = some o) → Fol env.locals (c.adr st₀) s₀.heap (c.adr st₁) h' := fun h' kk b o e n l => by
    have := F₁ b o e n l
    exact ⟨kk b o (fun q => by rw [(hnew b q).1] at e; cases e) this.1, this.2⟩
  rcases Nat.lt_or_ge k n with hlt | hge
  · refine Wk.item k s₁ _ _ hlt hs₁ fun v h' tk hPv hs' kk => ?_
    have a₂ : At prog w c env st₁ { s₁ with heap := h', toks := tk } := a₁.but kk nr no rfl rfl
    have hpf₂ := pfB _ _ _ kk nr hpf₁
    obtain ⟨u, hu, ru⟩ := hP k v _ _ hlt hPv hpf₂
    refine wpAny_assign_Name ?_
    refine wpAny_mono (Wp.store (A := A) (x := x) (R := fun _ st' _ => st' = st₁.set x u) a₂ ru (fun _ _ => rfl) hk hl) (fun _ s₃ p => ?_) (fun _ _ e => e.elim)
    obtain ⟨st₃, a₃, F₃, e⟩ := p
    subst e
    have F₃' : Fol env.locals (c.adr st₁) h' (c.adr st₁) s₃.heap := F₃
    have fr : ∀ b ∈ fp, ∀ o, h'.get? b = some o → s₃.heap.get? b = some o := fun b hb o e => by
      refine (F₃' b o e (hoff₁ b hb) ?_).1
      rintro rfl
      obtain ⟨m, ⟨o', es, ep, e', d, _⟩, _⟩ := a₂.vars
      obtain ⟨o'', e'', nd⟩ := hfp _ hb (k + 1) _ hs'
      rw [e''] at e'; cases e'; exact nd _ _ d
    have hs₃ := Wk.frame _ _ _ hs' fr
    have hpf₃ := pfS _ _ _ _ (a₂.seqs F₃) hpf₂
    refine wpAny_mono (turn k st₁ u hu hj s₃ a₃) (fun f s₄ p => ?_) (fun _ _ e => e.elim)
    obtain ⟨st₄, a₄, F₄, fl, rf, q⟩ := p
    have FF : Fol env.locals (c.adr st₀) s₀.heap (c.adr st₄) s₄.heap := ((Fb h' kk).trans F₃').trans F₄
    have fr₄ : ∀ b ∈ fp, ∀ o, s₃.heap.get? b = some o → s₄.heap.get? b = some o ∧ b ∉ c.adr st₄ := fun b hb o e => by
      refine F₄ b o e (hoff₁ b hb) ?_
      rintro rfl
      obtain ⟨m, ⟨o', es, ep, e', d, _⟩, _⟩ := a₃.vars
      obtain ⟨o'', e'', nd⟩ := hfp _ hb (k + 1) _ hs₃
      rw [e''] at e'; cases e'; exact nd _ _ d
    have nx : J (k + 1) st₄ → ∃ m, m < n - k ∧ ∃ k' st₁, m = n - k' ∧ k' ≤ n ∧ At prog w c env st₁ s₄ ∧ Fol env.locals (c.adr st₀) s₀.heap (c.adr st₁) s₄.heap ∧ S k' s₄.heap ∧ PF s₄.heap (c.adr st₁) ∧ (∀ b ∈ fp, b ∉ c.adr st₁) ∧ J k' st₁ := fun j => by
      refine ⟨n - (k + 1), by (first | lia | omega), k + 1, st₄, rfl, hlt, a₄, FF, Wk.frame _ _ _ hs₃ fun b hb o e => (fr₄ b hb o e).1, pfS _ _ _ _ (a₃.seqs F₄) hpf₃, fun b hb => ?_, j⟩
      obtain ⟨o, e, _⟩ := hfp b hb (k + 1) _ hs₃
      exact (fr₄ b hb o e).2
    cases fl with
    | next => cases rf; exact nx q
    | cont => cases rf; exact nx q
    | brk => cases rf; exact ⟨st₄, a₄, FF, .next, rfl, q⟩
    | ret v => obtain ⟨y, rfl, rr⟩ := rf; exact ⟨st₄, a₄, FF, .ret v, ⟨y, rfl, rr⟩, q⟩
  · have : k = n := Nat.le_antisymm hkn hge
    subst this
    refine Wk.done s₁ _ _ hs₁ fun h' tk kk => ?_
    exact wpAny_execs_nil ⟨st₁, a₁.but kk nr no rfl rfl, Fb h' kk, .next, rfl, done _ hj⟩
end
end Mine
end PtLg6
section PtLg7
open PySem PySem.W PyProof.Rows
namespace Mine
theorem Reps.length {h : Heap} {o : List Addr} : ∀ {vs : List V} {l : List Value}, Reps h o vs l → vs.length = l.length
  | [], _, r => by cases r; rfl
  | v :: vs, _, ⟨x, t, e, _, r⟩ => by subst e; simp [Reps.length r]
theorem Reps.get {h : Heap} {o : List Addr} {x : Value} : ∀ (vs : List V) (l : List Value) (i : Nat), Reps h o vs l → l[i]? = some x → ∃ u, vs[i]? = some u ∧ Rep h o u x
  | [], _, i, r, q => by cases r; simp at q
  | v :: vs, _, 0, ⟨y, t, e, r1, _⟩, q => by subst e; cases q; exact ⟨v, rfl, r1⟩
  | v :: vs, _, i + 1, ⟨y, t, e, _, r⟩, q => by subst e; exact Reps.get vs t i r q
theorem Reps.at {h : Heap} {o : List Addr} {vs : List V} {l : List Value} {i : Nat} {u : V} (r : Reps h o vs l) (q : vs[i]? = some u) : ∃ x, l[i]? = some x ∧ Rep h o u x := by
  have hi : i < l.length := by rw [← r.length]; exact (List.getElem?_eq_some_iff.mp q).1
  have hx : l[i]? = some l[i] := List.getElem?_eq_getElem hi
  obtain ⟨u', e, r'⟩ := r.get _ _ _ hx
  rw [q] at e; cases e
  exact ⟨l[i], hx, r'⟩
theorem notRd {h : Heap} {b : Addr} {cls : String} {f : Array Value} {o : Obj} (e : h.get? b = some o) (hc : o.cls = .type cls) (hd : o.data = .fields f) (h1 : cls ≠ "tuple") (h2 : cls ≠ "list") (h3 : cls ≠ "range") (h4 : ∀ i c, f ≠ #[.builtin i, c]) : ¬ Rd h b := by
  rintro (⟨i, o', e', c, n, d⟩ | ⟨i, n, dd, e'⟩ | ⟨i, o', e', c, n, d⟩ | ⟨i, c, k, _, e'⟩ | ⟨i, j, k, t, u, v, e'⟩ | ⟨led, e'⟩)
  · rw [e] at e'; cases e'; rw [hd] at d; cases d
  · rw [e] at e'; cases e'; cases hd
  · rw [e] at e'; cases e'; rw [hd] at d; cases d
  · rw [e] at e'; cases e'; cases hd; exact h4 _ _ rfl
  · have this : h.get? b = _ := e'
    rw [e] at this; cases this; cases hc; exact h3 rfl
  · rw [e] at e'; cases e'; cases hd

section
variable {prog : Program} {w : World} {c : Cx} {env : Env} {A : Around} {st st' : St} {s s' : Shared} {Q : Fl → St → Prop}
theorem At.new (a : At prog w c env st s) : s.heap.get? s.heap.objs.size = Option.none ∧ c.h₀.get? s.heap.objs.size = Option.none ∧ c.top.get? s.heap.objs.size = Option.none ∧ s.heap.objs.size ∉ c.adr st := by
  have z : ∀ h : Heap, h.objs.size ≤ s.heap.objs.size → h.get? s.heap.objs.size = Option.none := fun h hh => by
    cases q : h.get? s.heap.objs.size with
    | none => rfl
    | some o => exact absurd (Heap.lt_size q) (Nat.not_lt.mpr hh)
  exact ⟨z _ (Nat.le_refl _), z _ (Nat.le_of_lt a.size), z _ (Nat.le_trans a.low (Nat.le_of_lt a.size)), fun q => absurd (a.lt _ q).1 (Nat.lt_irrefl _)⟩

theorem WX.forL {x : Str} {px pos : Pos} {iter : Expr} {body : List Stmt} (J : Nat → St → Prop) (hA : A.handled = Option.none)
    (h : W prog w c env A iter st (fun v st₁ => ∃ vs, v = .lst vs ∧ J 0 st₁ ∧
      (∀ k st₂ u, vs[k]? = some u → J k st₂ → WS prog w c env A body (st₂.set x u) (fun f st₃ => match f with | .next | .cont => J (k + 1) st₃ | .brk => Q .next st₃ | .ret v => Q (.ret v) st₃)) ∧ (∀ st₂, J vs.length st₂ → Q .next st₂)))
    (hk : env.scope.kind = .function := by rfl) (hl : env.kindOf x = some .local := by rfl) (hs : ∀ x, foldedSetIterable iter env x = pure x := by intro _; rfl) : WX prog w c env A (.For (.Name x px) iter body [] pos) st Q := fun s a => by
  refine wpAny_For (wpAny_mono (h s a) (fun y s₁ p => ?_) fun _ _ e => e) hs
  obtain ⟨st₁, a₁, F₁, v, rv, vs, rfl, h0, turn, done⟩ := p
  obtain ⟨ax, items, rfl, nax, hL', rs⟩ := rv
  have hL := hL'.isList
  refine wpAny_pyIter_list hL ?_
  obtain ⟨ol, hol, _, nl, dl⟩ := id hL
  obtain ⟨z1, z2, z3, z4⟩ := a₁.new
  have q : Quiet s₁ { s₁ with heap := s₁.heap.push { cls := .type "list_iterator", data := .fields #[.ref ax, .int 0 0] } } := ⟨fun _ _ e => Heap.get?_push_of_some _ e, rfl, rfl⟩
  have a₂ := a₁.quiet q
  have hne : ax ≠ s₁.heap.objs.size := Nat.ne_of_lt (Heap.lt_size hol)
  have hsz : vs.length = items.size := by rw [rs.length]; simp
  refine codeAny_mono (loop_for (s₀ := s₁) (st₀ := st₁) (Q := Q) (Walks.list hA s₁.heap.objs.size ax hne items) (fun h o => Reps h o vs items.toList) (fun _ _ _ _ S r => Reps.seqs S _ _ r) (fun _ _ _ k nr r => Reps.but k nr _ _ r) vs hsz
    (fun i v h o _ p r => r.get _ _ i (by simpa using p)) (fun i h S b hb => ?_) (fun b hb i h S => ?_) a₂ (Fol.quiet q _ _) ⟨⟨_, Heap.get?_push_size _ rfl, rfl, rfl⟩, hL.at fun o e => Heap.get?_push_of_some _ e⟩ (rs.quiet q)
    (fun b hb => ?_) (fun b hb => ?_) J h0 turn (fun st₂ j => done st₂ (by rw [hsz]; exact j)) hk hl) (fun r s' p => ?_)
  · rw [List.mem_singleton.mp hb]
    obtain ⟨⟨o, e, hc, hd⟩, _⟩ := S
    exact notRd e hc hd (by decide) (by decide) (by decide) (fun _ _ q => by simp at q)
  · rcases List.mem_cons.mp hb with rfl | hb
    · obtain ⟨⟨o, e, hc, hd⟩, _⟩ := S; exact ⟨o, e, fun es ep q => by rw [hd] at q; cases q⟩
    · rw [List.mem_singleton.mp hb]
      obtain ⟨_, o, e, hc, n, hd⟩ := S; exact ⟨o, e, fun es ep q => by rw [hd] at q; cases q⟩
  · rw [List.mem_singleton.mp hb]; exact ⟨z1, z2, z3⟩
  · rcases List.mem_cons.mp hb with rfl | hb
    · exact z4
    · rw [List.mem_singleton.mp hb]; exact nax
  · cases r with
    | ok f => exact Pst.from F₁ p
    | error e => exact p.elim

/-- what a range walks through -/
noncomputable def rngV (a b k : Int) : List V := (List.range (Builtin.Range.rangeSize a b k).toNat).map fun (i : Nat) => V.int (a + (i : Int) * k)
theorem WX.forR {x : Str} {px pos : Pos} {iter : Expr} {body : List Stmt} (J : Nat → St → Prop) (hA : A.handled = Option.none)
    (h : W prog w c env A iter st (fun v st₁ => ∃ i j k, v = .rng i j k ∧ Builtin.Range.small i j k = true ∧ J 0 st₁ ∧
      (∀ m st₂ u, (rngV i j k)[m]? = some u → J m st₂ → WS prog w c env A body (st₂.set x u) (fun f st₃ => match f with | .next | .cont => J (m + 1) st₃ | .brk => Q .next st₃ | .ret v => Q (.ret v) st₃)) ∧ (∀ st₂, J (rngV i j k).length st₂ → Q .next st₂)))
    (hk : env.scope.kind = .function := by rfl) (hl : env.kindOf x = some .local := by rfl) (hs : ∀ x, foldedSetIterable iter env x = pure x := by intro _; rfl) : WX prog w c env A (.For (.Name x px) iter body [] pos) st Q := fun s a => by
  refine wpAny_For (wpAny_mono (h s a) (fun y s₁ p => ?_) fun _ _ e => e) hs
  obtain ⟨st₁, a₁, F₁, v, rv, i, j, k, rfl, hsm, h0, turn, done⟩ := p
  obtain ⟨ax, t, u, v, rfl, nax, hL⟩ := rv
  refine wpAny_pyIter_range hL hsm ?_
  obtain ⟨z1, z2, z3, z4⟩ := a₁.new
  have q : Quiet s₁ { s₁ with heap := s₁.heap.push { cls := .type "range_iterator", data := .fields #[rawInt i, rawInt (Builtin.Range.rangeSize i j k), rawInt k] } } := ⟨fun _ _ e => Heap.get?_push_of_some _ e, rfl, rfl⟩
  have a₂ := a₁.quiet q
  have hsz : (rngV i j k).length = (Builtin.Range.rangeSize i j k).toNat := by simp [rngV]
  have hN : (((Builtin.Range.rangeSize i j k).toNat : Nat) : Int) = Builtin.Range.rangeSize i j k := (rangeSize_toNat i j k).symm
  refine codeAny_mono (loop_for (s₀ := s₁) (st₀ := st₁) (Q := Q) (Walks.range hA s₁.heap.objs.size i k (Builtin.Range.rangeSize i j k).toNat) (fun h o => True) (fun _ _ _ _ S r => trivial) (fun _ _ _ k nr r => trivial) (rngV i j k) hsz
    (fun m v h o lt p r => ?_) (fun m h S b hb => ?_) (fun b hb m h S => ?_) a₂ (Fol.quiet q _ _) ?_ trivial
    (fun b hb => ?_) (fun b hb => ?_) J h0 turn (fun st₂ jj => done st₂ (by rw [hsz]; exact jj)) hk hl) (fun r s' p => ?_)
  · obtain ⟨t', rfl⟩ := p
    exact ⟨.int (i + (m : Int) * k), by simp [rngV, lt], t', rfl⟩
  · rw [List.mem_singleton.mp hb]
    exact notRd S rfl rfl (by decide) (by decide) (by decide) (fun _ _ q => by simp at q)
  · rw [List.mem_singleton.mp hb]
    exact ⟨_, S, fun es ep q => by cases q⟩
  · show IsRangeIter _ _ _ _ _
    rw [hN]
    simpa using Heap.get?_push_size s₁.heap (o := { cls := .type "range_iterator", data := .fields #[rawInt i, rawInt (Builtin.Range.rangeSize i j k), rawInt k] }) rfl
  · rw [List.mem_singleton.mp hb]; exact ⟨z1, z2, z3⟩
  · rw [List.mem_singleton.mp hb]; exact z4
  · cases r with
    | ok f => exact Pst.from F₁ p
    | error e => exact p.elim
end
end Mine
end PtLg7
section PtLg8
open PySem PySem.W PyProof.Rows
namespace Mine
section
variable {prog : Program} {w : World} {c : Cx} {env : Env} {A : Around} {st st' : St} {s s' : Shared} {Q : V → St → Prop} {top : Heap} {n : Nat}
/-- an item asked for -/
noncomputable def Sub (prog : Program) (w : World) (top : Heap) (n : Nat) (vo vi v : V) : Prop :=
  ∀ (A : Around) (s : Shared) (own : List Addr) (o i : Value), AOk n A → (∀ b o, top.get? b = some o → s.heap.get? b = some o) → Rep s.heap own vo o → Rep s.heap own vi i →
    ∃ T id, s.TypeIs o T ∧ typeLookup (.type T) "__getitem__" = pure (some (.builtin id)) ∧ wpAny (model prog w) A (getItem o i) (fun x s' => Rep s'.heap own v x ∧ Quiet s s') (fun _ _ => False) s
theorem W.sub {value slice : Expr} {pos : Pos} (hA : AOk n A)
    (h : W prog w c env A value st (fun vo st₁ => W prog w c env A slice st₁ (fun vi st₂ => OpE (Sub prog w c.top n vo vi) fun v => Q v st₂)))
    (hs : ∀ o i, subscripted slice false o i = operate [o, i] (getItem o i) := by intros; rfl) : W prog w c env A (.Subscript value slice pos) st Q := fun s a => by
  refine Subscript_ (wpAny_mono (h s a) (fun x s₁ ⟨st₁, a₁, F₁, va, ra, h₁⟩ => ?_) fun _ _ e => e)
  refine wpAny_mono (h₁ s₁ a₁) (fun y s₂ ⟨st₂, a₂, F₂, vb, rb, v, o, q⟩ => ?_) fun _ _ e => e
  obtain ⟨T, id, hT, hl, hg⟩ := o A s₂ _ x y hA a₂.top (a₁.rep F₂ ra) rb
  refine tail_any hT hl (wpAny_mono hg (fun z s₃ ⟨r, qq⟩ => ?_) fun _ _ e => e) (hs x y)
  exact ⟨st₂, a₂.quiet qq, (F₁.trans F₂).trans (Fol.quiet qq _ _), v, r, q⟩
theorem Sub.lst {vs : List V} {k : Int} {v : V} (h0 : 0 ≤ k) (hk : k < 2 ^ 63) (hv : vs[k.toNat]? = some v) : Sub prog w top n (.lst vs) (.int k) v := by
  rintro A s own o i _ _ ⟨a, items, rfl, na, hL, rs⟩ ⟨t, rfl⟩
  obtain ⟨x, hx, rx⟩ := rs.at hv
  exact ⟨_, _, hL.isList.typeIs, slot_list_getitem.lookup, wpAny_getItem_list hL.isList h0 hk (by simpa using hx) ⟨rx, Quiet.refl _⟩⟩
theorem Sub.tup {vs : List V} {k : Int} {j : Nat} {v : V} (h0 : -(2 ^ 63) ≤ k) (hk : k < 2 ^ 63) (hj : seqIndex? k vs.length = some j) (hv : vs[j]? = some v) : Sub prog w top n (.tup vs) (.int k) v := by
  rintro A s own o i _ _ ⟨a, items, rfl, na, hL, rs⟩ ⟨t, rfl⟩
  obtain ⟨x, hx, rx⟩ := rs.at hv
  exact ⟨_, _, hL.typeIs, slot_tuple_getitem.lookup, getItem_tuple hL h0 hk (by rw [show items.size = vs.length from by rw [rs.length]; simp]; exact hj) (by simpa using hx) ⟨rx, Quiet.refl _⟩⟩

theorem W.tup {elts : List Expr} {k : Nat} {pos : Pos} (h : WL prog w c env A (backTo pos (starEach elts env)) st (fun vs st₁ => vs.length ≤ sizeLine ∧ Q (.tup vs) st₁)) : W prog w c env A (.Tuple elts k pos) st Q := fun s a => by
  refine Tuple_ (wpAny_mono (h s a) (fun xs s₁ ⟨st₁, a₁, F₁, vs, rs, hz, q⟩ => ?_) fun _ _ e => e)
  obtain ⟨z1, z2, z3, z4⟩ := a₁.new
  have qq : Quiet s₁ { s₁ with heap := s₁.heap.push { cls := .type "tuple", data := .seq xs.toArray } } := ⟨fun _ _ e => Heap.get?_push_of_some _ e, rfl, rfl⟩
  exact wpAny_newTuple ⟨st₁, a₁.quiet qq, F₁.trans (Fol.quiet qq _ _), .tup vs, ⟨_, xs.toArray, rfl, z4, ⟨_, Heap.get?_push_size _ rfl, rfl, _, rfl⟩, by simpa using rs.quiet qq⟩, q⟩ (by rw [← rs.length]; exact hz)
theorem W.list {elts : List Expr} {pos : Pos} (h : WL prog w c env A (backTo pos (starEach elts env)) st (fun vs st₁ => vs.length ≤ sizeLine ∧ Q (.lst vs) st₁)) : W prog w c env A (.List elts pos) st Q := fun s a => by
  refine List_ (wpAny_mono (h s a) (fun xs s₁ ⟨st₁, a₁, F₁, vs, rs, hz, q⟩ => ?_) fun _ _ e => e)
  obtain ⟨z1, z2, z3, z4⟩ := a₁.new
  have qq : Quiet s₁ { s₁ with heap := s₁.heap.push { cls := .type "list", data := .seq xs.toArray } } := ⟨fun _ _ e => Heap.get?_push_of_some _ e, rfl, rfl⟩
  exact wpAny_newList ⟨st₁, a₁.quiet qq, F₁.trans (Fol.quiet qq _ _), .lst vs, ⟨_, xs.toArray, rfl, z4, ⟨_, Heap.get?_push_size _ rfl⟩, by simpa using rs.quiet qq⟩, q⟩ (by rw [← rs.length]; exact hz)

theorem WX.aug {Q : Fl → St → Prop} {x : Str} {p pos : Pos} {op : Operator} {e : Expr} {v₀ : V} (hA : AOk n A) (hv : st.vars.lookup x = some v₀)
    (h : W prog w c env A e st (fun v st₁ => OpE (Op prog w c.top n (fun xs => inplaceOp op (xs.getD 0 .none) (xs.getD 1 .none)) [v₀, v]) fun v₁ => Q .next (st₁.set x v₁)))
    (hk : env.scope.kind = .function := by rfl) (hl : env.kindOf x = some .local := by rfl) : WX prog w c env A (.AugAssign (.Name x p) op e pos) st Q := fun s a => by
  obtain ⟨m, nn, r⟩ := a.vars
  obtain ⟨val, hm, hr⟩ := r x v₀ hv
  refine wpAny_AugAssign_Name (wpAny_loadName_local hk hl nn hm (wpAny_mono (h s a) (fun y s₁ ⟨st₁, a₁, F₁, v, rv, v₁, o, q⟩ => ?_) fun _ _ e => e))
  refine wpAny_mono (Wp.op (R := fun s' st' x => Rep s'.heap (c.adr st') v₁ x ∧ st' = st₁) (xs := [val, y]) o hA a₁ (Reps.two (a.rep F₁ hr) rv) fun s' x a' r' => ⟨r', rfl⟩) (fun z s₂ ⟨st₂, a₂, F₂, r₂, e⟩ => ?_) fun _ _ e => e
  subst e
  exact wpAny_mono (Wp.store (R := fun _ st' _ => st' = st₂.set x v₁) a₂ r₂ (fun _ _ => rfl) hk hl) (fun _ _ ⟨st₃, a₃, F₃, e⟩ => by subst e; exact ⟨_, a₃, (F₁.trans F₂).trans F₃, .next, rfl, q⟩) fun _ _ e => e
theorem Op.iadd {i j : Int} : Op prog w top n (fun xs => inplaceOp .Add (xs.getD 0 .none) (xs.getD 1 .none)) [.int i, .int j] (.int (i + j)) := Op.ints fun A s own a b => wpAny_iadd_int ⟨⟨_, rfl⟩, Quiet.toks _ _⟩

theorem Op.range2 {i j : Int} : Op prog w top n (fun xs => PySem.call (.type "range") xs) [.int i, .int j] (.rng i j 1) := by
  rintro A s own xs _ _ _ hown ⟨x, r, rfl, ⟨a, rfl⟩, y, r', rfl, ⟨b, rfl⟩, rfl⟩
  refine call_range_2 ⟨⟨_, _, _, _, rfl, fun q => absurd (hown _ q).1 (Nat.lt_irrefl _), Heap.get?_push_size _ rfl⟩, ?_⟩
  exact ⟨fun _ _ e => Heap.get?_push_of_some _ e, rfl, rfl⟩
theorem Op.range1 {i : Int} : Op prog w top n (fun xs => PySem.call (.type "range") xs) [.int i] (.rng 0 i 1) := by
  rintro A s own xs _ _ _ hown ⟨x, r, rfl, ⟨a, rfl⟩, rfl⟩
  refine call_range_1 ⟨⟨_, _, _, _, rfl, fun q => absurd (hown _ q).1 (Nat.lt_irrefl _), Heap.get?_push_size _ rfl⟩, ?_⟩
  exact ⟨fun _ _ e => Heap.get?_push_of_some _ e, rfl, rfl⟩
theorem Op.len {vs : List V} (hz : vs.length ≤ sizeLine) : Op prog w top n (fun xs => PySem.call (.builtin "len") xs) [.lst vs] (.int vs.length) := by
  rintro A s own xs _ _ _ hown ⟨x, r, rfl, ⟨a, items, rfl, na, hL, rs⟩, rfl⟩
  have e : items.size = vs.length := by rw [rs.length]; simp
  refine Calls.call_len_list hL.isList (by rw [e]; have : sizeLine = 16777216 := rfl; (first | lia | omega)) ⟨?_, Quiet.toks _ _⟩
  rw [e]
  exact ⟨_, rfl⟩
end
end Mine
end PtLg8
section PtLg9
open PySem PySem.W PyProof.Rows
namespace Mine
theorem Bound.zip {h : Heap} {own : List Addr} : ∀ (ns : List Str) {vs : List V} {xs : List Value}, ns.length = vs.length → Reps h own vs xs → Bound h own (ns.zip vs) (ns.zip xs)
  | [], _, _, _, _ => by simp [Bound]
  | n :: ns, [], xs, e, r => by simp at e
  | n :: ns, v :: vs, _, e, ⟨x, t, q, r, rs⟩ => by
    subst q
    exact ⟨x, ns.zip t, rfl, r, Bound.zip ns (by simpa using e) rs⟩
theorem zip_fst {α β : Type} : ∀ {l : List α} {k : List β}, l.length = k.length → (l.zip k).map (·.1) = l
  | [], [], _ => rfl
  | a :: l, b :: k, e => by simp [zip_fst (l := l) (k := k) (by simpa using e)]
section
variable {prog : Program} {w : World} {top : Heap}
theorem Op.fn0 {n : Nat} {f : Addr} {o : Obj} {fd : FuncData} {body : List Stmt} {args : List V} {v : V} (names : List Str)
    (ho : top.get? f = some o) (hd : o.data = .func fd) (hb : fd.body = .stmts body) (hcr : top.CodeRec fd.code fd.qualname) (hl : top.NoLimit) (hlen : names.length = args.length)
    (hbind : ∀ xs : List Value, xs.length = names.length → bindArgs fd ⟨xs, []⟩ = pure (names.zip xs))
    (hcell : ∀ x ∈ fd.scope.names, x.2 ≠ .cell) (hloc : ∀ x ∈ names, fd.scope.names.lookup x = some .local) (hnd : names.Nodup)
    (h : ∀ (c : Cx) (L : Addr) (A : Around), AOk n A → c.top = top → WS prog w c (callEnv fd L f) A body ⟨names.zip args, []⟩ (fun fl _ => fl.val = v))
    (hco : fd.scope.isCoroutine = false) (hgen : fd.scope.isGenerator = false) (hk : fd.scope.kind = .function) :
    Op prog w top (n + 1) (fun xs => call (.ref f) xs) args v :=
  Op.fn (bind := fun xs => names.zip xs) ho hd hb hcr hl (fun s own xs ht r => ⟨BindsTo.of_eq (hbind xs (by rw [hlen, r.length])), Bound.zip names hlen r⟩) hcell (fun x hx => hloc _ (by rw [← zip_fst hlen]; exact List.mem_map_of_mem hx)) (by rw [zip_fst hlen]; exact hnd) h hco hgen hk
end
theorem len0 {P : List Value → Prop} (h : P []) : ∀ xs : List Value, xs.length = 0 → P xs
  | [], _ => h
theorem lenS {P : List Value → Prop} {n : Nat} (h : ∀ a xs, xs.length = n → P (a :: xs)) : ∀ xs : List Value, xs.length = n + 1 → P xs
  | a :: xs, e => h a xs (Nat.succ.inj e)
/-- a state that says less -/
noncomputable def Le (a b : St) : Prop := b.own = a.own ∧ ∀ p ∈ a.vars, b.vars.lookup p.1 = some p.2
theorem mem_of_lookup {α : Type} : ∀ {l : List (Str × α)} {x : Str} {v : α}, l.lookup x = some v → (x, v) ∈ l
  | (z, u) :: l, x, v, h => by
    rw [List.lookup_cons] at h
    cases hz : x == z with
    | true => rw [hz] at h; cases h; rw [show x = z by simpa using hz]; exact .head _
    | false => rw [hz] at h; exact .tail _ (mem_of_lookup h)
section
variable {prog : Program} {w : World} {c : Cx} {env : Env} {A : Around} {a b : St} {s : Shared}
theorem At.le (h : Le a b) (x : At prog w c env b s) : At prog w c env a s := by
  obtain ⟨e, l⟩ := h
  have e' : c.adr a = c.adr b := by unfold Cx.adr; rw [e]
  exact ⟨by
    obtain ⟨m, n, r⟩ := x.vars
    exact ⟨m, n, fun y v q => by rw [e']; exact r y v (l _ (mem_of_lookup q))⟩, x.keep, by rw [← e, e']; exact x.own, by rw [← e]; exact x.nodup, by rw [e']; exact x.off, by rw [← e]; exact x.fresh, x.top, x.low, by rw [← e]; exact x.hid, x.above, x.gens, x.os⟩
theorem Wp.le {α : Type} {t : Sem α} {R : Shared → St → α → Prop} (h : Le a b) (x : Wp prog w c env A t R a s) : Wp prog w c env A t R b s := by
  have e' : c.adr a = c.adr b := by unfold Cx.adr; rw [h.1]
  exact wpAny_mono x (fun y s' ⟨st', a', F, r⟩ => ⟨st', a', by rw [← e']; exact F, r⟩) fun _ _ e => e
theorem WS.le {l : List Stmt} {Q : Fl → St → Prop} (h : Le a b) (x : WS prog w c env A l a Q) : WS prog w c env A l b Q := fun s at' => Wp.le h (x s (at'.le h))
theorem WB.le {l : Expr} {Q : Bool → St → Prop} (h : Le a b) (x : WB prog w c env A l a Q) : WB prog w c env A l b Q := fun s at' => Wp.le h (x s (at'.le h))
theorem Le.set {x : Str} {v : V} (h : Le a b) (hx : (a.vars.map (·.1)).contains x = false := by rfl) : Le (a.set x v) (b.set x v) := by
  refine ⟨h.1, fun p hp => ?_⟩
  rcases List.mem_cons.mp hp with rfl | hp
  · simp [St.set]
  · have : p.1 ≠ x := fun q => by
      have hm : x ∈ a.vars.map (·.1) := q ▸ List.mem_map_of_mem hp
      rw [← List.contains_iff_mem, hx] at hm; cases hm
    simp only [St.set, List.lookup_cons, beq_eq_false_iff_ne.mpr this]
    exact h.2 p hp
theorem WS.seq {t : Stmt} {l : List Stmt} {Q : Fl → St → Prop} (P : St → Prop) (h1 : WX prog w c env A t a (fun f st' => match f with | .next => P st' | f => Q f st')) (h2 : ∀ st', P st' → WS prog w c env A l st' Q) : WS prog w c env A (t :: l) a Q :=
  WS.cons (WX.mono h1 fun f st' q => by cases f <;> first | exact h2 _ q | exact q)
theorem Le.of {a b : St} (h : b.own = a.own) (k : a.vars.map (fun p => b.vars.lookup p.1) = a.vars.map (fun p => some p.2)) : Le a b := ⟨h, List.map_inj_left.mp k⟩
end
end Mine
end PtLg9
section PtLg10
open PySem PySem.W PyProof.Rows
namespace Mine
/-- one owned object changed -/
inductive Upd (x : Addr) (o o' : O) : List (Addr × O) → List (Addr × O) → Prop where
  | head {l : List (Addr × O)} : Upd x o o' ((x, o) :: l) ((x, o') :: l)
  | tail {p : Addr × O} {l l' : List (Addr × O)} : Upd x o o' l l' → Upd x o o' (p :: l) (p :: l')
theorem Upd.mem {x : Addr} {o o' : O} {l l' : List (Addr × O)} (u : Upd x o o' l l') : (x, o) ∈ l := by
  induction u with
  | head => exact .head _
  | tail _ ih => exact .tail _ ih
theorem Upd.adr {x : Addr} {o o' : O} {l l' : List (Addr × O)} (u : Upd x o o' l l') : l'.map (·.1) = l.map (·.1) := by
  induction u with
  | head => rfl
  | tail _ ih => simp [ih]
theorem Upd.cases {x : Addr} {o o' : O} {l l' : List (Addr × O)} (u : Upd x o o' l l') (nd : (l.map (·.1)).Nodup) : ∀ p ∈ l', p = (x, o') ∨ (p ∈ l ∧ p.1 ≠ x) := by
  induction u with
  | head =>
    intro p hp
    rcases List.mem_cons.mp hp with rfl | hp
    · exact .inl rfl
    · refine .inr ⟨.tail _ hp, fun q => ?_⟩
      simp only [List.map_cons, List.nodup_cons] at nd
      exact nd.1 (q ▸ List.mem_map_of_mem hp)
  | tail u ih =>
    intro p hp
    simp only [List.map_cons, List.nodup_cons] at nd
    rcases List.mem_cons.mp hp with rfl | hp
    · refine .inr ⟨.head _, fun q => nd.1 ?_⟩
      rw [q]; exact List.mem_map_of_mem (f := (·.1)) u.mem
    · rcases ih nd.2 p hp with h | ⟨h, n⟩
      · exact .inl h
      · exact .inr ⟨.tail _ h, n⟩
section
variable {prog : Program} {w : World} {c : Cx} {env : Env} {A : Around} {st st' : St} {s s' : Shared}
/-- readable objects stand under no owned address: what changes an owned object changes no value's reading -/
theorem At.upd (a : At prog w c env st s) {x : Addr} {o o' : O} {own' : List (Addr × O)} (u : Upd x o o' st.own own') {h' : Heap} {t : Nat} (k : Heap.SameBut x s.heap h') (ho : OAt prog w h' (c.adr st) x o') :
    At prog w c env ⟨st.vars, own'⟩ { s with heap := h', toks := t } ∧ Fol env.locals (c.adr st) s.heap (c.adr ⟨st.vars, own'⟩) h' := by
  have e : c.adr ⟨st.vars, own'⟩ = c.adr st := by unfold Cx.adr; rw [u.adr]
  have hx : x ∈ c.adr st := List.mem_append_left _ (List.mem_map_of_mem (f := (·.1)) u.mem)
  have F : Fol env.locals (c.adr st) s.heap (c.adr st) h' := fun b ob eb nb nl => ⟨(k.2 b fun q => nb (q ▸ hx)).trans eb, nb⟩
  have S : Seqs (c.adr st) s.heap (c.adr st) h' := fun b ob eb nb _ => ⟨(k.2 b fun q => nb (q ▸ hx)).trans eb, nb⟩
  refine ⟨⟨?_, fun b ob eb nb => ?_, fun p hp => ?_, ?_, ?_, fun p hp => ?_, fun b ob eb => ?_, a.low, fun b hb => ?_, a.above, a.gens, a.os⟩, by rw [e]; exact F⟩
  · obtain ⟨m, n, r⟩ := a.vars
    refine ⟨m, n.sameBut k (fun q => a.off (q ▸ hx)), fun y v q => ?_⟩
    obtain ⟨val, h1, h2⟩ := r y v q
    rw [e]; exact ⟨val, h1, Rep.seqs S _ _ h2⟩
  · refine (k.2 b fun q => ?_).trans (a.keep b ob eb nb)
    subst q
    rcases (a.fresh _ u.mem).2 with h | h
    · exact nb h
    · rw [h] at eb; cases eb
  · rw [e]
    rcases u.cases a.nodup p hp with rfl | ⟨hm, hne⟩
    · exact ho
    · have y := a.own p hm
      obtain ⟨b, ob⟩ := p
      cases ob with
      | list vs => obtain ⟨items, ⟨i, e⟩, r⟩ := y; exact ⟨items, ⟨i, (k.2 b hne).trans e⟩, Reps.seqs S _ _ r⟩
      | map f n => obtain ⟨g, m', l, r⟩ := y; exact ⟨g, m'.sameBut k hne, l.sameBut k hne, fun i => (r i).seqs S⟩
      | inst C d => exact (k.2 b hne).trans y
      | attrs f z => obtain ⟨m', n', l, r⟩ := y; exact ⟨m', n'.sameBut k hne, l.sameBut k hne, fun i => (r i).seqs S⟩
      | cell v => obtain ⟨z, ⟨o, e, d⟩, r⟩ := y; exact ⟨z, ⟨o, (k.2 b hne).trans e, d⟩, r.seqs S⟩
  · show (own'.map (·.1)).Nodup
    rw [u.adr]; exact a.nodup
  · rw [e]; exact a.off
  · have : p.1 ∈ st.own.map (·.1) := u.adr ▸ List.mem_map_of_mem (f := (·.1)) hp
    obtain ⟨q, hq, e⟩ := List.mem_map.mp this
    rw [← e]; exact a.fresh q hq
  · refine (k.2 b fun q => ?_).trans (a.top b ob eb)
    subst q
    rw [(a.fresh _ u.mem).1] at eb; cases eb
  · show _ ∧ b ∉ own'.map (·.1) ∧ _
    rw [u.adr]; exact a.hid b hb
/-- a new object of the call's own -/
theorem At.allocR (a : At prog w c env st s) {o : Obj} {ob : O} {t : Nat} (hf : o.isFreed = false) (ho : OAt prog w (s.heap.push o) (s.heap.objs.size :: c.adr st) s.heap.objs.size ob) :
    At prog w c env ⟨st.vars, (s.heap.objs.size, ob) :: st.own⟩ { s with heap := s.heap.push o, toks := t } ∧ Fol env.locals (c.adr st) s.heap (c.adr ⟨st.vars, (s.heap.objs.size, ob) :: st.own⟩) (s.heap.push o) ∧ s.heap.objs.size ∉ c.adr st := by
  obtain ⟨z1, z2, z3, z4⟩ := a.new
  have k : ∀ b o', s.heap.get? b = some o' → (s.heap.push o).get? b = some o' := fun b o' e => Heap.get?_push_of_some _ e
  have ne : ∀ b o', s.heap.get? b = some o' → b ≠ s.heap.objs.size := fun b o' e => Nat.ne_of_lt (Heap.lt_size e)
  have e : c.adr ⟨st.vars, (s.heap.objs.size, ob) :: st.own⟩ = s.heap.objs.size :: c.adr st := rfl
  have S : Seqs (c.adr st) s.heap (s.heap.objs.size :: c.adr st) (s.heap.push o) := fun b o' eb nb _ => ⟨k b o' eb, fun q => by
    rcases List.mem_cons.mp q with q | q
    · exact ne b o' eb q
    · exact nb q⟩
  refine ⟨⟨?_, fun b o' eb nb => k b o' (a.keep b o' eb nb), fun p hp => ?_, ?_, ?_, fun p hp => ?_, fun b o' eb => k b o' (a.top b o' eb), a.low, fun b hb => ?_, a.above, a.gens, a.os⟩, fun b o' eb nb nl => ?_, z4⟩
  · obtain ⟨m, n, r⟩ := a.vars
    refine ⟨m, n.push _, fun y v q => ?_⟩
    obtain ⟨val, h1, h2⟩ := r y v q
    exact ⟨val, h1, Rep.seqs S _ _ h2⟩
  · rcases List.mem_cons.mp hp with rfl | hp
    · exact ho
    · have y := (a.own p hp).keeps (h' := s.heap.push o) k
      obtain ⟨b, ob'⟩ := p
      have S' : Seqs (c.adr st) (s.heap) (s.heap.objs.size :: c.adr st) (s.heap.push o) := S
      have y := a.own (b, ob') hp
      cases ob' with
      | list vs => obtain ⟨items, ⟨i, e⟩, r⟩ := y; exact ⟨items, ⟨i, k _ _ e⟩, Reps.seqs S _ _ r⟩
      | map f n =>
        obtain ⟨g, ⟨o1, es, ep, e, y⟩, l, r⟩ := y
        refine ⟨g, ⟨o1, es, ep, k _ _ e, y⟩, fun o' es' ep' e' d => ?_, fun i => (r i).seqs S⟩
        rw [k _ _ e] at e'; cases e'
        exact l _ es' ep' e d
      | inst C d => exact k _ _ y
      | attrs f z =>
        obtain ⟨m', ⟨o1, es, ep, e, y⟩, l, r⟩ := y
        refine ⟨m', ⟨o1, es, ep, k _ _ e, y⟩, fun o' es' ep' e' d => ?_, fun i => (r i).seqs S⟩
        rw [k _ _ e] at e'; cases e'
        exact l _ es' ep' e d
      | cell v => obtain ⟨z, ⟨o1, e, d⟩, r⟩ := y; exact ⟨z, ⟨o1, k _ _ e, d⟩, r.seqs S⟩
  · show (s.heap.objs.size :: st.own.map (·.1)).Nodup
    exact List.nodup_cons.mpr ⟨fun q => z4 (List.mem_append_left _ q), a.nodup⟩
  · show env.locals ∉ s.heap.objs.size :: c.adr st
    intro q
    rcases List.mem_cons.mp q with q | q
    · obtain ⟨m, n, _⟩ := a.vars
      exact absurd n.lt (q ▸ Nat.lt_irrefl _)
    · exact a.off q
  · rcases List.mem_cons.mp hp with rfl | hp
    · exact ⟨z3, .inr z2⟩
    · exact a.fresh p hp
  · obtain ⟨h1, h2, h3⟩ := a.hid b hb
    refine ⟨h1, fun q => ?_, h3⟩
    rcases List.mem_cons.mp q with q | q
    · have q' : b = s.heap.objs.size := q
      exact absurd (Nat.lt_trans h1 a.size) (q' ▸ Nat.lt_irrefl _)
    · exact h2 q
  · refine ⟨k b o' eb, fun q => ?_⟩
    rcases List.mem_cons.mp q with q | q
    · exact ne b o' eb q
    · exact nb q
theorem At.alloc (a : At prog w c env st s) {o : Obj} {ob : O} {t : Nat} (hf : o.isFreed = false) (ho : ∀ own, OAt prog w (s.heap.push o) (s.heap.objs.size :: own) s.heap.objs.size ob) :
    At prog w c env ⟨st.vars, (s.heap.objs.size, ob) :: st.own⟩ { s with heap := s.heap.push o, toks := t } ∧ Fol env.locals (c.adr st) s.heap (c.adr ⟨st.vars, (s.heap.objs.size, ob) :: st.own⟩) (s.heap.push o) ∧ s.heap.objs.size ∉ c.adr st := a.allocR hf (ho _)
end
end Mine
end PtLg10
section PtLg11
open PySem PySem.W PyProof.Rows
namespace Mine
theorem lookIn_ns {h : Heap} {d : Addr} {m : Str → Option Value} (n : h.Ns d m) : ∃ o, h.get? d = some o ∧ ∀ name, lookIn name o = some (m name) := by
  obtain ⟨o, es, ep, e, hd, sk, hm⟩ := n
  refine ⟨o, e, fun name => ?_⟩
  have q := hm name
  unfold nsFind findBy at q
  unfold lookIn
  rw [hd]
  dsimp only
  rw [← Array.find?_toList] at q
  cases hf : es.toList.find? (fun e => e.key.isStr name) with
  | some x => rw [hf] at q; exact congrArg some q
  | none =>
    rw [hf] at q
    have : es.toList.any (·.refKey) = false := by
      rw [List.any_eq_false]; intro x hx
      obtain ⟨n, t, h⟩ := sk x (Array.mem_toList_iff.mp hx)
      simp [DictEntry.refKey, h]
    rw [this]
    exact congrArg some q
theorem wpAny_nsSet_at {M : Model} {A : Around} {E : Value → Shared → Prop} {s : Shared} {a : Addr} {o : Obj} {es : Array DictEntry} {ep : Nat} {name : Str} {v : Value} {Q : Unit → Shared → Prop} (ho : s.heap.get? a = some o) (hd : o.data = .dict es ep) (hk : StrKeys es)
    (h : ∀ hash, Q () { s with heap := s.heap.update a (Obj.putName name hash (.str name s.toks) v), toks := s.toks + 1 }) : wpAny M A (nsSet a name v) Q E s := fun Γ p _ => by
  simp only [nsSet, strHash, Sem.wp_bind', Sem.wp_cmd_ask, Sem.wp_pure', Sem.wp_cmd_mkText]
  rw [Sem.wp_loadPart_of M Γ _ p { s with toks := s.toks + 1 } (o := o) _ ho]
  have hany : es.any (·.refKey) = false := by
    rw [Array.any_eq_false']; intro e he; obtain ⟨n, t, h⟩ := hk e he; simp [DictEntry.refKey, h]
  simp only [hd, aRefKeyMayBeTheName_eq, aRefKeyMayBeTheNameByArray, hany, Bool.and_false, Bool.false_eq_true, if_false, Sem.wp_cmd_updatePart]
  exact ⟨by rw [ho]; rfl, h _⟩
theorem wpAny_nsSet2 {M : Model} {A : Around} {E : Value → Shared → Prop} {s : Shared} {a : Addr} {m : Str → Option Value} {name : Str} {v : Value} {z : Nat} {Q : Unit → Shared → Prop} (hn : s.heap.Ns a m) (hz : s.heap.DictLe a z)
    (h : ∀ h', h'.Ns a (fun x => if x = name then some v else m x) → Heap.SameBut a s.heap h' → h'.DictLe a (z + 1) → (m name ≠ none → h'.DictLe a z) → Q () { s with heap := h', toks := s.toks + 1 }) :
    wpAny M A (nsSet a name v) Q E s := by
  obtain ⟨o, es, ep, ho, hd, hk, hm⟩ := id hn
  have hes := hz o es ep ho hd
  refine wpAny_nsSet_at ho hd hk fun hash => ?_
  obtain ⟨oc, d, dt, sl⟩ := o
  subst hd
  have q := hm name
  cases hi : es.findIdx? (·.key.isStr name) with
  | some i =>
    have g : (s.heap.update a (Obj.putName name hash (.str name s.toks) v)).get? a = some ⟨oc, d, .dict (es.modify i fun e => { e with val := v }) ep, sl⟩ := by
      rw [Heap.get?_update_self _ ho (by simp only [Obj.putName_eq, Obj.putNameByArray, hi]; rfl)]
      simp only [Obj.putName_eq, Obj.putNameByArray, hi]
    have dz : (s.heap.update a (Obj.putName name hash (.str name s.toks) v)).DictLe a z := fun o' es' ep' e' d' => by
      rw [g] at e'; cases e'; cases d'; simpa using hes
    refine h _ ⟨_, _, ep, g, rfl, hk.modify _ _, fun x => ?_⟩ (Heap.SameBut.update ..) (fun o' es' ep' e' d' => Nat.le_succ_of_le (dz o' es' ep' e' d')) fun _ => dz
    show _ = if x = name then some v else m x
    rw [← hm]; exact findBy_modify (fun n v => v.isStr n) Value.isStr_inj es name x v i hi
  | none =>
    have g : (s.heap.update a (Obj.putName name hash (.str name s.toks) v)).get? a = some ⟨oc, d, .dict (es.push ⟨hash, .str name s.toks, v⟩) (ep + 1), sl⟩ := by
      rw [Heap.get?_update_self _ ho (by simp only [Obj.putName_eq, Obj.putNameByArray, hi]; rfl)]
      simp only [Obj.putName_eq, Obj.putNameByArray, hi]
    refine h _ ⟨_, _, ep + 1, g, rfl, hk.push _ _ _ _, fun x => ?_⟩ (Heap.SameBut.update ..) (fun o' es' ep' e' d' => ?_) fun ne => ?_
    · show _ = if x = name then some v else m x
      rw [← hm]
      exact findBy_push (fun n v => v.isStr n) es name x _ _ v (fun y => by
        show (name == y) = decide (y = name)
        by_cases h : y = name
        · subst h; simp
        · have : ¬ name = y := fun e => h e.symm
          simp [h, this]) hi
    · rw [g] at e'; cases e'; cases d'; simpa using hes
    · exfalso
      refine ne ?_
      rw [← q, nsFind, findBy_of_findIdx?, hi]
/-- a class of the text's as plain as can be -/
structure ClsOk (K : Frag) (C : Addr) : Prop where
  ga : findIn K (.ref C) "__getattribute__" = some (some (.builtin "object.__getattribute__"))
  gt : findIn K (.ref C) "__getattr__" = some none
  sa : findIn K (.ref C) "__setattr__" = some (some (.builtin "object.__setattr__"))
  over : plainOver K C = true
  has : (clsIn K C).any (·.hasDict) = true
noncomputable def V.handed : V → Bool
  | .con v => handedIn v
  | _ => true
theorem V.handed_of {h : Heap} {own : List Addr} {v : V} {x : Value} (e : v.handed = true) (r : Rep h own v x) : handedIn x = true := by
  cases v with
  | con c => cases r; exact e
  | none => cases r; rfl
  | bool b => cases r; rfl
  | int i => obtain ⟨_, rfl⟩ := r; rfl
  | str i => obtain ⟨_, rfl⟩ := r; rfl
  | ref i => cases r; rfl
  | bm _ _ => obtain ⟨_, _, rfl, _⟩ := r; rfl
  | eset => obtain ⟨_, rfl, _⟩ := r; rfl
  | rng _ _ _ => obtain ⟨_, _, _, _, rfl, _⟩ := r; rfl
  | tup _ => obtain ⟨_, _, rfl, _⟩ := r; rfl
  | mat _ => obtain ⟨_, _, rfl, _⟩ := r; rfl
  | lst _ => obtain ⟨_, _, rfl, _⟩ := r; rfl
theorem findObj_ns {K : Frag} {C : Addr} {od : Obj} {name : Str} {v : Value} (hh : (clsIn K C).any (·.hasDict) = true) (ha : findIn K (.ref C) name = some none) (hl : lookIn name od = some (some v)) : findObj K C (some od) name = some (.value v) := by
  obtain ⟨cd, hc, hd⟩ := any_some hh
  unfold findObj
  rw [hc, ha]
  simp only [Option.bind_some]
  unfold PySem.W.ownOf
  rw [if_pos hd]
  dsimp only
  rw [hl]; rfl
section
variable {prog : Program} {w : World} {c : Cx} {env : Env} {A : Around} {st st' : St} {s s' : Shared} {Q : V → St → Prop} {K : Frag} {C : Addr}
theorem At.instAt (a : At prog w c env st s) {x d : Addr} {f : Str → Option V} {n : Nat} (hx : (x, .inst C d) ∈ st.own) (hd : (d, .attrs f n) ∈ st.own) :
    ∃ od m, s.heap.Ns d m ∧ s.heap.DictLe d n ∧ (∀ y, OptRep s.heap (c.adr st) (f y) (m y)) ∧ InstAt s.heap x { cls := .ref C, dict := some d } C (some od) ∧ ∀ name, lookIn name od = some (m name) := by
  have h1 := a.own _ hx
  obtain ⟨m, n', l, r⟩ := a.own _ hd
  obtain ⟨od, e, hl⟩ := lookIn_ns n'
  exact ⟨od, m, n', l, r, ⟨h1, rfl, rfl, e⟩, hl⟩
inductive AtE (C : Addr) (name : Str) (v : V) (own : List (Addr × O)) (Q : V → Prop) : Prop
  | mk (x d : Addr) (f : Str → Option V) (n : Nat) (u : V) (e : v = .ref x) (i : (x, .inst C d) ∈ own) (a : (d, .attrs f n) ∈ own) (h : f name = some u) (k : u.handed = true) (q : Q u)
/-- an attribute of an instance, kept in its own dict -/
theorem W.attr {e : Expr} {name : Str} {pos : Pos} (X : K.In c.top) (hC : ClsOk K C)
    (h : W prog w c env A e st (fun v st₁ => AtE C name v st₁.own fun u => Q u st₁)) (hn : findIn K (.ref C) name = some Option.none := by rfl)
    (he : eval (.Attribute e name pos) env = (do
      let o ← eval e env
      standAt pos.atName
      let r ← holding [o] (getAttr o name true)
      letTemporaryGo e o r
      pure r) := by rfl) : W prog w c env A (.Attribute e name pos) st Q := fun s a => by
  refine Attribute_any_ (wpAny_mono (h s a) (fun y s₁ p => ?_) fun _ _ e => e) he
  obtain ⟨st₁, a₁, F₁, v, rv, x, d, f, n, u, rfl, hx, hd, hf, hu, q⟩ := p
  cases rv
  obtain ⟨od, m, n', l, r, I, hl⟩ := a₁.instAt hx hd
  have rn := r name
  rw [hf] at rn
  obtain ⟨val, e, rv⟩ := rn
  exact get_value (X.keeps a₁.top) I hC.ga (findObj_ns hC.has hn (by rw [hl, e])) (V.handed_of hu rv) ⟨st₁, a₁.quiet (Quiet.toks _ _), F₁.trans (Fol.quiet (Quiet.toks _ _) _ _), u, rv, q⟩
end
end Mine
end PtLg11
section PtLg12
open PySem PySem.W PyProof.Rows
namespace Mine
section
variable {prog : Program} {w : World} {c : Cx} {env : Env} {A : Around} {st st' : St} {s s' : Shared} {K : Frag} {C : Addr}
/-- a function with one place turned -/
noncomputable def fset (f : Str → Option V) (x : Str) (v : V) : Str → Option V := fun y => if y = x then some v else f y
theorem Wp.setAttr {R : Shared → St → Unit → Prop} {x d : Addr} {f : Str → Option V} {n n' : Nat} {name : Str} {v : V} {val : Value} {own' : List (Addr × O)} (X : K.In c.top) (hC : ClsOk K C) (ht : takerIn K C name = some none)
    (a : At prog w c env st s) (hx : (x, .inst C d) ∈ st.own) (hu : Upd d (.attrs f n) (.attrs (fset f name v) n') st.own own') (hn : n' = n + 1 ∨ (n' = n ∧ (f name).isSome = true)) (hz : n' ≤ 1000) (r : Rep s.heap (c.adr st) v val)
    (h : ∀ s', At prog w c env ⟨st.vars, own'⟩ s' → R s' ⟨st.vars, own'⟩ ()) : Wp prog w c env A (setAttr (.ref x) name val) R st s := by
  obtain ⟨od, m, n0, l, rr, I, hl⟩ := a.instAt hx hu.mem
  have XX := X.keeps a.top
  refine set_plain XX I hC.sa ?_
  have I' : InstAt ({ s with toks := s.toks + 1 } : Shared).heap x { cls := .ref C, dict := some d } C (some od) := I
  have XX' : K.In ({ s with toks := s.toks + 1 } : Shared).heap := XX
  refine osa_open XX' I' hC.over ht fun b => ?_
  obtain ⟨cd, hc, hd'⟩ := any_some hC.has
  refine wpAny_bind (wpAny_pure (wpAny_bind (wpAny_bind (wpAny_loadPart I.at_ (wpAny_bind (Looks.here (s := { s with toks := s.toks + 1 }) (looks_clsIn XX' hc) ?_))))))
  rw [hd']
  refine wpAny_pure (a := some d) (wpAny_bind (wpAny_pure (wpAny_bind ?_)))
  refine wpAny_nsSet2 (s := { s with toks := s.toks + 1 }) n0 l fun h' ns k l1 l2 => ?_
  have hle : h'.DictLe d n' := by
    rcases hn with rfl | ⟨rfl, hs⟩
    · exact l1
    · refine l2 fun q => ?_
      obtain ⟨u, hu⟩ := Option.isSome_iff_exists.mp hs
      have := rr name
      rw [hu] at this
      obtain ⟨z, e, _⟩ := this
      rw [q] at e; cases e
  have hxd : d ∈ c.adr st := List.mem_append_left _ (List.mem_map_of_mem (f := (·.1)) hu.mem)
  have S : Seqs (c.adr st) s.heap (c.adr st) h' := fun b ob eb nb _ => ⟨(k.2 b fun q => nb (q ▸ hxd)).trans eb, nb⟩
  have ho : OAt prog w h' (c.adr st) d (.attrs (fset f name v) n') := by
    refine ⟨_, ns, hle, fun y => ?_⟩
    by_cases q : y = name
    · subst q; simp only [fset, if_true]; exact ⟨val, rfl, Rep.seqs S _ _ r⟩
    · simp only [fset, if_neg q]; exact (rr y).seqs S
  obtain ⟨a', F⟩ := a.upd hu (t := s.toks + 1 + 1) k ho
  obtain ⟨o2, es2, ep2, g2, d2, _⟩ := ns
  refine wpAny_bind (wpAny_lookBehind g2 (by rw [d2]; exact pastItsLine_dict (by have := hle _ _ _ g2 d2; rw [sizeLine_eq]; (first | lia | omega))) ?_)
  exact wpAny_pure ⟨_, a', F, h _ a'⟩
inductive SaE (C : Addr) (name : Str) (v vo : V) (own : List (Addr × O)) (Q : List (Addr × O) → Prop) : Prop
  | mk (x d : Addr) (f : Str → Option V) (n n' : Nat) (own' : List (Addr × O)) (e : vo = .ref x) (i : (x, .inst C d) ∈ own) (u : Upd d (.attrs f n) (.attrs (fset f name v) n') own own') (z : n' = n + 1 ∨ (n' = n ∧ (f name).isSome = true)) (l : n' ≤ 1000) (q : Q own')
theorem WX.setAttr {Q : Fl → St → Prop} {o e : Expr} {name : Str} {p pos : Pos} (X : K.In c.top) (hC : ClsOk K C)
    (h : W prog w c env A e st (fun v st₁ => W prog w c env A o st₁ (fun vo st₂ => SaE C name v vo st₂.own fun own' => Q .next ⟨st₂.vars, own'⟩)))
    (ht : takerIn K C name = some none := by rfl) (hs : swapsWith e (some (.Attribute o name p)) pos.line env = pure false := by rfl) : WX prog w c env A (.Assign [.Attribute o name p] e pos) st Q := fun s a => by
  refine plainObj_wpAny_Assign_Attribute (wpAny_mono (h s a) (fun val s₁ ⟨st₁, a₁, F₁, v, rv, h₁⟩ => ?_) fun _ _ e => e) hs
  refine wpAny_mono (h₁ s₁ a₁) (fun ov s₂ ⟨st₂, a₂, F₂, vo, ro, x, d, f, n, n', own', e, hx, hu, hn, hz, q⟩ => ?_) fun _ _ e => e
  subst e
  cases ro
  exact wpAny_mono (Wp.setAttr (R := fun s' st' _ => Q .next st') X hC ht a₂ hx hu hn hz (a₁.rep F₂ rv) fun s' a' => q) (fun _ _ ⟨st₃, a₃, F₃, q⟩ => ⟨st₃, a₃, (F₁.trans F₂).trans F₃, .next, rfl, q⟩) fun _ _ e => e
end
end Mine
end PtLg12
section PtLg13
open PySem PySem.W PyProof.Rows
namespace Mine
noncomputable abbrev adrs (l : List (Addr × O)) : List Addr := l.map (·.1)
section
variable (prog : Program) (w : World)
/-- objects handed to a callee, and those that it must not know of -/
structure Lent (tp : Heap) (ow hid : List (Addr)) (objs : List (Addr × O)) (h : Heap) : Prop where
  at_ : ∀ p ∈ objs, OAt prog w h (ow ++ hid) p.1 p.2
  eq_ : adrs objs = ow
  nodup : ow.Nodup
  off : ∀ a ∈ hid, a ∉ ow
  top : ∀ a ∈ ow ++ hid, a < h.objs.size ∧ tp.get? a = Option.none
inductive FnP (top : Heap) (objs : List (Addr × O)) (hid : List Addr) (s : Shared) (post : V → List (Addr × O) → Prop) (x : Value) (s' : Shared) : Prop
  | mk (v : V) (objs' : List (Addr × O)) (rv : Rep s'.heap (adrs objs' ++ hid) v x) (l : Lent prog w top (adrs objs') hid objs' s'.heap) (fr : ∀ a ∈ adrs objs', a ∈ adrs objs ∨ s.heap.get? a = Option.none)
    (kp : ∀ b o, s.heap.get? b = some o → b ∉ adrs objs → s'.heap.get? b = some o) (g : s'.gens = s.gens) (o : s'.os = s.os) (p : post v objs')
/-- a call that may change the objects handed to it -/
noncomputable def Fn (top : Heap) (n : Nat) (t : List Value → Sem Value) (args : List V) (objs : List (Addr × O)) (post : V → List (Addr × O) → Prop) : Prop :=
  ∀ (A : Around) (s : Shared) (hid : List Addr) (xs : List Value), AOk n A → (∀ b o, top.get? b = some o → s.heap.get? b = some o) → top.objs.size ≤ s.heap.objs.size →
    Lent prog w top (adrs objs) hid objs s.heap → Reps s.heap (adrs objs ++ hid) args xs →
    wpAny (model prog w) A (t xs) (FnP prog w top objs hid s post) (fun _ _ => False) s
end
section
variable {prog : Program} {w : World} {top : Heap}
end
section
variable {prog : Program} {w : World} {c : Cx} {env : Env} {A : Around} {st st' : St} {s s' : Shared}
theorem At.perm {own' : List (Addr × O)} (hp : st.own.Perm own') (a : At prog w c env st s) : At prog w c env ⟨st.vars, own'⟩ s := by
  have e : ∀ b, b ∈ c.adr ⟨st.vars, own'⟩ ↔ b ∈ c.adr st := fun b => by
    show b ∈ own'.map (·.1) ++ c.hid ↔ b ∈ st.own.map (·.1) ++ c.hid
    rw [List.mem_append, List.mem_append, (hp.map (·.1)).mem_iff]
  have S : Seqs (c.adr st) s.heap (c.adr ⟨st.vars, own'⟩) s.heap := fun b o eb nb _ => ⟨eb, fun q => nb ((e b).mp q)⟩
  refine ⟨?_, a.keep, fun p hp' => ?_, (hp.map (·.1)).nodup_iff.mp a.nodup, fun q => a.off ((e _).mp q), fun p hp' => a.fresh p (hp.mem_iff.mpr hp'), a.top, a.low, fun b hb => ⟨(a.hid b hb).1, fun q => (a.hid b hb).2.1 ((hp.map (·.1)).mem_iff.mpr q), (a.hid b hb).2.2⟩, a.above, a.gens, a.os⟩
  · obtain ⟨m, n, r⟩ := a.vars
    exact ⟨m, n, fun y v q => let ⟨val, h1, h2⟩ := r y v q; ⟨val, h1, Rep.seqs S _ _ h2⟩⟩
  · have y := a.own p (hp.mem_iff.mpr hp')
    obtain ⟨b, ob⟩ := p
    cases ob with
    | list vs => obtain ⟨items, i, r⟩ := y; exact ⟨items, i, Reps.seqs S _ _ r⟩
    | map f n => obtain ⟨g, m', l, r⟩ := y; exact ⟨g, m', l, fun i => (r i).seqs S⟩
    | inst C d => exact y
    | attrs f z => obtain ⟨m', n', l, r⟩ := y; exact ⟨m', n', l, fun i => (r i).seqs S⟩
    | cell v => obtain ⟨z, i, r⟩ := y; exact ⟨z, i, r.seqs S⟩
end
end Mine
end PtLg13
section PtLg14
open PySem PySem.W PyProof.Rows
namespace Mine
section
variable {prog : Program} {w : World} {c : Cx} {env : Env} {A : Around} {st st' : St} {s s' : Shared}
theorem OAt.move {h h' : Heap} {own own' : List Addr} {a : Addr} {o : O} (k : ∀ o, h.get? a = some o → h'.get? a = some o) (S : Seqs own h own' h') (x : OAt prog w h own a o) : OAt prog w h' own' a o := by
  cases o with
  | list vs => obtain ⟨items, p, r⟩ := x; exact ⟨items, p.at fun o e => k _ e, Reps.seqs S _ _ r⟩
  | map f n =>
    obtain ⟨g, ⟨o, es, ep, e, y⟩, l, r⟩ := x
    refine ⟨g, ⟨o, es, ep, k _ e, y⟩, fun o' es' ep' e' d => ?_, fun i => (r i).seqs S⟩
    rw [k _ e] at e'; cases e'
    exact l o es' ep' e d
  | inst C d => exact k _ x
  | attrs f z =>
    obtain ⟨m, ⟨o, es, ep, e, y⟩, l, r⟩ := x
    refine ⟨m, ⟨o, es, ep, k _ e, y⟩, fun o' es' ep' e' d => ?_, fun i => (r i).seqs S⟩
    rw [k _ e] at e'; cases e'
    exact l o es' ep' e d
  | cell v =>
    obtain ⟨y, ⟨o, e, d⟩, r⟩ := x
    exact ⟨y, ⟨o, k _ e, d⟩, r.seqs S⟩
theorem Cx.adr_app (c : Cx) (vars : List (Str × V)) (x y : List (Addr × O)) : c.adr ⟨vars, x ++ y⟩ = adrs x ++ (adrs y ++ c.hid) := by
  show (x ++ y).map (·.1) ++ c.hid = _
  rw [List.map_append, List.append_assoc]
/-- a call that may change some of the owned objects -/
theorem Wp.fn {n : Nat} {t : List Value → Sem Value} {args : List V} {objs rest : List (Addr × O)} {post : V → List (Addr × O) → Prop} {R : Shared → St → Value → Prop} {xs : List Value}
    (F : Fn prog w c.top n t args objs post) (hA : AOk n A) (hp : st.own.Perm (objs ++ rest)) (a : At prog w c env st s) (r : Reps s.heap (c.adr st) args xs)
    (h : ∀ s' x v objs', At prog w c env ⟨st.vars, objs' ++ rest⟩ s' → Rep s'.heap (c.adr ⟨st.vars, objs' ++ rest⟩) v x → post v objs' → R s' ⟨st.vars, objs' ++ rest⟩ x) : Wp prog w c env A (t xs) R st s := by
  have b := a.perm hp
  have mem : ∀ z, z ∈ c.adr st ↔ z ∈ adrs objs ++ (adrs rest ++ c.hid) := fun z => by
    rw [← Cx.adr_app c st.vars]
    show z ∈ st.own.map (·.1) ++ c.hid ↔ z ∈ (objs ++ rest).map (·.1) ++ c.hid
    rw [List.mem_append, List.mem_append, (hp.map (·.1)).mem_iff]
  have S0 : Seqs (c.adr st) s.heap (adrs objs ++ (adrs rest ++ c.hid)) s.heap := fun b o eb nb _ => ⟨eb, fun q => nb ((mem b).mpr q)⟩
  have nd : (adrs objs ++ adrs rest).Nodup := by
    have := b.nodup
    rwa [show (objs ++ rest).map (·.1) = adrs objs ++ adrs rest from List.map_append] at this
  have hin : ∀ z ∈ adrs rest ++ c.hid, z ∉ adrs objs := fun z hz q => by
    rcases List.mem_append.mp hz with hz | hz
    · exact (List.nodup_append.mp nd).2.2 z q z hz rfl
    · exact (b.hid z hz).2.1 (by rw [List.map_append]; exact List.mem_append_left _ q)
  have L0 : Lent prog w c.top (adrs objs) (adrs rest ++ c.hid) objs s.heap :=
    ⟨fun p hp' => by
      have := b.own p (List.mem_append_left _ hp')
      rwa [Cx.adr_app] at this, rfl, (List.nodup_append.mp nd).1, hin, fun z hz => a.lt z ((mem z).mpr hz)⟩
  have sz : c.top.objs.size ≤ s.heap.objs.size := Nat.le_of_lt (Nat.lt_of_le_of_lt a.low a.size)
  refine wpAny_mono (F A s (adrs rest ++ c.hid) xs hA a.top sz L0 (Reps.seqs S0 _ _ r)) (fun x s₁ p => ?_) fun _ _ e => e
  obtain ⟨v, objs', rv, L1, fr, kp, hg, ho, hq⟩ := p
  have newout : ∀ z o, s.heap.get? z = some o → z ∉ adrs objs → z ∉ adrs objs' := fun z o e n q => by
    rcases fr z q with q | q
    · exact n q
    · rw [q] at e; cases e
  have S1 : Seqs (c.adr st) s.heap (adrs objs' ++ (adrs rest ++ c.hid)) s₁.heap := fun z o e nz _ => by
    have nz' : z ∉ adrs objs ++ (adrs rest ++ c.hid) := fun q => nz ((mem z).mpr q)
    have n1 : z ∉ adrs objs := fun q => nz' (List.mem_append_left _ q)
    refine ⟨kp z o e n1, fun q => ?_⟩
    rcases List.mem_append.mp q with q | q
    · exact newout z o e n1 q
    · exact nz' (List.mem_append_right _ q)
  have inown : ∀ z ∈ adrs objs, ∃ p ∈ st.own, p.1 = z := fun z hz => by
    obtain ⟨p, hp', e⟩ := List.mem_map.mp hz
    exact ⟨p, hp.mem_iff.mpr (List.mem_append_left _ hp'), e⟩
  have at' : At prog w c env ⟨st.vars, objs' ++ rest⟩ s₁ := by
    obtain ⟨m, ns, rr⟩ := a.vars
    have hloc : env.locals ∉ adrs objs := fun q => a.off ((mem _).mpr (List.mem_append_left _ q))
    refine ⟨⟨m, ?_, fun y u q => ?_⟩, fun z o e nl => ?_, fun p hp' => ?_, ?_, ?_, fun p hp' => ?_, fun z o e => ?_, a.low, fun z hz => ⟨(a.hid z hz).1, fun q => ?_, (a.hid z hz).2.2⟩, a.above, hg.trans a.gens, ho.trans a.os⟩
    · obtain ⟨o, es, ep, e, y⟩ := ns
      exact ⟨o, es, ep, kp _ _ e hloc, y⟩
    · obtain ⟨val, h1, h2⟩ := rr y u q
      rw [Cx.adr_app]; exact ⟨val, h1, Rep.seqs S1 _ _ h2⟩
    · refine kp z o (a.keep z o e nl) fun q => ?_
      obtain ⟨p, hp', rfl⟩ := inown z q
      rcases (a.fresh p hp').2 with h | h
      · exact nl h
      · rw [h] at e; cases e
    · rw [Cx.adr_app]
      rcases List.mem_append.mp hp' with hp' | hp'
      · exact L1.at_ p hp'
      · refine (a.own p (hp.mem_iff.mpr (List.mem_append_right _ hp'))).move (fun o e => kp _ _ e ?_) S1
        exact hin _ (List.mem_append_left _ (List.mem_map_of_mem hp'))
    · rw [List.map_append]
      refine List.nodup_append.mpr ⟨L1.nodup, (List.nodup_append.mp nd).2.1, fun x hx y hy e => ?_⟩
      subst e
      exact L1.off x (List.mem_append_left _ hy) hx
    · rw [Cx.adr_app]
      intro q
      rcases List.mem_append.mp q with q | q
      · obtain ⟨o, es, ep, e, y⟩ := ns
        exact newout _ _ e hloc q
      · exact a.off ((mem _).mpr (List.mem_append_right _ q))
    · rcases List.mem_append.mp hp' with hp' | hp'
      · have hz : p.1 ∈ adrs objs' := List.mem_map_of_mem hp'
        refine ⟨(L1.top _ (List.mem_append_left _ hz)).2, ?_⟩
        rcases fr _ hz with q | q
        · obtain ⟨p', h', e⟩ := inown _ q
          rw [← e]; exact (a.fresh p' h').2
        · by_cases hl : p.1 ∈ c.lent
          · exact .inl hl
          · refine .inr ?_
            cases e : c.h₀.get? p.1 with
            | none => rfl
            | some o => rw [a.keep _ _ e hl] at q; cases q
      · exact a.fresh p (hp.mem_iff.mpr (List.mem_append_right _ hp'))
    · refine kp z o (a.top z o e) fun q => ?_
      obtain ⟨p, hp', rfl⟩ := inown z q
      rw [(a.fresh p hp').1] at e; cases e
    · rw [List.map_append] at q
      rcases List.mem_append.mp q with q | q
      · exact L1.off z (List.mem_append_right _ hz) q
      · refine (a.hid z hz).2.1 ((hp.map (·.1)).mem_iff.mpr ?_)
        rw [List.map_append]; exact List.mem_append_right _ q
  refine ⟨_, at', fun z o e nz _ => ?_, h s₁ x v objs' at' (by rw [Cx.adr_app]; exact rv) hq⟩
  have nz' : z ∉ adrs objs ++ (adrs rest ++ c.hid) := fun q => nz ((mem z).mpr q)
  have n1 : z ∉ adrs objs := fun q => nz' (List.mem_append_left _ q)
  refine ⟨kp z o e n1, fun q => ?_⟩
  rw [Cx.adr_app] at q
  rcases List.mem_append.mp q with q | q
  · exact newout z o e n1 q
  · exact nz' (List.mem_append_right _ q)
end
end Mine
end PtLg14
section PtLg15
open PySem PySem.W PyProof.Rows
namespace Mine
section
variable {prog : Program} {w : World} {c : Cx} {env : Env} {A : Around} {st st' : St} {s s' : Shared} {Q : V → St → Prop} {K : Frag} {C : Addr}
/-- a method of an instance, called -/
theorem W.meth {o : Expr} {name : Str} {apos pos : Pos} {args : List Expr} {n : Nat} {f : Addr} {pl : Sem Bool} (X : K.In c.top) (hC : ClsOk K C) (hA : AOk n A) (hk : Kpt prog w c.top (.ref f))
    (h : W prog w c env A o st (fun v st₁ => MeE C name v st₁.own fun x =>
      WL prog w c env A (backTo pos (starEach args env)) st₁ (fun vs st₂ => FnE (Fn prog w c.top n (fun xs => PySem.call (.ref f) xs) (.ref x :: vs)) st₂ Q)))
    (hf : findIn K (.ref C) name = some (some (.ref f)) := by rfl) (ht : typeIn K (.ref f) = some (.type "function") := by rfl) (hl : args.all plainArg = true := by rfl)
    (he : eval (.Call (.Attribute o name apos) args [] pos) env = (do
      let ov ← eval o env
      standAt apos.atName
      let (f, first) ← holding [ov] (getMethod ov name pl)
      callWith pos f first (backTo pos (starEach args env)) (backToKw pos (keywordEach [] env))) := by rfl) : W prog w c env A (.Call (.Attribute o name apos) args [] pos) st Q := fun s a => by
  refine methodCall_KW (pl := pl) (wpAny_mono (h s a) (fun ov s₁ p => ?_) fun _ _ e => e) he
  obtain ⟨st₁, a₁, F₁, v, rv, x, d, fa, z, rfl, hx, hd, hn, h₁⟩ := p
  cases rv
  obtain ⟨od, m, n', l, r, I, hl'⟩ := a₁.instAt hx hd
  have rn := r name
  rw [hn] at rn
  have hs : shadowIn (some od) name = some false := by
    show (lookIn name od).map (·.isSome) = some false
    rw [hl' name, show m name = Option.none from rn]; rfl
  refine method_fn (X.keeps a₁.top) I hC.ga hC.gt hf ht hs ?_
  refine callWith_any (plain_each hl) (wpAny_mono (h₁ s₁ a₁) (fun xs s₂ p => ?_) fun _ _ e => e)
  obtain ⟨st₂, a₂, F₂, vs, rvs, objs, rest, post, hp, hF, hq⟩ := p
  refine ⟨hk A s₂ a₂.top, ?_⟩
  have rr : Reps s₂.heap (c.adr st₂) (.ref x :: vs) (.ref x :: xs) := ⟨_, _, rfl, rfl, rvs⟩
  exact wpAny_mono (Wp.fn (R := Vp c Q) hF hA hp a₂ rr fun s' y u objs' a' r' po => ⟨u, r', hq u objs' po⟩) (fun _ _ p => Pst.from (F₁.trans F₂) p) fun _ _ e => e
/-- a def of the text's, called: it may change owned objects -/
theorem W.callF {f : Expr} {args : List Expr} {pos : Pos} {n : Nat} (hA : AOk n A)
    (h : W prog w c env A f st (fun vf st₁ => KpE prog w c.top vf fun g => WL prog w c env A (backTo pos (starEach args env)) st₁ (fun vs st₂ => FnE (Fn prog w c.top n (fun xs => PySem.call g xs) vs) st₂ Q)))
    (hl : args.all plainArg = true := by rfl)
    (he : eval (.Call f args [] pos) env = (do callWith pos (← eval f env) [] (backTo pos (starEach args env)) []) := by rfl) : W prog w c env A (.Call f args [] pos) st Q := fun s a => by
  rw [he]
  refine Wp.bind (Wp.mono (h s a) fun s₁ st₁ x a₁ ⟨vf, rf, g, e, hk, h₁⟩ => ?_)
  subst e
  cases rf
  refine callWith_any (plain_each hl) (wpAny_mono (h₁ s₁ a₁) (fun xs s₂ p => ?_) fun _ _ x => x)
  obtain ⟨st₂, a₂, F₂, vs, rvs, objs, rest, post, hp, hF, hq⟩ := p
  refine ⟨hk A s₂ a₂.top, ?_⟩
  exact wpAny_mono (Wp.fn (R := Vp c Q) hF hA hp a₂ rvs fun s' y u objs' a' r' po => ⟨u, r', hq u objs' po⟩) (fun _ _ p => Pst.from F₂ p) fun _ _ e => e
end
end Mine
end PtLg15
section PtLg16
open PySem PySem.W PyProof.Rows
namespace Mine
section
variable (prog : Program) (w : World)
/-- a storing -/
noncomputable def WF (c : Cx) (env : Env) (A : Around) (f : Value → Sem Unit) (v : V) (st : St) (Q : St → Prop) : Prop :=
  ∀ s val, At prog w c env st s → Rep s.heap (c.adr st) v val → Wp prog w c env A (f val) (fun _ st' _ => Q st') st s
noncomputable def WFs (c : Cx) (env : Env) (A : Around) (fs : List (Value → Sem Unit)) (vs : List V) (st : St) (Q : St → Prop) : Prop :=
  ∀ s vals, At prog w c env st s → Reps s.heap (c.adr st) vs vals → Wp prog w c env A (assignInOrder fs vals) (fun _ st' _ => Q st') st s
/-- a value with just these items, unpacked -/
noncomputable def Unp (top : Heap) (v : V) (vs : List V) : Prop :=
  ∀ (A : Around) (s : Shared) (own : List Addr) (x : Value), A.handled = Option.none → (∀ b o, top.get? b = some o → s.heap.get? b = some o) → Rep s.heap own v x →
    wpAny (model prog w) A (unpackItems x vs.length Option.none) (fun l s' => Quiet s s' ∧ Reps s'.heap own vs l) (fun _ _ => False) s
end
theorem Quiet.ext {s : Shared} {h' : Heap} (e : Heap.ExtBut s.heap.objs.size s.heap h') : Quiet s { s with heap := h' } := ⟨fun b o q => e b o (Nat.ne_of_lt (Heap.lt_size q)) q, rfl, rfl⟩
theorem Reps.reverse {h : Heap} {own : List Addr} : ∀ {vs : List V} {l : List Value}, Reps h own vs l → Reps h own vs.reverse l.reverse
  | [], l, r => by cases r; rfl
  | v :: vs, l, r => by
    obtain ⟨x, t, rfl, r1, r2⟩ := r
    rw [List.reverse_cons, List.reverse_cons]
    exact app r2.reverse ⟨x, [], rfl, r1, rfl⟩
where app {h : Heap} {own : List Addr} : ∀ {vs us : List V} {l k : List Value}, Reps h own vs l → Reps h own us k → Reps h own (vs ++ us) (l ++ k)
  | [], us, l, k, r, q => by cases r; exact q
  | v :: vs, us, l, k, r, q => by
    obtain ⟨x, t, rfl, r1, r2⟩ := r
    exact ⟨x, t ++ k, rfl, r1, app r2 q⟩
section
variable {prog : Program} {w : World} {c : Cx} {env : Env} {A : Around} {st st' : St} {s s' : Shared} {K : Frag} {C : Addr}
theorem Unp.tup {top : Heap} {vs : List V} : Unp prog w top (.tup vs) vs := fun A s own x hh _ r => by
  obtain ⟨a, items, rfl, n, t, rs⟩ := r
  rw [rs.length, Array.length_toList]
  exact unpackItems_tuple hh t fun h' e => ⟨Quiet.ext e, rs.quiet (Quiet.ext e)⟩
theorem WF.name {x : Str} {pos : Pos} {v : V} {Q : St → Prop} (h : Q (st.set x v)) (hk : env.scope.kind = .function := by rfl) (hl : env.kindOf x = some .local := by rfl) : WF prog w c env A (PySem.assign (.Name x pos) env) v st Q := fun s val a r =>
  assign_Name (Wp.store (R := fun _ st' _ => Q st') a r (fun _ _ => h) hk hl)
theorem WF.bind {x : Str} {v : V} {Q : St → Prop} (h : Q (st.set x v)) (hk : env.scope.kind = .function := by rfl) (hl : env.kindOf x = some .local := by rfl) : WF prog w c env A (fun z => bindName env x z) v st Q := fun s val a r =>
  bindName_ (Wp.store (R := fun _ st' _ => Q st') a r (fun _ _ => h) hk hl)
theorem WF.attr {o : Expr} {name : Str} {pos : Pos} {v : V} {Q : St → Prop} (X : K.In c.top) (hC : ClsOk K C)
    (h : W prog w c env A o st (fun vo st₂ => SaE C name v vo st₂.own fun own' => Q ⟨st₂.vars, own'⟩))
    (ht : takerIn K C name = some Option.none := by rfl) : WF prog w c env A (PySem.assign (.Attribute o name pos) env) v st Q := fun s val a r => by
  rw [assign_Attribute]
  refine wpAny_bind (wpAny_holding (wpAny_mono (h s a) (fun ov s₂ p => ?_) fun _ _ e => e))
  obtain ⟨st₂, a₂, F₂, vo, ro, x, d, f, n, n', own', rfl, hx, hu, hn, hz, q⟩ := p
  cases ro
  refine wpAny_bind (wpAny_standAt (wpAny_bind (wpAny_holding ?_)))
  exact wpAny_mono (Wp.setAttr (R := fun s' st' _ => Q st') X hC ht a₂ hx hu hn hz (a.rep F₂ r) fun s' a' => q) (fun _ _ ⟨st₃, a₃, F₃, q⟩ => wpAny_release ⟨st₃, a₃, F₂.trans F₃, q⟩) fun _ _ e => e
theorem WFs.nil {Q : St → Prop} {fs : List (Value → Sem Unit)} (h : Q st) : WFs prog w c env A fs [] st Q := fun s vals a r => by
  cases r
  cases fs <;> exact Wp.pure a h
theorem WFs.cons {Q : St → Prop} {f : Value → Sem Unit} {fs : List (Value → Sem Unit)} {v : V} {vs : List V} (h : WF prog w c env A f v st (fun st₁ => WFs prog w c env A fs vs st₁ Q)) : WFs prog w c env A (f :: fs) (v :: vs) st Q := fun s vals a r => by
  obtain ⟨x, t, rfl, r1, r2⟩ := r
  refine wpAny_bind (wpAny_holding (wpAny_mono (h s x a r1) (fun _ s₁ ⟨st₁, a₁, F, q⟩ => ?_) fun _ _ e => e))
  exact wpAny_mono (q s₁ t a₁ (a.reps F r2)) (fun _ _ p => Pst.from F p) fun _ _ e => e
theorem WF.tup {elts : List Expr} {k} {pos : Pos} {v : V} {vs : List V} {n : Nat} {Q : St → Prop} (hA : AOk n A) (hu : Unp prog w c.top v vs) (h : WFs prog w c env A ((assignEach elts env).map (·.2)) vs st Q)
    (hn : (assignEach elts env).length = vs.length := by rfl) (hs : (assignEach elts env).findIdx? (·.1) = Option.none := by rfl) : WF prog w c env A (PySem.assign (.Tuple elts k pos) env) v st Q := fun s val a r => by
  rw [assign_Tuple]
  refine wpAny_bind (wpAny_standAt ?_)
  unfold unpack
  rw [hn, hs]
  refine wpAny_bind (wpAny_holding (wpAny_mono (hu A s _ val hA.handled a.top r) (fun l s₁ ⟨q, rs⟩ => ?_) fun _ _ e => e))
  exact wpAny_mono (h s₁ l (a.quiet q) rs) (fun _ _ p => Pst.from (Fol.quiet q _ _) p) fun _ _ e => e
theorem WX.expr {e : Expr} {pos : Pos} {Q : Fl → St → Prop} (h : W prog w c env A e st (fun _ st₁ => Q .next st₁)) (hi : interactive env = false := by rfl) (hs : swapsWith e Option.none pos.line env = pure false := by rfl) : WX prog w c env A (.Expr e pos) st Q := fun s a =>
  wpAny_Expr_any (wpAny_mono (h s a) (fun x s₁ ⟨st₁, a₁, F, v, r, q⟩ => ⟨st₁, a₁, F, .next, rfl, q⟩) fun _ _ e => e) hi hs
theorem WX.unpack {elts : List Expr} {k} {tpos pos : Pos} {e : Expr} {Q : Fl → St → Prop} (h : W prog w c env A e st (fun v st₁ => WF prog w c env A (PySem.assign (.Tuple elts k tpos) env) v st₁ (fun st₂ => Q .next st₂)))
    (hs : swapsWithSole [.Tuple elts k tpos] e pos.line env = pure false := by rfl) (hw : swappedStores [.Tuple elts k tpos] e env = pure Option.none := by rfl) : WX prog w c env A (.Assign [.Tuple elts k tpos] e pos) st Q := fun s a =>
  Assign_Tuple (wpAny_mono (h s a) (fun x s₁ ⟨st₁, a₁, F, v, r, q⟩ => wpAny_mono (q s₁ x a₁ r) (fun _ _ ⟨st₂, a₂, F₂, q₂⟩ => ⟨st₂, a₂, F.trans F₂, .next, rfl, q₂⟩) fun _ _ e => e) fun _ _ e => e) hs hw
theorem WX.swapped {elts : List Expr} {k} {tpos pos : Pos} {e : Expr} {n : Nat} {Q : Fl → St → Prop} (names : List Str) (hA : AOk n A)
    (h : W prog w c env A e st (fun v st₁ => UnE (Unp prog w c.top v) names.length fun vs => WFs prog w c env A (names.reverse.map fun n => bindName env n) vs.reverse st₁ (fun st₂ => Q .next st₂)))
    (hs : swapsWithSole [.Tuple elts k tpos] e pos.line env = pure false := by rfl) (hw : swappedStores [.Tuple elts k tpos] e env = pure (some names) := by rfl) : WX prog w c env A (.Assign [.Tuple elts k tpos] e pos) st Q := fun s a => by
  refine Assign_Tuple_swapped (names := names) (wpAny_mono (h s a) (fun x s₁ p => ?_) fun _ _ e => e) hs hw
  obtain ⟨st₁, a₁, F, v, r, vs, hu, hl, q⟩ := p
  rw [← hl]
  refine wpAny_mono (hu A s₁ _ x hA.handled a₁.top r) (fun l s₂ ⟨qu, rs⟩ => ?_) fun _ _ e => e
  exact wpAny_mono (q s₂ _ (a₁.quiet qu) rs.reverse) (fun _ _ ⟨st₂, a₂, F₂, q₂⟩ => ⟨st₂, a₂, (F.trans (Fol.quiet qu _ _)).trans F₂, .next, rfl, q₂⟩) fun _ _ e => e
theorem WX.assign2 {t₁ t₂ e : Expr} {pos : Pos} {Q : Fl → St → Prop} (h : W prog w c env A e st (fun v st₁ => WF prog w c env A (PySem.assign t₁ env) v st₁ (fun st₂ => WF prog w c env A (PySem.assign t₂ env) v st₂ (fun st₃ => Q .next st₃))))
    (he : (assignEach [t₁, t₂] env).map (·.2) = [PySem.assign t₁ env, PySem.assign t₂ env] := by rfl) (hw : swappedStores [t₁, t₂] e env = pure Option.none := by rfl) : WX prog w c env A (.Assign [t₁, t₂] e pos) st Q := fun s a => by
  refine wpAny_Assign_two (wpAny_mono (h s a) (fun x s₁ p => ?_) fun _ _ e => e) he hw
  obtain ⟨st₁, a₁, F, v, r, q⟩ := p
  refine wpAny_mono (q s₁ x a₁ r) (fun _ s₂ ⟨st₂, a₂, F₂, q₂⟩ => ?_) fun _ _ e => e
  exact wpAny_mono (q₂ s₂ x a₂ (a₁.rep F₂ r)) (fun _ _ ⟨st₃, a₃, F₃, q₃⟩ => ⟨st₃, a₃, (F.trans F₂).trans F₃, .next, rfl, q₃⟩) fun _ _ e => e
theorem WX.assign3 {t₁ t₂ t₃ e : Expr} {pos : Pos} {Q : Fl → St → Prop} (h : W prog w c env A e st (fun v st₁ => WF prog w c env A (PySem.assign t₁ env) v st₁ (fun st₂ => WF prog w c env A (PySem.assign t₂ env) v st₂ (fun st₃ => WF prog w c env A (PySem.assign t₃ env) v st₃ (fun st₄ => Q .next st₄)))))
    (he : (assignEach [t₁, t₂, t₃] env).map (·.2) = [PySem.assign t₁ env, PySem.assign t₂ env, PySem.assign t₃ env] := by rfl) (hw : swappedStores [t₁, t₂, t₃] e env = pure Option.none := by rfl) : WX prog w c env A (.Assign [t₁, t₂, t₃] e pos) st Q := fun s a => by
  refine wpAny_Assign_three (wpAny_mono (h s a) (fun x s₁ p => ?_) fun _ _ e => e) he hw
  obtain ⟨st₁, a₁, F, v, r, q⟩ := p
  refine wpAny_mono (q s₁ x a₁ r) (fun _ s₂ ⟨st₂, a₂, F₂, q₂⟩ => ?_) fun _ _ e => e
  refine wpAny_mono (q₂ s₂ x a₂ (a₁.rep F₂ r)) (fun _ s₃ ⟨st₃, a₃, F₃, q₃⟩ => ?_) fun _ _ e => e
  exact wpAny_mono (q₃ s₃ x a₃ (a₂.rep F₃ (a₁.rep F₂ r))) (fun _ _ ⟨st₄, a₄, F₄, q₄⟩ => ⟨st₄, a₄, ((F.trans F₂).trans F₃).trans F₄, .next, rfl, q₄⟩) fun _ _ e => e
end
end Mine
end PtLg16
section PtLg17
open PySem PySem.W PyProof.Rows
namespace Mine
section
variable {prog : Program} {w : World} {A : Around} {E : Value → Shared → Prop} {s : Shared} {κ : Type} [DecidableEq κ] {knd : KeyKind prog w κ} {d : Addr} {f : κ → Option Value} {k : κ} {key v : Value} {n : Nat}
/-- a dict's place set, with the number of its places told -/
theorem dictSet_sz {Q : Unit → Shared → Prop} (hkey : knd.is k key = true) (hm : s.heap.MapOf knd d f) (hn : s.heap.DictLe d n) (hz : n ≤ sizeLine)
    (hQ : ∀ h', h'.MapOf knd d (fun x => if x = k then some v else f x) → Heap.SameBut d s.heap h' → h'.DictLe d (n + 1) → Q () { s with heap := h', toks := s.toks + 1 }) : wpAny (model prog w) A (dictSet d key v) Q E s := by
  obtain ⟨o, es, ep, ho, hc, hd, hk, hf⟩ := id hm
  have hes := hn o es ep ho hd
  unfold dictSet dictSetHashed
  refine wpAny_holding (wpAny_bind (knd.pyHash hkey (wpAny_holding (wpAny_bind (wpAny_dictFind_of (s := { s with toks := s.toks + 1 }) hkey ho hd hk ?_)))))
  cases hi : es.findIdx? fun e => knd.is k e.key with
  | some i =>
    have g : ∀ F : Array DictEntry → Array DictEntry, (s.heap.update d (Obj.mapDict F)).get? d = some (o.mapDict F) := fun F => Heap.get?_update_self _ ho (Obj.isFreed_of_dict (Obj.data_mapDict hd _))
    refine wpAny_bind (wpAny_rule (wpAny_bind (wpAny_updateDict (s := { s with toks := s.toks + 1 }) ho hd (wpAny_point (hQ _ ⟨_, _, ep, g _, hc.mapDict _, Obj.data_mapDict hd _, hk.modify _ _, fun x => ?_⟩ (Heap.SameBut.update ..) fun o' es' ep' e' d' => ?_)))))
    · rw [findBy_modify knd.is knd.inj es k x v i hi, hf]
    · rw [g] at e'; cases e'; rw [Obj.data_mapDict hd] at d'; cases d'
      rw [Array.size_modify]; (first | lia | omega)
  | none =>
    have g : ∀ F : Array DictEntry → Array DictEntry, (s.heap.update d (Obj.mapDictKeys F)).get? d = some (o.mapDictKeys F) := fun F => Heap.get?_update_self _ ho (Obj.isFreed_of_dict (Obj.data_mapDictKeys hd _))
    refine wpAny_bind (wpAny_rule (wpAny_updateDictKeys (hz := by (first | lia | omega)) (s := { s with toks := s.toks + 1 }) ho hd (hQ _ ⟨_, _, ep + 1, g _, hc.mapDictKeys _, Obj.data_mapDictKeys hd _, hk.push hkey _, fun x => ?_⟩ (Heap.SameBut.update ..) fun o' es' ep' e' d' => ?_)))
    · rw [findBy_push knd.is es k x _ _ v (KeyKind.is_eq_decide hkey) hi, hf]
    · rw [g] at e'; cases e'; rw [Obj.data_mapDictKeys hd] at d'; cases d'
      rw [Array.size_push]; (first | lia | omega)
theorem dictSetDefault_sz {Q : Value → Shared → Prop} (hkey : knd.is k key = true) (hm : s.heap.MapOf knd d f) (hn : s.heap.DictLe d n) (hz : n ≤ sizeLine)
    (h1 : ∀ u, f k = some u → Q u { s with toks := s.toks + 1 })
    (h2 : f k = none → ∀ h', h'.MapOf knd d (fun x => if x = k then some v else f x) → Heap.SameBut d s.heap h' → h'.DictLe d (n + 1) → Q v { s with heap := h', toks := s.toks + 1 }) : wpAny (model prog w) A (dictSetDefault d key v) Q E s := by
  obtain ⟨o, es, ep, ho, hc, hd, hk, hf⟩ := id hm
  have hes := hn o es ep ho hd
  unfold dictSetDefault
  refine wpAny_holding (wpAny_bind (knd.pyHash hkey (wpAny_bind (wpAny_dictFind_of (s := { s with toks := s.toks + 1 }) hkey ho hd hk ?_))))
  cases hi : es.findIdx? fun e => knd.is k e.key with
  | some i =>
    have hfk : f k = (es[i]?).map (·.val) := by rw [← hf k, findBy_of_findIdx?, hi]
    have hlt : i < es.size := (Array.findIdx?_eq_some_iff_findIdx_eq.mp hi).1
    refine wpAny_bind (wpAny_dictEntries (s := { s with toks := s.toks + 1 }) ho hd ?_)
    rw [Array.getElem?_eq_getElem hlt] at hfk ⊢
    exact wpAny_bind (wpAny_rule (wpAny_pure (h1 _ hfk)))
  | none =>
    have hfk : f k = none := by rw [← hf k, findBy_of_findIdx?, hi]
    have g : ∀ F : Array DictEntry → Array DictEntry, (s.heap.update d (Obj.mapDictKeys F)).get? d = some (o.mapDictKeys F) := fun F => Heap.get?_update_self _ ho (Obj.isFreed_of_dict (Obj.data_mapDictKeys hd _))
    refine wpAny_bind (wpAny_rule (wpAny_bind (wpAny_updateDictKeys (hz := by (first | lia | omega)) (s := { s with toks := s.toks + 1 }) ho hd (wpAny_pure (h2 hfk _ ⟨_, _, ep + 1, g _, hc.mapDictKeys _, Obj.data_mapDictKeys hd _, hk.push hkey _, fun x => ?_⟩ (Heap.SameBut.update ..) fun o' es' ep' e' d' => ?_)))))
    · rw [findBy_push knd.is es k x _ _ v (KeyKind.is_eq_decide hkey) hi, hf]
    · rw [g] at e'; cases e'; rw [Obj.data_mapDictKeys hd] at d'; cases d'
      rw [Array.size_push]; (first | lia | omega)
end
/-- a map with one place turned -/
noncomputable def mset (f : Int → Option V) (k : Int) (v : V) : Int → Option V := fun x => if x = k then some v else f x
section
variable {prog : Program} {w : World} {c : Cx} {env : Env} {A : Around} {st st' : St} {s s' : Shared} {Q : V → St → Prop}
/-- an owned dict that stands as the heap's map says, changed -/
theorem At.mapSet (a : At prog w c env st s) {d : Addr} {f : Int → Option V} {n : Nat} {k : Int} {v : V} {val : Value} {own' : List (Addr × O)} {g : Int → Option Value} {h' : Heap} {t : Nat} (hu : Upd d (.map f n) (.map (mset f k v) (n + 1)) st.own own')
    (rg : ∀ i, OptRep s.heap (c.adr st) (f i) (g i)) (r : Rep s.heap (c.adr st) v val) (hm : h'.MapOf (intKind prog w) d (fun x => if x = k then some val else g x)) (hs : Heap.SameBut d s.heap h') (hl : h'.DictLe d (n + 1)) :
    At prog w c env ⟨st.vars, own'⟩ { s with heap := h', toks := t } ∧ Fol env.locals (c.adr st) s.heap (c.adr ⟨st.vars, own'⟩) h' := by
  have hxd : d ∈ c.adr st := List.mem_append_left _ (List.mem_map_of_mem (f := (·.1)) hu.mem)
  have S : Seqs (c.adr st) s.heap (c.adr st) h' := fun b ob eb nb _ => ⟨(hs.2 b fun q => nb (q ▸ hxd)).trans eb, nb⟩
  refine a.upd hu hs ⟨_, hm, hl, fun i => ?_⟩
  by_cases q : i = k
  · simp only [mset, if_pos q]; exact ⟨val, rfl, Rep.seqs S _ _ r⟩
  · simp only [mset, if_neg q]; exact (rg i).seqs S
/-- {} -/
theorem W.dict0 {pos : Pos} (hl : c.top.NoLimit) (h : ∀ a, a ∉ adrs st.own → (a == sysModules) = false → Q (.ref a) ⟨st.vars, (a, .map (fun _ => Option.none) 0) :: st.own⟩) : W prog w c env A (.Dict [] [] pos) st Q := fun s a => by
  refine wpAny_Dict_empty ?_
  obtain ⟨a', F, ne⟩ := a.alloc (o := { cls := .type "dict", data := .dict #[] }) (ob := .map (fun _ => Option.none) 0) (t := s.toks) rfl fun own => ⟨_, Heap.MapOf.new _, fun o es ep e d => by
    rw [Heap.get?_push_size _ rfl] at e; cases e; cases d; exact Nat.le_refl _, fun _ => rfl⟩
  refine ⟨_, a', F, .ref _, rfl, h _ (fun q => ne (List.mem_append_left _ q)) (beq_eq_false_iff_ne.mpr fun q => ?_)⟩
  have h1 : sysModules < s.heap.objs.size := Nat.lt_of_lt_of_le (modules_low hl) (Nat.le_trans a.low (Nat.le_of_lt a.size))
  exact absurd h1 (q ▸ Nat.lt_irrefl _)
end
end Mine
end PtLg17
section PtLg18
open PySem PySem.W PyProof.Rows
namespace Mine
section
variable (prog : Program) (w : World)
/-- a call with values at hand -/
noncomputable def WC (c : Cx) (env : Env) (A : Around) (g : Value) (vs : List V) (st : St) (Q : V → St → Prop) : Prop :=
  ∀ s xs, At prog w c env st s → Reps s.heap (c.adr st) vs xs → Wp prog w c env A (PySem.call g xs) (Vp c Q) st s
/-- the method that a builtin type has for a value -/
noncomputable def Mth (c : Cx) (env : Env) (st : St) (v : V) (name : Str) (id : String) : Prop :=
  ∀ (A : Around) s val (pl : Sem Bool), At prog w c env st s → Rep s.heap (c.adr st) v val → wpAny (model prog w) A (getMethod val name pl) (fun fx s' => fx = (.builtin id, [val]) ∧ s' = s) (fun _ _ => False) s
end
section
variable {prog : Program} {w : World} {c : Cx} {env : Env} {A : Around} {st st' : St} {s s' : Shared} {Q : V → St → Prop}
/-- a builtin type's method, called -/
theorem W.bmeth {o : Expr} {name : Str} {apos pos : Pos} {args : List Expr} {pl : Sem Bool}
    (h : W prog w c env A o st (fun v st₁ => ∃ id, Mth prog w c env st₁ v name id ∧ WL prog w c env A (backTo pos (starEach args env)) st₁ (fun vs st₂ => WC prog w c env A (.builtin id) (v :: vs) st₂ Q)))
    (hl : args.all plainArg = true := by rfl)
    (he : eval (.Call (.Attribute o name apos) args [] pos) env = (do
      let ov ← eval o env
      standAt apos.atName
      let (f, first) ← holding [ov] (getMethod ov name pl)
      callWith pos f first (backTo pos (starEach args env)) (backToKw pos (keywordEach [] env))) := by rfl) : W prog w c env A (.Call (.Attribute o name apos) args [] pos) st Q := fun s a => by
  refine methodCall_KW (pl := pl) (wpAny_mono (h s a) (fun ov s₁ p => ?_) fun _ _ e => e) he
  obtain ⟨st₁, a₁, F₁, v, rv, id, hm, h₁⟩ := p
  refine wpAny_mono (hm A s₁ ov pl a₁ rv) (fun fx s' p => ?_) fun _ _ e => e
  obtain ⟨rfl, rfl⟩ := p
  refine callWith_any (plain_each hl) (wpAny_mono (h₁ _ a₁) (fun xs s₂ p => ?_) fun _ _ e => e)
  obtain ⟨st₂, a₂, F₂, vs, rvs, hc⟩ := p
  refine ⟨Kpt.builtin (top := c.top) A s₂ a₂.top, ?_⟩
  exact wpAny_mono (hc s₂ (ov :: xs) a₂ ⟨_, _, rfl, a₁.rep F₂ rv, rvs⟩) (fun _ _ p => Pst.from (F₁.trans F₂) p) fun _ _ e => e
theorem Mth.list {a : Addr} {vs : List V} {name : Str} {id : String} (slot : Slot "list" name id) (hty : typeOf (.builtin id) = pure (.type "method_descriptor")) (hm : (a, .list vs) ∈ st.own) : Mth prog w c env st (.ref a) name id := fun A s val pl at' r => by
  cases r
  obtain ⟨items, ⟨n, e⟩, _⟩ := at'.own _ hm
  exact getMethod_builtin ⟨_, e, rfl⟩ PySem.F.plainAttrs_list slot hty (fun b q => by cases q; exact ⟨_, e, rfl⟩) ⟨rfl, rfl⟩
theorem Mth.map {a : Addr} {f : Int → Option V} {n : Nat} {name : Str} {id : String} (slot : Slot "dict" name id) (hty : typeOf (.builtin id) = pure (.type "method_descriptor")) (hm : (a, .map f n) ∈ st.own) : Mth prog w c env st (.ref a) name id := fun A s val pl at' r => by
  cases r
  obtain ⟨g, m, l, _⟩ := at'.own _ hm
  exact getMethod_builtin m.typeIs PySem.F.plainAttrs_dict slot hty m.noDict ⟨rfl, rfl⟩
/-- a list of the call's own, made -/
theorem W.listO {elts : List Expr} {pos : Pos} (h : WL prog w c env A (backTo pos (starEach elts env)) st (fun vs st₁ => vs.length ≤ sizeLine ∧ ∀ a, a ∉ adrs st₁.own → Q (.ref a) ⟨st₁.vars, (a, .list vs) :: st₁.own⟩)) : W prog w c env A (.List elts pos) st Q := fun s a => by
  refine List_ (wpAny_mono (h s a) (fun xs s₁ ⟨st₁, a₁, F₁, vs, rs, hz, q⟩ => ?_) fun _ _ e => e)
  have S : ∀ own, (∀ b o, s₁.heap.get? b = some o → b ∉ c.adr st₁ → b ∉ own) → Seqs (c.adr st₁) s₁.heap own (s₁.heap.push { cls := .type "list", data := .seq xs.toArray }) := fun own ho b o e nb _ => ⟨Heap.get?_push_of_some _ e, ho b o e nb⟩
  refine wpAny_newList ?_ (by rw [← rs.length]; exact hz)
  obtain ⟨a', F, ne⟩ := At.allocR a₁ (o := { cls := .type "list", data := .seq xs.toArray }) (ob := .list vs) (t := s₁.toks) rfl ⟨xs.toArray, ⟨_, Heap.get?_push_size _ rfl⟩, by
    simpa using Reps.seqs (S _ fun b o e nb q => by
      rcases List.mem_cons.mp q with q | q
      · exact absurd (Heap.lt_size e) (q ▸ Nat.lt_irrefl _)
      · exact nb q) _ _ rs⟩
  exact ⟨_, a', F₁.trans F, .ref _, rfl, q _ fun q => ne (List.mem_append_left _ q)⟩
/-- append to an owned list -/
theorem WC.append {a : Addr} {vs : List V} {v : V} {own' : List (Addr × O)} (hu : Upd a (.list vs) (.list (vs ++ [v])) st.own own') (hz : vs.length ≤ sizeLine) (h : Q .none ⟨st.vars, own'⟩) : WC prog w c env A (.builtin "list.append") [.ref a, v] st Q := fun s xs at' r => by
  obtain ⟨x, r', rfl, rx, y, r'', rfl, ry, rfl⟩ := r
  cases rx
  obtain ⟨items, p, rs⟩ := at'.own _ hu.mem
  refine wpAny_list_append_plain p (fun h' p' k => ?_) (by rw [← Array.length_toList, ← rs.length]; exact hz)
  have hxd : a ∈ c.adr st := List.mem_append_left _ (List.mem_map_of_mem (f := (·.1)) hu.mem)
  have S : Seqs (c.adr st) s.heap (c.adr st) h' := fun b ob eb nb _ => ⟨(k.2 b fun q => nb (q ▸ hxd)).trans eb, nb⟩
  obtain ⟨a', F⟩ := at'.upd hu (t := s.toks) k ⟨_, p', by
    rw [Array.toList_push]
    exact Reps.reverse.app (Reps.seqs S _ _ rs) (Reps.one (Rep.seqs S _ _ ry))⟩
  exact ⟨_, a', F, .none, rfl, h⟩
end
end Mine
end PtLg18
section PtLg19
open PySem PySem.W PyProof.Rows
namespace Mine
section
variable {prog : Program} {w : World} {c : Cx} {env : Env} {A : Around} {st st' : St} {s s' : Shared} {Q : V → St → Prop}
theorem intKey (prog : Program) (w : World) (k : Int) (t : Tok) : (intKind prog w).is k (.int k t) = true := by simp [intKind, Value.isInt]
theorem WC.get {d : Addr} {f : Int → Option V} {n : Nat} {k : Int} {v₀ : V} (hm : (d, .map f n) ∈ st.own) (hd : (d == sysModules) = false) (h : Q ((f k).getD v₀) st) : WC prog w c env A (.builtin "dict.get") [.ref d, .int k, v₀] st Q := fun s xs a r => by
  obtain ⟨x, r', rfl, rx, y, r'', rfl, ⟨t, rfl⟩, z, r''', rfl, rz, rfl⟩ := r
  cases rx
  obtain ⟨g, m, l, rg⟩ := a.own _ hm
  refine call_meetsIn F.slot_dict_get m.typeIs F.entry_dict_get (F.args_dict_get_3 _ _ _) (meets_dict_get_default (intKind prog w) d (intKey prog w k t) hd z) ⟨g, m, ?_⟩
  have rk := rg k
  refine ⟨st, a.quiet (Quiet.toks _ _), Fol.quiet (Quiet.toks _ _) _ _, (f k).getD v₀, ?_, h⟩
  cases e : f k with
  | none => rw [e] at rk; rw [show g k = Option.none from rk]; exact rz
  | some u => rw [e] at rk; obtain ⟨val, e', ru⟩ := rk; rw [e']; exact ru
theorem WC.setdefault {d : Addr} {f : Int → Option V} {n : Nat} {k : Int} {v : V} {own' : List (Addr × O)} (hu : Upd d (.map f n) (.map (mset f k v) (n + 1)) st.own own') (hd : (d == sysModules) = false) (hz : n ≤ sizeLine)
    (h1 : ∀ u, f k = some u → Q u st) (h2 : f k = Option.none → Q v ⟨st.vars, own'⟩) : WC prog w c env A (.builtin "dict.setdefault") [.ref d, .int k, v] st Q := fun s xs a r => by
  obtain ⟨x, r', rfl, rx, y, r'', rfl, ⟨t, rfl⟩, z, r''', rfl, rz, rfl⟩ := r
  cases rx
  obtain ⟨g, m, l, rg⟩ := a.own _ hu.mem
  refine wpAny_call_entry F.slot_dict_setdefault m.typeIs F.entry_dict_setdefault ?_ (F.args_dict_setdefault_3 _ _ _)
  unfold Builtin.«dict.setdefault»
  refine wpAny_bind ?_
  unfold Builtin.Dict.keyAndDefault
  refine wpAny_bind (wpAny_notOrdered_dict m.typeIs ?_)
  show wpAny _ _ (pure (d, Value.int k t, some z)) _ _ s
  refine wpAny_pure ?_
  show wpAny _ _ (if (d == sysModules) = true then _ else (dictSetDefault d (.int k t) z >>= _)) _ _ s
  rw [if_neg (by rw [hd]; exact Bool.false_ne_true)]
  have rk := rg k
  refine wpAny_bind (dictSetDefault_sz (intKey prog w k t) m l hz (fun u e => wpAny_pure ⟨u, rfl, ?_⟩) fun e h' m' k' l' => wpAny_pure ⟨z, rfl, ?_⟩)
  · cases ef : f k with
    | none => rw [ef] at rk; rw [show g k = Option.none from rk] at e; cases e
    | some v' =>
      rw [ef] at rk; obtain ⟨val, e', ru⟩ := rk
      rw [e'] at e; cases e
      exact ⟨st, a.quiet (Quiet.toks _ _), Fol.quiet (Quiet.toks _ _) _ _, v', ru, h1 _ ef⟩
  · cases ef : f k with
    | some v' => rw [ef] at rk; obtain ⟨val, e', ru⟩ := rk; rw [e'] at e; cases e
    | none =>
      obtain ⟨a', F⟩ := a.mapSet hu (t := s.toks + 1) rg rz m' k' l'
      exact ⟨_, a', F, v, a.rep F rz, h2 ef⟩
theorem setItem_sz {E : Value → Shared → Prop} {d : Addr} {f : Int → Option Value} {k : Int} {key v : Value} {n : Nat} {Q : Unit → Shared → Prop} (hkey : (intKind prog w).is k key = true) (hm : s.heap.MapOf (intKind prog w) d f) (hn : s.heap.DictLe d n) (hz : n ≤ sizeLine)
    (hQ : ∀ h', h'.MapOf (intKind prog w) d (fun x => if x = k then some v else f x) → Heap.SameBut d s.heap h' → h'.DictLe d (n + 1) → Q () { s with heap := h', toks := s.toks + 1 }) : wpAny (model prog w) A (setItem (.ref d) key v) Q E s := by
  unfold setItem
  try with_reducible refine wpAny_holding ?_
  refine wpAny_bind (wpAny_sequenceKey hm.typeIs (by decide) ?_)
  refine wpAny_bind (wpAny_callSpecial?_slot (name := Str.ofString "__setitem__") hm.typeIs slot_dict_setitem (wpAny_call_entry slot_dict_setitem hm.typeIs entry_dict_setitem ?_ (args_dict_setitem _ _ _)))
  show wpAny _ _ (Builtin.Dict.notOrdered "__setitem__" ⟨[.ref d, key, v], []⟩ >>= _) _ _ s
  refine wpAny_bind (wpAny_notOrdered_dict hm.typeIs ?_)
  show wpAny _ _ (dictSet d key v >>= _) _ _ s
  exact wpAny_bind (dictSet_sz hkey hm hn hz fun h' hm' hs' hl' => wpAny_pure ⟨.none, rfl, wpAny_pure (hQ h' hm' hs' hl')⟩)
/-- a place of an owned dict, set -/
theorem WF.item {o i : Expr} {pos : Pos} {v : V} {Q : St → Prop}
    (h : W prog w c env A o st (fun vo st₁ => W prog w c env A i st₁ (fun vi st₂ => ∃ d f n k own', vo = .ref d ∧ vi = .int k ∧ Upd d (.map f n) (.map (mset f k v) (n + 1)) st₂.own own' ∧ n ≤ sizeLine ∧ Q ⟨st₂.vars, own'⟩))) :
    WF prog w c env A (PySem.assign (.Subscript o i pos) env) v st Q := fun s val a r => by
  rw [assign_Subscript]
  refine wpAny_bind (wpAny_holding (wpAny_mono (h s a) (fun ov s₁ p => ?_) fun _ _ e => e))
  obtain ⟨st₁, a₁, F₁, vo, ro, h₁⟩ := p
  refine wpAny_bind (wpAny_holding (wpAny_mono (h₁ s₁ a₁) (fun iv s₂ p => ?_) fun _ _ e => e))
  obtain ⟨st₂, a₂, F₂, vi, ri, d, f, n, k, own', rfl, rfl, hu, hz, q⟩ := p
  cases ro
  obtain ⟨t, rfl⟩ := ri
  refine wpAny_bind (wpAny_standAt (wpAny_bind (wpAny_holding ?_)))
  obtain ⟨g, m, l, rg⟩ := a₂.own _ hu.mem
  refine setItem_sz (intKey prog w k t) m l hz fun h' m' k' l' => wpAny_release ?_
  obtain ⟨a', F⟩ := a₂.mapSet hu (t := s₂.toks + 1) rg (a₁.rep F₂ (a.rep F₁ r)) m' k' l'
  exact ⟨_, a', (F₁.trans F₂).trans F, q⟩
end
end Mine
end PtLg19
section PtLg20
open PySem PySem.W PyProof.Rows Builtin Builtin.ObjectAttr
namespace Mine
theorem md_get : typeLookup (.type "method_descriptor") "__get__" = pure (some (.builtin "method_descriptor.__get__")) := by rw [typeLookup_type, builtinLookup_eq_fast]; kernel_rfl
theorem md_sp {id : String} (h : typeOf (.builtin id) = pure (.type "method_descriptor")) : specialOf (.builtin id) "__get__" = pure (some (.builtin "method_descriptor.__get__")) := by
  unfold specialOf; rw [h]; exact md_get
theorem md_set : typeLookup (.type "method_descriptor") "__set__" = pure none := by rw [typeLookup_type, builtinLookup_eq_fast]; kernel_rfl
theorem md_del : typeLookup (.type "method_descriptor") "__delete__" = pure none := by rw [typeLookup_type, builtinLookup_eq_fast]; kernel_rfl
theorem md_takes {id : String} (h : typeOf (.builtin id) = pure (.type "method_descriptor")) : takesStores (.builtin id) = pure false := by
  have h1 : specialOf (.builtin id) "__set__" = pure none := by unfold specialOf; rw [h]; exact md_set
  have h2 : specialOf (.builtin id) "__delete__" = pure none := by unfold specialOf; rw [h]; exact md_del
  unfold takesStores
  rw [h1, h2]; rfl
theorem find_bm {M : Model} {A : Around} {E : Value → Shared → Prop} {s : Shared} {a : Addr} {o : Obj} {T : String} {name : Str} {id : String} {Q : Found → Shared → Prop} (hx : s.heap.get? a = some o) (hT : o.cls = .type T) (ho : o.dict = none) (hc : ∀ c, o.data ≠ .cls c)
    (hl : typeLookup (.type T) name = pure (some (.builtin id))) (ht : typeOf (.builtin id) = pure (.type "method_descriptor")) (hn : (["__module__", "__name__", "__qualname__", "__doc__", "__annotations__"] : List Str).contains name = false)
    (h : Q (.bind (.builtin "method_descriptor.__get__") (.builtin id)) s) : wpAny M A (find (.ref a) (.type T) name) Q E s := by
  unfold find
  refine wpAny_bind (wpAny_of_eq hl ?_)
  refine wpAny_bind (wpAny_of_eq (t := getOf _) (md_sp ht) ?_)
  refine wpAny_bind (wpAny_of_eq (a := none) (by show (takesStores (.builtin id) >>= _) = _; rw [md_takes ht]; rfl) ?_)
  show wpAny M A (ownThenClass _ _ _ _) Q E s
  unfold ownThenClass
  refine wpAny_bind ?_
  show wpAny M A (ownDict a >>= _) _ E s
  unfold ObjectAttr.ownDict
  refine wpAny_bind (wpAny_bind (wpAny_loadPart hx ?_))
  have hid : wpAny M A (instanceDict a false) (fun r s' => r = none ∧ s' = s) E s := by
    unfold instanceDict
    refine wpAny_bind (wpAny_loadPart hx ?_)
    rw [hT]
    dsimp only
    rw [ho]
    exact wpAny_pure ⟨rfl, rfl⟩
  have go : wpAny M A (instanceDict a false) (fun r s₁ => wpAny M A (inDict name r) (fun v s₂ => wpAny M A (match v with
      | some v => do rule "getattr.instance-dict"; pure (.value v)
      | none => do copiedAttributeGuard name (.ref a); byTheClass (some (.builtin id)) (some (.builtin "method_descriptor.__get__"))) Q E s₂) E s₁) E s := by
    refine wpAny_mono hid (fun r s₁ p => ?_) fun _ _ e => e
    obtain ⟨rfl, rfl⟩ := p
    refine wpAny_pure ?_
    dsimp only
    refine wpAny_bind ?_
    unfold copiedAttributeGuard
    dsimp only
    rw [hn]
    exact wpAny_pure (wpAny_bind (wpAny_rule (wpAny_pure h)))
  split
  · rename_i c e; exact absurd e (hc c)
  · exact go
theorem isin_dict : isSubtype (.type "dict") (.type "dict") = pure true := by rw [isSubtype_type]; kernel_rfl
theorem mdg {prog : Program} {w : World} {A : Around} {E : Value → Shared → Prop} {s : Shared} {a : Addr} {Q : Fin → Shared → Prop} (hT : s.TypeIs (.ref a) "dict")
   (h : Q (.done (.ret (.ref s.heap.objs.size))) { s with heap := s.heap.push { cls := .type "builtin_function_or_method", data := .fields #[.builtin "dict.get", .ref a] } }) :
    wpAny (model prog w) A (Builtin.«method_descriptor.__get__» ⟨[.builtin "dict.get", .ref a, .type "dict"], []⟩) Q E s := by
  have f1 := isin_dict
  have f2 : Manifest.toldItsClass.contains "dict.get" = false := by decide +kernel
  unfold Builtin.«method_descriptor.__get__»
  repeat (any_goals (first | assumption | wp_step))
  have e : ".".intercalate ("dict.get".cutAt '.').dropLast = "dict" := by decide +kernel
  rw [e]
  refine wpAny_of_eq f1 ?_
  rw [if_neg (by decide)]
  refine wpAny_pure (wpAny_bind (wpAny_newObj_type (wpAny_pure h)))
theorem am_mdget_entry : entryFor table "method_descriptor.__get__" = some Builtin.«method_descriptor.__get__» := entryFor_of_tree (by kernel_rfl)
theorem mdget_slot : Slot "method_descriptor" "__get__" "method_descriptor.__get__" := .of (owner := "method_descriptor") (n := "__get__") md_get (by decide +kernel) (by decide +kernel) (by decide +kernel) (.inl (by decide +kernel)) (by rw [isSubtype_type]; kernel_rfl)
theorem mdget_args (a b c : Value) : argsOk "method_descriptor.__get__" ⟨[a, b, c], []⟩ := by unfold argsOk; kernel_rfl
theorem ga_run {M : Model} {A : Around} {E : Value → Shared → Prop} {s : Shared} {a : Addr} {o : Obj} {T : String} {name : Str} {u : Tok} {id : String} {Q : PySem.Fin → Shared → Prop} (hx : s.heap.get? a = some o) (hT : o.cls = .type T) (ho : o.dict = none) (hc : ∀ c, o.data ≠ .cls c)
    (hl : typeLookup (.type T) name = pure (some (.builtin id))) (ht : typeOf (.builtin id) = pure (.type "method_descriptor")) (hn : (["__module__", "__name__", "__qualname__", "__doc__", "__annotations__"] : List Str).contains name = false)
    (h : wpAny M A (call (.builtin "method_descriptor.__get__") [.builtin id, .ref a, .type T]) (fun v s' => Q (.done (.ret v)) s') E s) : wpAny M A (Builtin.«object.__getattribute__» ⟨[.ref a, .str name u], []⟩) Q E s := by
  have hTy : s.TypeIs (.ref a) T := ⟨_, hx, hT⟩
  unfold Builtin.«object.__getattribute__»
  refine wpAny_bind (wpAny_of_eq (a := (Value.ref a, [Value.str name u])) rfl ?_)
  refine wpAny_bind (wpAny_of_eq (a := name) rfl ?_)
  refine wpAny_bind (wpAny_typeOf hTy ?_)
  refine wpAny_bind (find_bm hx hT ho hc hl ht hn ?_)
  show wpAny M A (bindTo _ _ _ _) Q E s
  unfold bindTo
  show wpAny M A (do ret (← holding [.builtin id] (call (.builtin "method_descriptor.__get__") [.builtin id, .ref a, .type T]))) Q E s
  exact wpAny_bind (wpAny_holding (wpAny_mono h (fun v s' q => wpAny_pure q) fun _ _ e => e))
theorem getAttr_dict_get {prog : Program} {w : World} {A : Around} {E : Value → Shared → Prop} {s : Shared} {a : Addr} {o : Obj} {Q : Value → Shared → Prop} (hx : s.heap.get? a = some o) (hT : o.cls = .type "dict") (ho : o.dict = none) (hc : ∀ c, o.data ≠ .cls c)
    (h : Q (.ref s.heap.objs.size) { s with heap := s.heap.push { cls := .type "builtin_function_or_method", data := .fields #[.builtin "dict.get", .ref a] }, toks := s.toks + 1 }) :
    wpAny (model prog w) A (getAttr (.ref a) "get" true) Q E s := by
  have hTy : ∀ t, ({ s with toks := t } : Shared).TypeIs (.ref a) "dict" := fun _ => ⟨_, hx, hT⟩
  unfold getAttr
  refine wpAny_bind (wpAny_mkText ?_)
  unfold getAttrBy
  refine wpAny_holding (wpAny_bind (wpAny_typeOf (hTy _) (wpAny_bind (wpAny_of_eq F.slot_dict_getattribute.lookup ?_))))
  show wpAny _ _ (getAttrByItsOwn _ _ _ _ _ _) _ _ _
  unfold getAttrByItsOwn
  refine wpAny_bind (wpAny_pure (wpAny_bind (wpAny_attempt (wpAny_holding ?_))))
  show wpAny _ _ (boundAndCalled _ _ _) _ _ _
  unfold boundAndCalled
  refine wpAny_bind (wpAny_of_eq (F.slot_dict_getattribute.bind (.ref a)) ?_)
  refine wpAny_call_entry F.slot_dict_getattribute (hTy _) am_entry_dict_getattribute ?_ (F.args_dict_getattribute_2 _ _)
  refine ga_run (T := "dict") (id := "dict.get") hx hT ho hc F.slot_dict_get.lookup F.type_dict_get (by decide +kernel) ?_
  refine wpAny_call_entry mdget_slot F.type_dict_get am_mdget_entry ?_ (mdget_args _ _ _)
  refine mdg (hTy _) ⟨_, rfl, _, rfl, ?_⟩
  exact wpAny_pure h
end Mine
end PtLg20
section PtLg21
open PySem PySem.W PyProof.Rows Builtin Builtin.ObjectAttr
namespace Mine
theorem dict_not_module : isSubtype (.type "dict") (.type "module") = pure false := by rw [isSubtype_type]; kernel_rfl
noncomputable def sigChk (id T : String) (args : Args) : Sem Unit := match Manifest.signature? id with
  | none => pure ()
  | some sig => Bind.checkArgs id { sig with full := s!"{Bind.lastOf T}.{Bind.lastOf id}" } args
theorem sigChk_dict_get (a k v : Value) : sigChk "dict.get" "dict" ⟨[a, k, v], []⟩ = pure () := by
  unfold sigChk; kernel_rfl
theorem bound_chk {prog : Program} {w : World} {A : Around} {E : Value → Shared → Prop} {s : Shared} {d : Addr} {o : Obj} {T id : String} {rest : List Value} {Q : Unit → Shared → Prop} (hx : s.heap.get? d = some o) (hc : o.cls = .type T) (hnc : ∀ c, o.data ≠ .cls c)
    (f1 : isSubtype (.type T) (.type "module") = pure false) (f4 : builtinKind id = some .method) (f5 : Manifest.varargsMethods.contains id = false) (hs : sigChk id T ⟨.ref d :: rest, []⟩ = pure ()) (h : Q () s) :
    wpAny (model prog w) A (checkBoundCall id ⟨.ref d :: rest, []⟩) Q E s := by
  have hT : s.TypeIs (.ref d) T := ⟨_, hx, hc⟩
  unfold checkBoundCall
  unfold sigChk at hs
  cases e : Manifest.signature? id with
  | none => exact wpAny_pure h
  | some sig =>
    rw [e] at hs
    rw [f4]
    dsimp only at hs ⊢
    rw [if_neg (by decide)]
    refine wpAny_bind (wpAny_isInstance hT f1 ?_)
    rw [f5]
    rw [if_neg (by decide)]
    have hb : wpAny (model prog w) A (isType (.ref d)) (fun b s' => b = false ∧ s' = s) E s := by
      unfold isType
      refine wpAny_bind (wpAny_loadPart hx (wpAny_pure ⟨?_, rfl⟩))
      split
      · rename_i c q; exact absurd q (hnc c)
      · rfl
    refine wpAny_bind (wpAny_mono hb (fun b s' p => ?_) fun _ _ x => x)
    obtain ⟨rfl, rfl⟩ := p
    rw [if_neg (by decide)]
    refine wpAny_bind (wpAny_typeOf hT ?_)
    exact wpAny_of_eq hs h
theorem call_bm {prog : Program} {w : World} {A : Around} {E : Value → Shared → Prop} {s : Shared} {b d : Addr} {o : Obj} {T id : String} {rest : List Value} {B : Builtin} {Q : Value → Shared → Prop} (hb : s.heap.get? b = some { cls := .type "builtin_function_or_method", data := .fields #[.builtin id, .ref d] }) (hx : s.heap.get? d = some o) (hc : o.cls = .type T) (hnc : ∀ c, o.data ≠ .cls c)
    (f1 : isSubtype (.type T) (.type "module") = pure false) (f4 : builtinKind id = some .method) (f5 : Manifest.varargsMethods.contains id = false) (hs : sigChk id T ⟨.ref d :: rest, []⟩ = pure ()) (he : entryFor table id = some B) (hp : plainId id = true) (hq : Code.quiet (.builtin id ⟨.ref d :: rest, []⟩) = true)
    {S : PySem.Spec} (g : MeetsIn prog w (B ⟨.ref d :: rest, []⟩) S) (h : S A (wants Q E) s) :
    wpAny (model prog w) A (PySem.call (.ref b) rest) Q E s := by
  refine wpAny_call (codeAny_of_tree ?_)
  show wpAny _ _ (callAny (.ref b) _) _ _ _
  refine nd_load hb ?_
  show wpAny _ _ (checkBoundCall id ⟨.ref d :: rest, []⟩ >>= fun _ => again (.builtin id ⟨.ref d :: rest, []⟩)) _ _ _
  refine wpAny_bind (bound_chk hx hc hnc f1 f4 f5 hs ?_)
  refine wpAny_pure ⟨hq, codeAny_builtin he ?_⟩
  rw [Around.under_plainId hp]
  exact g A (wants Q E) s h
section
variable {prog : Program} {w : World} {c : Cx} {env : Env} {A : Around} {st st' : St} {s s' : Shared} {Q : V → St → Prop}
/-- `d.get` of an owned dict, as a value -/
theorem W.attrGet {e : Expr} {pos : Pos} (h : W prog w c env A e st (fun v st₁ => ∃ d f n, v = .ref d ∧ (d, .map f n) ∈ st₁.own ∧ Q (.bm "dict.get" (.ref d)) st₁))
    (he : eval (.Attribute e "get" pos) env = (do
      let o ← eval e env
      standAt pos.atName
      let r ← holding [o] (getAttr o "get" true)
      letTemporaryGo e o r
      pure r) := by rfl) : W prog w c env A (.Attribute e "get" pos) st Q := fun s a => by
  refine Attribute_any_ (wpAny_mono (h s a) (fun y s₁ p => ?_) fun _ _ e => e) he
  obtain ⟨st₁, a₁, F₁, v, rv, d, f, n, rfl, hm, q⟩ := p
  cases rv
  obtain ⟨g, m, l, _⟩ := a₁.own _ hm
  obtain ⟨o, es, ep, e, hc, hd, _⟩ := m
  obtain ⟨z1, z2, z3, z4⟩ := a₁.new
  refine getAttr_dict_get e hc.1 hc.2.1 (fun c q => by rw [hd] at q; cases q) ?_
  have qq := Quiet.push s₁ { cls := .type "builtin_function_or_method", data := .fields #[.builtin "dict.get", .ref d] } (s₁.toks + 1)
  exact ⟨st₁, a₁.quiet qq, F₁.trans (Fol.quiet qq _ _), .bm "dict.get" (.ref d), ⟨_, _, rfl, z4, ⟨_, rfl, Heap.get?_push_size _ rfl⟩, rfl⟩, q⟩
end
end Mine
end PtLg21
section PtLg22
open PySem PySem.W PyProof.Rows
namespace Mine
section
variable {prog : Program} {w : World} {c : Cx} {env : Env} {A : Around} {st st' : St} {s s' : Shared} {Q : V → St → Prop}
theorem keep_bm {b : Addr} {id : String} {y : Value} (h : IsBm s.heap b id y) : wpAny (model prog w) A (keeperOf (.ref b)) (fun _ s' => s' = s) (fun _ _ => False) s := by
  obtain ⟨_, rfl, e⟩ := h
  unfold keeperOf
  exact wpAny_bind (wpAny_load e (wpAny_pure rfl))
theorem kind_dict_get : builtinKind "dict.get" = some .method := by decide +kernel
theorem varargs_dict_get : Manifest.varargsMethods.contains "dict.get" = false := by decide +kernel
/-- the bound `d.get`, called -/
theorem W.callGet {f : Expr} {args : List Expr} {pos : Pos}
    (h : W prog w c env A f st (fun vf st₁ => ∃ d, vf = .bm "dict.get" (.ref d) ∧ (d == sysModules) = false ∧ WL prog w c env A (backTo pos (starEach args env)) st₁ (fun vs st₂ => ∃ fm n k v₀, vs = [.int k, v₀] ∧ (d, .map fm n) ∈ st₂.own ∧ Q ((fm k).getD v₀) st₂)))
    (hl : args.all plainArg = true := by rfl)
    (he : eval (.Call f args [] pos) env = (do callWith pos (← eval f env) [] (backTo pos (starEach args env)) []) := by rfl) : W prog w c env A (.Call f args [] pos) st Q := fun s a => by
  rw [he]
  refine Wp.bind (Wp.mono (h s a) fun s₁ st₁ x a₁ ⟨vf, rf, d, e, hd, h₁⟩ => ?_)
  subst e
  refine callWith_any (plain_each hl) (wpAny_mono (h₁ s₁ a₁) (fun xs s₂ p => ?_) fun _ _ x => x)
  obtain ⟨st₂, a₂, F₂, vs, rvs, fm, n, k, v₀, rfl, hm, q⟩ := p
  obtain ⟨b, y, rfl, nb, ib, ry⟩ := a₁.rep F₂ rf
  cases ry
  refine ⟨keep_bm ib, ?_⟩
  obtain ⟨_, rfl, eb⟩ := ib
  obtain ⟨x1, r', rfl, ⟨t, rfl⟩, z, r'', rfl, rz, rfl⟩ := rvs
  obtain ⟨g, m, l, rg⟩ := a₂.own _ hm
  obtain ⟨o, es, ep, eo, hc, hdd, _⟩ := id m
  refine call_bm eb eo hc.1 (fun c q => by rw [hdd] at q; cases q) dict_not_module kind_dict_get varargs_dict_get (sigChk_dict_get _ _ _) F.entry_dict_get F.slot_dict_get.plain (Code.quiet_builtin _ (by decide +kernel)) (meets_dict_get_default (intKind prog w) d (intKey prog w k t) hd z) ⟨g, m, ?_⟩
  have rk := rg k
  refine ⟨st₂, a₂.quiet (Quiet.toks _ _), F₂.trans (Fol.quiet (Quiet.toks _ _) _ _), (fm k).getD v₀, ?_, q⟩
  cases e : fm k with
  | none => rw [e] at rk; rw [show g k = Option.none from rk]; exact rz
  | some u => rw [e] at rk; obtain ⟨val, e', ru⟩ := rk; rw [e']; exact ru
end
end Mine
end PtLg22
section PtLg23
open PySem PySem.W PyProof.Rows
namespace Mine
section
variable (prog : Program) (w : World)
/-- the truth of a value in a state -/
noncomputable def Tru (c : Cx) (env : Env) (st : St) (v : V) (b : Bool) : Prop :=
  ∀ (A : Around) s val, At prog w c env st s → Rep s.heap (c.adr st) v val → wpAny (model prog w) A (truthy val) (fun x s' => x = b ∧ Quiet s s') (fun _ _ => False) s
end
section
variable {prog : Program} {w : World} {c : Cx} {env : Env} {A : Around} {st st' : St} {s s' : Shared}
theorem Tru.none : Tru prog w c env st .none false := fun A s val a r => by cases r; exact wpAny_pure ⟨rfl, Quiet.refl _⟩
theorem Tru.bool {b : Bool} : Tru prog w c env st (.bool b) b := fun A s val a r => by cases r; exact wpAny_truthy_bool ⟨rfl, Quiet.refl _⟩
theorem Tru.int {i : Int} : Tru prog w c env st (.int i) (i != 0) := fun A s val a r => by obtain ⟨t, rfl⟩ := r; exact PyProof.Rows.truthy_int ⟨rfl, Quiet.refl _⟩
theorem Tru.list {l : Addr} {vs : List V} (hm : (l, .list vs) ∈ st.own) (hz : vs.length ≤ sizeLine) : Tru prog w c env st (.ref l) (!vs.isEmpty) := fun A s val a r => by
  cases r
  obtain ⟨items, p, rs⟩ := a.own _ hm
  have hl := rs.length
  refine wpAny_truthy_list p.isList (by rw [sizeLine_eq] at hz; simp at hl; (first | lia | omega)) ⟨?_, Quiet.toks _ _⟩
  have hb : items.isEmpty = vs.isEmpty := by
    rw [show items.isEmpty = items.toList.isEmpty by simp, Bool.eq_iff_iff, List.isEmpty_iff, List.isEmpty_iff, ← List.length_eq_zero_iff, ← List.length_eq_zero_iff, rs.length]
  rw [hb]
/-- a test by a value's truth -/
theorem WB.val {Q : Bool → St → Prop} {e : Expr} (h : W prog w c env A e st (fun v st₁ => ∃ b, Tru prog w c env st₁ v b ∧ Q b st₁))
    (he : ∀ whole, isTrue e env whole = (do let v ← whole; standAt e.pos; holding [v] (truthy v)) := by intro _; rfl) : WB prog w c env A e st Q := fun s a => by
  rw [he]
  refine wpAny_bind (wpAny_mono (h s a) (fun x s₁ p => ?_) fun _ _ e => e)
  obtain ⟨st₁, a₁, F₁, v, rv, b, ht, q⟩ := p
  refine wpAny_bind (wpAny_standAt (wpAny_holding (wpAny_mono (ht A s₁ x a₁ rv) (fun y s₂ p => ?_) fun _ _ e => e)))
  obtain ⟨rfl, qq⟩ := p
  exact ⟨st₁, a₁.quiet qq, F₁.trans (Fol.quiet qq _ _), q⟩
/-- set() -/
theorem Op.set0 {top : Heap} {n : Nat} : Op prog w top n (fun xs => PySem.call (.type "set") xs) [] .eset := by
  intro A s own xs _ _ _ ho r
  cases r
  refine call_set_0 fun led => ?_
  exact ⟨⟨_, rfl, fun q => absurd (ho _ q).1 (Nat.lt_irrefl _), led, Heap.get?_push_size _ rfl⟩, fun b o e => Heap.get?_push_of_some _ e, rfl, rfl⟩
end
end Mine
end PtLg23
section PtLg24
open PySem PySem.W PyProof.Rows Builtin Builtin.ObjectAttr
namespace Mine
theorem set_not_module : isSubtype (.type "set") (.type "module") = pure false := by rw [isSubtype_type]; kernel_rfl
theorem isin_set : isSubtype (.type "set") (.type "set") = pure true := by rw [isSubtype_type]; kernel_rfl
theorem sigChk_set_contains (a k : Value) : sigChk "set.__contains__" "set" ⟨[a, k], []⟩ = pure () := by unfold sigChk; kernel_rfl
theorem kind_set_contains : builtinKind "set.__contains__" = some .method := by decide +kernel
theorem varargs_set_contains : Manifest.varargsMethods.contains "set.__contains__" = false := by decide +kernel
set_option maxHeartbeats 4000000 in
theorem mdgS {prog : Program} {w : World} {A : Around} {E : Value → Shared → Prop} {s : Shared} {a : Addr} {Q : PySem.Fin → Shared → Prop} (hT : s.TypeIs (.ref a) "set")
   (h : Q (.done (.ret (.ref s.heap.objs.size))) { s with heap := s.heap.push { cls := .type "builtin_function_or_method", data := .fields #[.builtin "set.__contains__", .ref a] } }) :
    wpAny (model prog w) A (Builtin.«method_descriptor.__get__» ⟨[.builtin "set.__contains__", .ref a, .type "set"], []⟩) Q E s := by
  have f1 := isin_set
  have f2 : Manifest.toldItsClass.contains "set.__contains__" = false := by decide +kernel
  unfold Builtin.«method_descriptor.__get__»
  repeat (any_goals (first | assumption | wp_step))
  have e : ".".intercalate ("set.__contains__".cutAt '.').dropLast = "set" := by decide +kernel
  rw [e]
  refine wpAny_of_eq f1 ?_
  rw [if_neg (by decide)]
  refine wpAny_pure (wpAny_bind (wpAny_newObj_type (wpAny_pure h)))
theorem am_entry_set_getattribute : entryFor table "set.__getattribute__" = some Builtin.«object.__getattribute__» :=
  entryFor_alias (id' := "object.__getattribute__") (by kernel_rfl) (by decide +kernel) (by decide +kernel) (by kernel_rfl)
theorem getAttr_set_contains {prog : Program} {w : World} {A : Around} {E : Value → Shared → Prop} {s : Shared} {a : Addr} {o : Obj} {Q : Value → Shared → Prop} (hx : s.heap.get? a = some o) (hT : o.cls = .type "set") (ho : o.dict = none) (hc : ∀ c, o.data ≠ .cls c)
    (h : Q (.ref s.heap.objs.size) { s with heap := s.heap.push { cls := .type "builtin_function_or_method", data := .fields #[.builtin "set.__contains__", .ref a] }, toks := s.toks + 1 }) :
    wpAny (model prog w) A (getAttr (.ref a) "__contains__" true) Q E s := by
  have hTy : ∀ t, ({ s with toks := t } : Shared).TypeIs (.ref a) "set" := fun _ => ⟨_, hx, hT⟩
  unfold getAttr
  refine wpAny_bind (wpAny_mkText ?_)
  unfold getAttrBy
  refine wpAny_holding (wpAny_bind (wpAny_typeOf (hTy _) (wpAny_bind (wpAny_of_eq F.slot_set_getattribute.lookup ?_))))
  show wpAny _ _ (getAttrByItsOwn _ _ _ _ _ _) _ _ _
  unfold getAttrByItsOwn
  refine wpAny_bind (wpAny_pure (wpAny_bind (wpAny_attempt (wpAny_holding ?_))))
  show wpAny _ _ (boundAndCalled _ _ _) _ _ _
  unfold boundAndCalled
  refine wpAny_bind (wpAny_of_eq (F.slot_set_getattribute.bind (.ref a)) ?_)
  refine wpAny_call_entry F.slot_set_getattribute (hTy _) am_entry_set_getattribute ?_ (F.args_set_getattribute_2 _ _)
  refine ga_run (T := "set") (id := "set.__contains__") hx hT ho hc F.slot_set_contains.lookup F.type_set_contains (by decide +kernel) ?_
  refine wpAny_call_entry mdget_slot F.type_set_contains am_mdget_entry ?_ (mdget_args _ _ _)
  refine mdgS (hTy _) ⟨_, rfl, _, rfl, ?_⟩
  exact wpAny_pure h
section
variable {prog : Program} {w : World} {c : Cx} {env : Env} {A : Around} {st st' : St} {s s' : Shared} {Q : V → St → Prop}
/-- the bound `__contains__` of an empty set, as a value -/
theorem W.attrHas {e : Expr} {pos : Pos} (h : W prog w c env A e st (fun v st₁ => v = .eset ∧ Q (.bm "set.__contains__" .eset) st₁))
    (he : eval (.Attribute e "__contains__" pos) env = (do
      let o ← eval e env
      standAt pos.atName
      let r ← holding [o] (getAttr o "__contains__" true)
      letTemporaryGo e o r
      pure r) := by rfl) : W prog w c env A (.Attribute e "__contains__" pos) st Q := fun s a => by
  refine Attribute_any_ (wpAny_mono (h s a) (fun y s₁ p => ?_) fun _ _ e => e) he
  obtain ⟨st₁, a₁, F₁, v, rv, rfl, q⟩ := p
  obtain ⟨d, rfl, nd, led, ed⟩ := rv
  obtain ⟨z1, z2, z3, z4⟩ := a₁.new
  refine getAttr_set_contains ed rfl rfl (fun c q => by cases q) ?_
  have qq := Quiet.push s₁ { cls := .type "builtin_function_or_method", data := .fields #[.builtin "set.__contains__", .ref d] } (s₁.toks + 1)
  exact ⟨st₁, a₁.quiet qq, F₁.trans (Fol.quiet qq _ _), .bm "set.__contains__" .eset, ⟨_, _, rfl, z4, ⟨_, rfl, Heap.get?_push_size _ rfl⟩, ⟨d, rfl, nd, led, Heap.get?_push_of_some _ ed⟩⟩, q⟩
end
end Mine
end PtLg24
section PtLg25
open PySem PySem.W PyProof.Rows
namespace Mine
/-- the empty set holds no int -/
theorem meets_eset {prog : Program} {w : World} {d : Addr} {k : Int} {t : Tok} : MeetsIn prog w (Builtin.«frozenset.__contains__» ⟨[.ref d, .int k t], []⟩) (fun _ R s => IsEset s.heap d ∧ R (.ok (.ret (.bool false))) { s with toks := s.toks + 1 }) :=
  .of_wp fun A R s ⟨⟨led, ed⟩, h⟩ => by
    have hS : s.heap.SetOf (intKind prog w) d (fun _ => false) 0 := (setObjOf_fresh (knd := intKind prog w) led).setOf ed (by unfold scanBound; (first | lia | omega))
    unfold Builtin.«frozenset.__contains__» Builtin.Frozenset.oneOther
    simp only [List.isEmpty_nil, bind_assoc]
    unfold Builtin.Frozenset.addrOf Builtin.Frozenset.withSetAsKey setContains
    refine wpAny_bind (wpAny_pure ?_)
    try dsimp only
    refine wpAny_bind (wpAny_pure ?_)
    try dsimp only
    refine wpAny_bind (wpAny_tryCatch ?_)
    refine wpAny_holding ?_
    refine wpAny_bind ((intKind prog w).pyHash (intKey prog w k t) ?_)
    refine wpAny_bind (wpAny_setFind_of (s := { s with toks := s.toks + 1 }) (intKey prog w k t) rfl hS fun r hr => ?_)
    refine wpAny_pure ?_
    show wpAny _ _ (ret (Value.bool r.isSome)) _ _ _
    rw [hr]
    exact wpAny_pure ⟨_, rfl, h⟩
section
variable {prog : Program} {w : World} {c : Cx} {env : Env} {A : Around} {st st' : St} {s s' : Shared} {Q : V → St → Prop}
theorem W.callHas {f : Expr} {args : List Expr} {pos : Pos}
    (h : W prog w c env A f st (fun vf st₁ => vf = .bm "set.__contains__" .eset ∧ WL prog w c env A (backTo pos (starEach args env)) st₁ (fun vs st₂ => ∃ k, vs = [.int k] ∧ Q (.bool false) st₂)))
    (hl : args.all plainArg = true := by rfl)
    (he : eval (.Call f args [] pos) env = (do callWith pos (← eval f env) [] (backTo pos (starEach args env)) []) := by rfl) : W prog w c env A (.Call f args [] pos) st Q := fun s a => by
  rw [he]
  refine Wp.bind (Wp.mono (h s a) fun s₁ st₁ x a₁ ⟨vf, rf, e, h₁⟩ => ?_)
  subst e
  refine callWith_any (plain_each hl) (wpAny_mono (h₁ s₁ a₁) (fun xs s₂ p => ?_) fun _ _ x => x)
  obtain ⟨st₂, a₂, F₂, vs, rvs, k, rfl, q⟩ := p
  obtain ⟨b, y, rfl, nb, ib, ry⟩ := a₁.rep F₂ rf
  obtain ⟨d, rfl, nd, ie⟩ := ry
  refine ⟨keep_bm ib, ?_⟩
  obtain ⟨_, rfl, eb⟩ := ib
  obtain ⟨x1, r', rfl, ⟨t, rfl⟩, rfl⟩ := rvs
  obtain ⟨led, ed⟩ := id ie
  refine call_bm eb ed rfl (fun c q => by cases q) set_not_module kind_set_contains varargs_set_contains (sigChk_set_contains _ _) entry_set_contains F.slot_set_contains.plain (Code.quiet_builtin _ (by decide +kernel)) meets_eset ⟨ie, ?_⟩
  exact ⟨st₂, a₂.quiet (Quiet.toks _ _), F₂.trans (Fol.quiet (Quiet.toks _ _) _ _), .bool false, rfl, q⟩
end
end Mine
end PtLg25
section PtLg26
open PySem PySem.W PyProof.Rows
namespace Mine
section
variable {prog : Program} {w : World} {c : Cx} {env : Env} {A : Around} {st st' : St} {s s' : Shared}
end
end Mine
end PtLg26
section PtLg27
open PySem PySem.W PyProof.Rows
namespace Mine
/-- an iterator that walks through values -/
structure Wk (prog : Program) (w : World) (A : Around) (target : Expr) (I : Addr) (fp wr : List Addr) (vs : List V) (S : Nat → Heap → List Addr → Prop) : Prop where
  sub : ∀ b ∈ wr, b ∈ fp
  frame : ∀ i h o h' o', S i h o → (∀ b ∈ fp, ∀ ob, h.get? b = some ob → h'.get? b = some ob) → Seqs o h o' h' → S i h' o'
  nr : ∀ i h o, S i h o → ∀ b ∈ wr, ¬ Rd h b
  nd : ∀ i h o, S i h o → ∀ b ∈ fp, ∃ ob, h.get? b = some ob ∧ (∀ es ep, ob.data ≠ .dict es ep)
  item : ∀ i (s : Shared) o (Q : Value → Shared → Prop), i < vs.length → S i s.heap o → (∀ a ∈ o, a < s.heap.objs.size) →
    (∀ v u h' tk, vs[i]? = some u → Rep h' o u v → S (i + 1) h' o → (∀ b ob, b ∉ wr → s.heap.get? b = some ob → h'.get? b = some ob) → Q v { s with heap := h', toks := tk }) →
    wpAny (model prog w) A (pyNext (.ref I)) (fun r s₁ => ∃ v, r = some v ∧ wpAny (model prog w) A (letOwnedTupleGo target (.ref I) v) (fun _ s₂ => Q v s₂) (fun _ _ => False) s₁) (fun _ _ => False) s
  done : ∀ (s : Shared) o (Q : Shared → Prop), S vs.length s.heap o → (∀ h' tk, (∀ b ob, b ∉ wr → s.heap.get? b = some ob → h'.get? b = some ob) → Q { s with heap := h', toks := tk }) →
    wpAny (model prog w) A (pyNext (.ref I)) (fun r s₁ => r = none ∧ Q s₁) (fun _ _ => False) s
  self : ∀ i (s : Shared) o (Q : Value → Shared → Prop), S i s.heap o → Q (.ref I) s → wpAny (model prog w) A (pyIter (.ref I)) Q (fun _ _ => False) s

section
variable (prog : Program) (w : World)
inductive WIp (c : Cx) (env : Env) (A : Around) (target : Expr) (st : St) (s : Shared) (Q : List V → St → Prop) (it : Value) (s₂ : Shared) : Prop
  | mk (s₀ : Shared) (st₁ : St) (vs : List V) (I : Addr) (fp wr : List Addr) (S : Nat → Heap → List Addr → Prop) (e : it = .ref I) (a₀ : At prog w c env st₁ s₀) (F : Fol env.locals (c.adr st) s.heap (c.adr st₁) s₀.heap) (a : At prog w c env st₁ s₂) (q : Quiet s₀ s₂) (z : s₀.heap.objs.size ≤ s₂.heap.objs.size)
    (k : Wk prog w A target I fp wr vs S) (h0 : S 0 s₂.heap (c.adr st₁)) (new : ∀ b ∈ wr, s₀.heap.objs.size ≤ b) (off : ∀ b ∈ fp, b ∉ c.adr st₁) (h : Q vs st₁)
/-- an expression that is gone through -/
noncomputable def WI (c : Cx) (env : Env) (A : Around) (target e : Expr) (st : St) (Q : List V → St → Prop) : Prop :=
  ∀ s, At prog w c env st s → wpAny (model prog w) A (eval e env) (fun x s₁ => wpAny (model prog w) A (pyIter x) (fun it s₂ => WIp prog w c env A target st s Q it s₂) (fun _ _ => False) s₁) (fun _ _ => False) s
end
section
variable {prog : Program} {w : World} {c : Cx} {env : Env} {A : Around} {st st' : St} {s s' : Shared}
theorem none_above {h : Heap} {b : Addr} (e : h.objs.size ≤ b) : h.get? b = Option.none := by
  cases q : h.get? b with
  | none => rfl
  | some o => exact absurd (Heap.lt_size q) (Nat.not_lt.mpr e)
/-- a for loop over an iterator -/
theorem loop_wk {target : Expr} {body : List Stmt} {Q : Fl → St → Prop} {I : Addr} {fp wr : List Addr} {vs : List V} {S : Nat → Heap → List Addr → Prop} (K : Wk prog w A target I fp wr vs S)
    {s₀ : Shared} {st₀ : St} (a₀ : At prog w c env st₀ s₀) (a : At prog w c env st s) (F₀ : Fol env.locals (c.adr st₀) s₀.heap (c.adr st) s.heap) (hs : S 0 s.heap (c.adr st))
    (hnew : ∀ b ∈ wr, s₀.heap.objs.size ≤ b) (hoff : ∀ b ∈ fp, b ∉ c.adr st)
    (J : Nat → St → Prop) (h0 : J 0 st) (turn : ∀ k st₂ u, vs[k]? = some u → J k st₂ → WF prog w c env A (PySem.assign target env) u st₂ (fun st₂' => WS prog w c env A body st₂' (fun f st₃ => match f with | .next | .cont => J (k + 1) st₃ | .brk => Q .next st₃ | .ret v => Q (.ret v) st₃)))
    (done : ∀ st₂, J vs.length st₂ → Q .next st₂) :
    codeAny (model prog w) A (.forLoop target (.ref I) body [] env) (fun r s' => match r with | .ok f => Pst prog w c env st₀ s₀ (Fp c Q) f s' | .error e => False) s := by
  refine codeAny_forLoop_any (fun m s₁ => ∃ k st₁, m = vs.length - k ∧ k ≤ vs.length ∧ At prog w c env st₁ s₁ ∧ Fol env.locals (c.adr st₀) s₀.heap (c.adr st₁) s₁.heap ∧ S k s₁.heap (c.adr st₁) ∧ (∀ b ∈ fp, b ∉ c.adr st₁) ∧ J k st₁) (fun m s₁ q => ?_) vs.length ⟨0, st, rfl, Nat.zero_le _, a, F₀, hs, hoff, h0⟩
  obtain ⟨k, st₁, rfl, hkn, a₁, F₁, hs₁, hoff₁, hj⟩ := q
  have hL : ∀ b ∈ fp, b ≠ env.locals := fun b hb q => by
    obtain ⟨m, ⟨o, es, ep, e, d, _⟩, _⟩ := a₁.vars
    obtain ⟨o', e', nd⟩ := K.nd k _ _ hs₁ b hb
    rw [q, e] at e'; cases e'; exact nd _ _ d
  have nw : ∀ b ∈ wr, s₀.heap.get? b = Option.none ∧ c.h₀.get? b = Option.none ∧ c.top.get? b = Option.none := fun b hb =>
    ⟨none_above (hnew b hb), none_above (Nat.le_trans (Nat.le_of_lt a₀.size) (hnew b hb)), none_above (Nat.le_trans (Nat.le_trans a₀.low (Nat.le_of_lt a₀.size)) (hnew b hb))⟩
  have no : ∀ b ∈ wr, b ∉ c.adr st₁ ∧ b ≠ env.locals ∧ c.h₀.get? b = Option.none ∧ c.top.get? b = Option.none := fun b hb => ⟨hoff₁ b (K.sub b hb), hL b (K.sub b hb), (nw b hb).2⟩
  have nr := K.nr k _ _ hs₁
  have Fb : ∀ h' : Heap, (∀ b o, b ∉ wr → s₁.heap.get? b = some o → h'.get? b = some o) → Fol env.locals (c.adr st₀) s₀.heap (c.adr st₁) h' := fun h' kk b o e n l => by
    have := F₁ b o e n l
    exact ⟨kk b o (fun q => by rw [(nw b q).1] at e; cases e) this.1, this.2⟩
  rcases Nat.lt_or_ge k vs.length with hlt | hge
  · refine wpAny_mono (K.item k s₁ (c.adr st₁) (fun v s₂ => wpAny (model prog w) A (PySem.assign target env v) (fun _ s₂ => wpAny (model prog w) A (execs body env) (fun f s₃ => match f with
            | .next | .cont => ∃ m, m < vs.length - k ∧ ∃ k st₁, m = vs.length - k ∧ k ≤ vs.length ∧ At prog w c env st₁ s₃ ∧ Fol env.locals (c.adr st₀) s₀.heap (c.adr st₁) s₃.heap ∧ S k s₃.heap (c.adr st₁) ∧ (∀ b ∈ fp, b ∉ c.adr st₁) ∧ J k st₁
            | .brk => Pst prog w c env st₀ s₀ (Fp c Q) Flow.next s₃
            | .ret v => Pst prog w c env st₀ s₀ (Fp c Q) (.ret v) s₃) (fun _ _ => False) s₂) (fun _ _ => False) s₂) hlt hs₁ (fun b hb => (a₁.lt b hb).1) fun v u h' tk hu ru hs' kk => ?_) (fun r s₂ p => ?_) fun _ _ e => e.elim
    · have a₂ : At prog w c env st₁ { s₁ with heap := h', toks := tk } := a₁.but kk nr no rfl rfl
      refine wpAny_mono (turn k st₁ u hu hj _ v a₂ ru) (fun _ s₃ p => ?_) (fun _ _ e => e.elim)
      obtain ⟨st₃, a₃, F₃, hb⟩ := p
      have off₃ : ∀ b ∈ fp, ∀ o, h'.get? b = some o → s₃.heap.get? b = some o ∧ b ∉ c.adr st₃ := fun b hb o e => F₃ b o e (hoff₁ b hb) (hL b hb)
      have hs₃ := K.frame _ _ _ _ _ hs' (fun b hb o e => (off₃ b hb o e).1) (a₂.seqs F₃)
      have hoff₃ : ∀ b ∈ fp, b ∉ c.adr st₃ := fun b hb => by
        obtain ⟨o, e, _⟩ := K.nd (k + 1) _ _ hs' b hb
        exact (off₃ b hb o e).2
      refine wpAny_mono (hb s₃ a₃) (fun f s₄ p => ?_) (fun _ _ e => e.elim)
      obtain ⟨st₄, a₄, F₄, fl, rf, q⟩ := p
      have FF : Fol env.locals (c.adr st₀) s₀.heap (c.adr st₄) s₄.heap := ((Fb h' kk).trans F₃).trans F₄
      have fr₄ : ∀ b ∈ fp, ∀ o, s₃.heap.get? b = some o → s₄.heap.get? b = some o ∧ b ∉ c.adr st₄ := fun b hb o e => F₄ b o e (hoff₃ b hb) (hL b hb)
      have nx : J (k + 1) st₄ → ∃ m, m < vs.length - k ∧ ∃ k' st₁, m = vs.length - k' ∧ k' ≤ vs.length ∧ At prog w c env st₁ s₄ ∧ Fol env.locals (c.adr st₀) s₀.heap (c.adr st₁) s₄.heap ∧ S k' s₄.heap (c.adr st₁) ∧ (∀ b ∈ fp, b ∉ c.adr st₁) ∧ J k' st₁ := fun j => by
        refine ⟨vs.length - (k + 1), by (first | lia | omega), k + 1, st₄, rfl, hlt, a₄, FF, K.frame _ _ _ _ _ hs₃ (fun b hb o e => (fr₄ b hb o e).1) (a₃.seqs F₄), fun b hb => ?_, j⟩
        obtain ⟨o, e, _⟩ := K.nd (k + 1) _ _ hs₃ b hb
        exact (fr₄ b hb o e).2
      cases fl with
      | next => cases rf; exact nx q
      | cont => cases rf; exact nx q
      | brk => cases rf; exact ⟨st₄, a₄, FF, .next, rfl, q⟩
      | ret v => obtain ⟨y, rfl, rr⟩ := rf; exact ⟨st₄, a₄, FF, .ret v, ⟨y, rfl, rr⟩, q⟩
    · obtain ⟨v, rfl, hv⟩ := p
      refine wpAny_mono hv (fun _ s₃ h₃ => wpAny_mono h₃ (fun _ s₄ h₄ => wpAny_mono h₄ (fun f s₅ h₅ => ?_) fun _ _ e => e.elim) fun _ _ e => e.elim) fun _ _ e => e.elim
      cases f <;> exact h₅
  · have hk : k = vs.length := Nat.le_antisymm hkn hge
    subst hk
    refine wpAny_mono (K.done s₁ _ (fun s₂ => Pst prog w c env st₀ s₀ (Fp c Q) Flow.next s₂) hs₁ fun h' tk kk => ⟨st₁, a₁.but kk nr no rfl rfl, Fb h' kk, .next, rfl, done _ hj⟩) (fun r s₂ p => ?_) fun _ _ e => e.elim
    obtain ⟨rfl, p⟩ := p
    exact wpAny_execs_nil p
/-- for -/
theorem WX.for {target iter : Expr} {pos : Pos} {body : List Stmt} {Q : Fl → St → Prop}
    (h : WI prog w c env A target iter st (fun vs st₁ => ForE vs.length st₁ (fun J =>
      (∀ k st₂ u, vs[k]? = some u → J k st₂ → WF prog w c env A (PySem.assign target env) u st₂ (fun st₂' => WS prog w c env A body st₂' (fun f st₃ => match f with | .next | .cont => J (k + 1) st₃ | .brk => Q .next st₃ | .ret v => Q (.ret v) st₃)))) (fun st₂ => Q .next st₂)))
    (hs : ∀ x, foldedSetIterable iter env x = pure x := by intro _; rfl) : WX prog w c env A (.For target iter body [] pos) st Q := fun s a => by
  refine wpAny_For (wpAny_mono (h s a) (fun x s₁ p => ?_) fun _ _ e => e.elim) hs
  refine wpAny_mono p (fun it s₂ p => ?_) fun _ _ e => e.elim
  obtain ⟨s₀, st₁, vs, I, fp, wr, S, rfl, a₀, F₀, a₂, F, _, K, hS, hw, hf, J, h0, turn, done⟩ := p
  refine codeAny_mono (loop_wk K a₀ a₂ (Fol.quiet F _ _) hS hw hf J h0 turn done) fun r s' p => ?_
  cases r with
  | ok f => exact Pst.from F₀ p
  | error e => exact p.elim
end
end Mine
end PtLg27
section PtLg28
open PySem PySem.W PyProof.Rows
namespace Mine
noncomputable def ownedIters : List String := ["enumerate", "zip", "dict_itemiterator", "dict_reverseitemiterator", "odict_iterator", "itertools.zip_longest", "itertools.pairwise"]
section
variable {prog : Program} {w : World} {c : Cx} {env : Env} {A : Around} {st st' : St} {s s' : Shared}
theorem lot_plain {target : Expr} {I : Addr} {o : Obj} {n : String} {v : Value} {E : Value → Shared → Prop} {Q : Unit → Shared → Prop} (e : s.heap.get? I = some o) (hc : o.cls = .type n) (hn : ownedIters.contains n = false) (h : Q () s) :
    wpAny (model prog w) A (letOwnedTupleGo target (.ref I) v) Q E s := by
  have key : wpAny (model prog w) A (do
      let (.ref r, .ref a) := (Value.ref I, v) | return
      let o ← load r
      match o.cls, o.data with
      | .type n, .fields vs =>
        if ["enumerate", "zip", "dict_itemiterator", "dict_reverseitemiterator", "odict_iterator", "itertools.zip_longest", "itertools.pairwise"].contains n && vs[0]? == some (rawInt a) then
          rule "for.unpacks-the-owned-tuple"
          updateField r 0 .none
      | _, _ => pure ()) Q E s := by
    cases v with
    | ref a =>
      refine wpAny_bind (wpAny_load e ?_)
      rw [hc]
      split
      · rename_i n' vs e1 e2
        cases e1
        rw [show (["enumerate", "zip", "dict_itemiterator", "dict_reverseitemiterator", "odict_iterator", "itertools.zip_longest", "itertools.pairwise"].contains n) = false from hn, Bool.false_and]
        exact wpAny_pure h
      · exact wpAny_pure h
    | _ => exact wpAny_pure h
  cases target <;> first | exact key | exact wpAny_pure h
theorem Wk.list {target : Expr} {I ax : Addr} {items : Array Value} {vs : List V} (hh : A.handled = Option.none) (hne : ax ≠ I) (hn : vs.length = items.size) :
    Wk prog w A target I [I, ax] [I] vs (fun i h o => h.IsListIter I ax i ∧ h.IsList ax items ∧ Reps h o vs items.toList) where
  sub := fun b hb => by simp at hb; simp [hb]
  frame := fun i h o h' o' st hk S => ⟨st.1.at fun o e => hk I (by simp) o e, st.2.1.at fun o e => hk ax (by simp) o e, Reps.seqs S _ _ st.2.2⟩
  nr := fun i h o st b hb => by
    rw [List.mem_singleton.mp hb]
    obtain ⟨o, e, hc, hd⟩ := st.1
    exact notRd e hc hd (by decide) (by decide) (by decide) (fun _ _ q => by simp at q)
  nd := fun i h o st b hb => by
    rcases List.mem_cons.mp hb with rfl | hb
    · obtain ⟨o, e, hc, hd⟩ := st.1; exact ⟨o, e, fun es ep q => by rw [hd] at q; cases q⟩
    · rw [List.mem_singleton.mp hb]
      obtain ⟨o, e, hc, n, hd⟩ := st.2.1; exact ⟨o, e, fun es ep q => by rw [hd] at q; cases q⟩
  item := fun i s o Q hi st _ hQ => by
    have hi' : i < items.size := hn ▸ hi
    have nr : ∀ b ∈ [I], ¬ Rd s.heap b := fun b hb => by
      rw [List.mem_singleton.mp hb]
      obtain ⟨o, e, hc, hd⟩ := st.1
      exact notRd e hc hd (by decide) (by decide) (by decide) (fun _ _ q => by simp at q)
    refine wpAny_pyNext_list_item st.1 st.2.1 (x := items[i]) (by simp [hi']) fun h' hit' hs' => ⟨_, rfl, ?_⟩
    have kk : ∀ b ob, b ∉ [I] → s.heap.get? b = some ob → h'.get? b = some ob := fun b ob hb e => hs'.extBut b ob (fun q => hb (by simp [q])) e
    have rs := Reps.but kk nr _ _ st.2.2
    obtain ⟨u, hu, ru⟩ := rs.get (x := items[i]) _ _ i (by simp [hi'])
    obtain ⟨oi, ei, hci, _⟩ := id hit'
    exact lot_plain (s := { s with heap := h' }) ei hci (by decide) (hQ _ u h' s.toks hu ru ⟨hit', st.2.1.extBut hs'.extBut hne, rs⟩ kk)
  done := fun s o Q st hQ => wpAny_pyNext_list_end hh st.1 st.2.1 (by simp [hn]) fun h' he' => ⟨rfl, hQ h' s.toks fun b o hb e => he' b o (fun h => hb (by simp [h])) e⟩
  self := fun _ _ _ _ st hQ => wpAny_pyIter_listiter st.1 hQ
theorem Wk.range {target : Expr} {I : Addr} {a k : Int} {n : Nat} (hh : A.handled = Option.none) :
    Wk prog w A target I [I] [I] ((List.range n).map fun (i : Nat) => V.int (a + (i : Int) * k)) (fun i h o => IsRangeIter h I (a + (i : Int) * k) ((n : Int) - i) k) where
  sub := fun b hb => hb
  frame := fun i h o h' o' st hk S => hk I (by simp) _ st
  nr := fun i h o st b hb => by
    rw [List.mem_singleton.mp hb]
    exact notRd st rfl rfl (by decide) (by decide) (by decide) (fun _ _ q => by simp at q)
  nd := fun i h o st b hb => by
    rw [List.mem_singleton.mp hb]
    exact ⟨_, st, fun es ep q => by cases q⟩
  item := fun i s o Q hi st _ hQ => by
    simp only [List.length_map, List.length_range] at hi
    refine (Walks.range (prog := prog) (w := w) hh I a k n).item i s _ _ hi st fun v h' tk hv hs' kk => ⟨v, rfl, ?_⟩
    obtain ⟨t, rfl⟩ := hv
    exact lot_plain (s := { s with heap := h', toks := tk }) hs' rfl (by decide) (hQ _ (.int (a + (i : Int) * k)) h' tk (by simp [hi]) ⟨t, rfl⟩ hs' kk)
  done := fun s o Q st hQ => (Walks.range (prog := prog) (w := w) hh I a k n).done s _ _ (by simpa using st) fun h' tk kk => ⟨rfl, hQ h' tk kk⟩
  self := fun i s o Q st hQ => (Walks.range (prog := prog) (w := w) hh I a k n).self i s Q _ st hQ
/-- from what gives tuples -/
theorem Wk.ofT {elts : List Expr} {kx} {px : Pos} {I : Addr} {fp wr : List Addr} {n : Nat} {P : Nat → Array Value → Prop} {S : Nat → Heap → Prop} {Mid : Nat → Addr → Heap → Prop} (Wt : WalksT prog w A I fp wr n P S Mid)
    (PF : Heap → List Addr → Prop) (pfS : ∀ o h o' h', Seqs o h o' h' → PF h o → PF h' o') (pfB : ∀ o h h', (∀ b ob, b ∉ wr → h.get? b = some ob → h'.get? b = some ob) → (∀ b ∈ wr, ¬ Rd h b) → PF h o → PF h' o)
    (vs : List (List V)) (hn : vs.length = n) (hP : ∀ i v h o, i < n → P i v → PF h o → ∃ u, vs[i]? = some u ∧ Reps h o u v.toList)
    (hR : ∀ i h, S i h → ∀ b ∈ wr, ¬ Rd h b) (hM : ∀ i T h, Mid i T h → ∀ b ∈ wr, ¬ Rd h b) (hfp : ∀ b ∈ fp, ∀ i h, S i h → ∃ o, h.get? b = some o ∧ (∀ es ep, o.data ≠ .dict es ep)) :
    Wk prog w A (.Tuple elts kx px) I fp wr (vs.map V.tup) (fun i h o => S i h ∧ PF h o) where
  sub := Wt.sub
  frame := fun i h o h' o' st hk S => ⟨Wt.frame _ _ _ st.1 hk, pfS _ _ _ _ S st.2⟩
  nr := fun i h o st => hR i h st.1
  nd := fun i h o st b hb => hfp b hb i h st.1
  item := fun i s o Q hi st ho hQ => by
    rw [List.length_map] at hi
    refine Wt.item i s _ _ (hn ▸ hi) st.1 fun T vals h' tk hPv hT ht hmid kk => ⟨_, rfl, ?_⟩
    have nr := hR i _ st.1
    have hpf₂ := pfB _ _ _ kk nr st.2
    obtain ⟨u, hu, ru⟩ := hP i vals _ _ (hn ▸ hi) hPv hpf₂
    have rT : Rep h' o (.tup u) (.ref T) := ⟨T, vals, rfl, fun q => absurd (ho T q) (Nat.not_lt.mpr hT), ht, ru⟩
    have nr₂ := hM i T _ hmid
    refine Wt.go elts kx px i T { s with heap := h', toks := tk } _ _ hmid fun h'' hs'' kk₂ => ?_
    exact hQ _ (.tup u) h'' tk (by simp [hu]) (Rep.but kk₂ nr₂ _ _ rT) ⟨hs'', pfB _ _ _ kk₂ nr₂ hpf₂⟩ fun b ob hb e => kk₂ b ob hb (kk b ob hb e)
  done := fun s o Q st hQ => Wt.done s _ _ (by have := st.1; rwa [List.length_map, hn] at this) fun h' tk kk => ⟨rfl, hQ h' tk kk⟩
  self := fun i s o Q st hQ => Wt.self i s Q _ st.1 hQ
/-- a list, gone through -/
theorem WI.lst {target e : Expr} {Q : List V → St → Prop} (hh : A.handled = Option.none) (h : W prog w c env A e st (fun v st₁ => LsE v fun vs => Q vs st₁)) : WI prog w c env A target e st Q := fun s a => by
  refine wpAny_mono (h s a) (fun x s₁ p => ?_) fun _ _ e => e
  obtain ⟨st₁, a₁, F₁, v, rv, vs, rfl, q⟩ := p
  obtain ⟨ax, items, rfl, nax, hL', rs⟩ := rv
  have hL := hL'.isList
  refine wpAny_pyIter_list hL ?_
  obtain ⟨ol, hol, _, nl, dl⟩ := id hL
  obtain ⟨z1, z2, z3, z4⟩ := a₁.new
  have qq : Quiet s₁ { s₁ with heap := s₁.heap.push { cls := .type "list_iterator", data := .fields #[.ref ax, .int 0 0] } } := ⟨fun _ _ e => Heap.get?_push_of_some _ e, rfl, rfl⟩
  have hne : ax ≠ s₁.heap.objs.size := Nat.ne_of_lt (Heap.lt_size hol)
  have hsz : vs.length = items.size := by rw [rs.length]; simp
  refine ⟨s₁, st₁, vs, s₁.heap.objs.size, _, _, _, rfl, a₁, F₁, a₁.quiet qq, qq, Nat.le_of_lt (by rw [Heap.size_push]; exact Nat.lt_succ_self _), Wk.list hh hne hsz, ⟨⟨_, Heap.get?_push_size _ rfl, rfl, rfl⟩, hL.at fun o e => Heap.get?_push_of_some _ e, rs.quiet qq⟩, fun b hb => ?_, fun b hb => ?_, q⟩
  · rw [List.mem_singleton.mp hb]; exact Nat.le_refl _
  · rcases List.mem_cons.mp hb with rfl | hb
    · exact z4
    · rw [List.mem_singleton.mp hb]; exact nax
/-- a list of the call's own, gone through while it does not change -/
theorem WI.rng {target e : Expr} {Q : List V → St → Prop} (hh : A.handled = Option.none) (h : W prog w c env A e st (fun v st₁ => ∃ i j k, v = .rng i j k ∧ Builtin.Range.small i j k = true ∧ Q (rngV i j k) st₁)) : WI prog w c env A target e st Q := fun s a => by
  refine wpAny_mono (h s a) (fun x s₁ p => ?_) fun _ _ e => e
  obtain ⟨st₁, a₁, F₁, v, rv, i, j, k, rfl, hsm, q⟩ := p
  obtain ⟨ax, t, u, v, rfl, nax, hL⟩ := rv
  refine wpAny_pyIter_range hL hsm ?_
  obtain ⟨z1, z2, z3, z4⟩ := a₁.new
  have qq : Quiet s₁ { s₁ with heap := s₁.heap.push { cls := .type "range_iterator", data := .fields #[rawInt i, rawInt (Builtin.Range.rangeSize i j k), rawInt k] } } := ⟨fun _ _ e => Heap.get?_push_of_some _ e, rfl, rfl⟩
  have hN : (((Builtin.Range.rangeSize i j k).toNat : Nat) : Int) = Builtin.Range.rangeSize i j k := (rangeSize_toNat i j k).symm
  refine ⟨s₁, st₁, rngV i j k, s₁.heap.objs.size, _, _, _, rfl, a₁, F₁, a₁.quiet qq, qq, Nat.le_of_lt (by rw [Heap.size_push]; exact Nat.lt_succ_self _), Wk.range hh, ?_, fun b hb => ?_, fun b hb => ?_, q⟩
  · show IsRangeIter _ _ _ _ _
    rw [hN]
    simpa using Heap.get?_push_size s₁.heap (o := { cls := .type "range_iterator", data := .fields #[rawInt i, rawInt (Builtin.Range.rangeSize i j k), rawInt k] }) rfl
  · rw [List.mem_singleton.mp hb]; exact Nat.le_refl _
  · rw [List.mem_singleton.mp hb]; exact z4
noncomputable def enumV (vs : List V) : List (List V) := vs.mapIdx fun i v => [V.int i, v]
/-- enumerate(list) -/
theorem WI.enum {elts : List Expr} {kx} {px : Pos} {f e : Expr} {pos : Pos} {Q : List V → St → Prop} (hh : A.handled = Option.none)
    (h : W prog w c env A f st (fun vf st₁ => vf = .con (.type "enumerate") ∧ W prog w c env A e st₁ (fun v st₂ => LsE v fun vs => Q ((enumV vs).map V.tup) st₂)))
    (hl : plainArg e = true := by rfl)
    (he : eval (.Call f [e] [] pos) env = (do callWith pos (← eval f env) [] (backTo pos (starEach [e] env)) []) := by rfl)
    (he' : backTo pos (starEach [e] env) = [(false, eval e env)] := by rfl) : WI prog w c env A (.Tuple elts kx px) (.Call f [e] [] pos) st Q := fun s a => by
  rw [he]
  refine wpAny_bind (wpAny_mono (h s a) (fun x s₁ p => ?_) fun _ _ e => e)
  obtain ⟨st₁, a₁, F₁, v, rv, rfl, h₁⟩ := p
  cases rv
  refine callWith_any (plain_each (by simp [hl])) ?_
  rw [he']
  refine Calls.spliced_cons (wpAny_mono (h₁ s₁ a₁) (fun x s₂ p => ?_) fun _ _ e => e)
  obtain ⟨st₂, a₂, F₂, v, rv, vs, rfl, q⟩ := p
  refine Calls.spliced_nil ⟨Kpt.type (top := c.top) A s₂ a₂.top, ?_⟩
  obtain ⟨l, items, rfl, nl, hL', rs⟩ := rv
  obtain ⟨n, hl'⟩ := id hL'
  have hsz : vs.length = items.size := by rw [rs.length]; simp
  refine call_enumerate_1 hl' fun h' hE hI hz kk => wpAny_pyIter_enum hE ?_
  have qq : Quiet s₂ { s₂ with heap := h' } := ⟨kk, rfl, rfl⟩
  obtain ⟨z1, z2, z3, z4⟩ := a₂.new
  have hlt : l < s₂.heap.objs.size := Heap.lt_size hl'
  have up : ∀ b, s₂.heap.objs.size ≤ b → b ∉ c.adr st₂ := fun b hb q => absurd (a₂.lt b q).1 (Nat.not_lt.mpr hb)
  have nrE : ∀ {hp : Heap} {a it : Addr} {i : Int} {o1 o2 : Value}, hp.get? a = some { cls := .type "enumerate", dict := Option.none, data := .fields #[o1, .bool false, .ref it, rawInt i, .none, o2], slots := #[] } → ¬ Rd hp a := fun e => notRd e rfl rfl (by decide) (by decide) (by decide) (fun _ _ q => by simp at q)
  have nrI : ∀ {hp : Heap} {a l : Addr} {i : Nat}, hp.IsListIter a l i → ¬ Rd hp a := fun e => by
    obtain ⟨o, e, hc, hd⟩ := e
    exact notRd e hc hd (by decide) (by decide) (by decide) (fun _ _ q => by simp at q)
  refine ⟨s₂, st₂, _, s₂.heap.objs.size + 1, _, _, _, rfl, a₂, F₁.trans F₂, a₂.quiet qq, qq, by show _ ≤ h'.objs.size; (first | lia | omega),
    Wk.ofT (WalksT.enumerate hh (s₂.heap.objs.size + 1) s₂.heap.objs.size l (Nat.succ_ne_self _) (Nat.ne_of_lt (Nat.lt_succ_of_lt hlt)) (Nat.ne_of_lt hlt) items) (fun h o => Reps h o vs items.toList) (fun _ _ _ _ S r => Reps.seqs S _ _ r) (fun _ _ _ k nr r => Reps.but k nr _ _ r)
    (enumV vs) (by simp [enumV, hsz]) (fun i v hp o hi hp' r => ?_) (fun i hp st b hb => ?_) (fun i T hp st b hb => ?_) (fun b hb i hp st => ?_), ⟨⟨⟨_, hE⟩, hI, hL'.isList.at fun o e => kk _ o e⟩, rs.quiet qq⟩, fun b hb => ?_, fun b hb => ?_, q⟩
  · obtain ⟨t, x, hx, rfl⟩ := hp'
    obtain ⟨u, hu, ru⟩ := r.get (x := x) _ _ i (by simpa using hx)
    exact ⟨[.int i, u], by simp [enumV, hu], Reps.two ⟨t, rfl⟩ ru⟩
  · obtain ⟨⟨old, he⟩, hit, hl⟩ := st
    rcases List.mem_cons.mp hb with rfl | hb
    · exact nrE he
    · rw [List.mem_singleton.mp hb]; exact nrI hit
  · obtain ⟨⟨x, he⟩, hit, hl, _⟩ := st
    rcases List.mem_cons.mp hb with rfl | hb
    · exact nrE he
    · rw [List.mem_singleton.mp hb]; exact nrI hit
  · obtain ⟨⟨old, he⟩, ⟨o1, e1, c1, d1⟩, ⟨o2, e2, c2, n2, d2⟩⟩ := st
    simp only [List.mem_cons, List.not_mem_nil, or_false] at hb
    rcases hb with rfl | rfl | rfl
    · exact ⟨_, he, fun es ep q => by cases q⟩
    · exact ⟨_, e1, fun es ep q => by rw [d1] at q; cases q⟩
    · exact ⟨_, e2, fun es ep q => by rw [d2] at q; cases q⟩
  · simp only [List.mem_cons, List.not_mem_nil, or_false] at hb
    rcases hb with rfl | rfl
    · exact Nat.le_succ _
    · exact Nat.le_refl _
  · simp only [List.mem_cons, List.not_mem_nil, or_false] at hb
    rcases hb with rfl | rfl | rfl
    · exact up _ (Nat.le_succ _)
    · exact z4
    · exact nl
end
end Mine
end PtLg28
section PtLg29
open PySem PySem.W PyProof.Rows
namespace Mine
/-- a value, or a list of one's own that is no more changed -/
noncomputable def Fz (ls : List (Addr × O)) (v v' : V) : Prop := v' = v ∨ ∃ l vs, v = .ref l ∧ (l, O.list vs) ∈ ls ∧ v' = .lst vs
noncomputable def FzS (ls : List (Addr × O)) : List V → List V → Prop
  | [], k => k = []
  | v :: vs, k => ∃ u r, k = u :: r ∧ Fz ls v u ∧ FzS ls vs r
noncomputable def FzOpt (ls : List (Addr × O)) : Option V → Option V → Prop
  | .none, k => k = .none
  | some v, k => ∃ u, k = some u ∧ Fz ls v u
inductive FzO (ls : List (Addr × O)) : O → O → Prop where
  | same (o : O) : FzO ls o o
  | list {vs us : List V} : FzS ls vs us → FzO ls (.list vs) (.list us)
  | map {f g : Int → Option V} {n : Nat} : (∀ k, FzOpt ls (f k) (g k)) → FzO ls (.map f n) (.map g n)
  | attrs {f g : Str → Option V} {n : Nat} : (∀ k, FzOpt ls (f k) (g k)) → FzO ls (.attrs f n) (.attrs g n)
  | cell {v u : Option V} : FzOpt ls v u → FzO ls (.cell v) (.cell u)
noncomputable def Prel (ls : List (Addr × O)) : List (Addr × O) → List (Addr × O) → Prop
  | [], k => k = []
  | q :: t, k => ∃ p r, k = p :: r ∧ p.1 = q.1 ∧ FzO ls q.2 p.2 ∧ Prel ls t r
theorem Prel.refl (ls : List (Addr × O)) : ∀ t, Prel ls t t
  | [] => rfl
  | q :: t => ⟨q, t, rfl, rfl, .same _, Prel.refl ls t⟩
theorem Prel.adr {ls : List (Addr × O)} : ∀ {t k : List (Addr × O)}, Prel ls t k → k.map (·.1) = t.map (·.1)
  | [], _, h => by cases h; rfl
  | q :: t, _, ⟨p, r, e, h1, _, h2⟩ => by subst e; simp [h1, h2.adr]
theorem Prel.mem {ls : List (Addr × O)} : ∀ {t k : List (Addr × O)}, Prel ls t k → ∀ p ∈ k, ∃ q ∈ t, p.1 = q.1 ∧ FzO ls q.2 p.2
  | [], _, h, p, hp => by cases h; cases hp
  | q :: t, _, ⟨p', r, e, h1, h2, h3⟩, p, hp => by
    subst e
    rcases List.mem_cons.mp hp with rfl | hp
    · exact ⟨q, .head _, h1, h2⟩
    · obtain ⟨q', hq, h⟩ := h3.mem p hp
      exact ⟨q', .tail _ hq, h⟩
/-- a state that says less of the same: owned lists may be dropped, or become values -/
noncomputable def Frz (ls : List (Addr × O)) (a b : St) : Prop := (∃ pre, b.own.Perm (pre ++ ls) ∧ Prel ls pre a.own) ∧ ∀ p ∈ a.vars, ∃ v, b.vars.lookup p.1 = some v ∧ Fz ls v p.2
section
variable {prog : Program} {w : World} {c : Cx} {env : Env} {A : Around} {a b : St} {s : Shared} {ls : List (Addr × O)}
theorem Rep.fz {h : Heap} {o o' : List Addr} (less : ∀ x ∈ o', x ∈ o) (hls : ∀ p ∈ ls, OAt prog w h o p.1 p.2 ∧ p.1 ∉ o') {v u : V} {x : Value} (z : Fz ls v u) (r : Rep h o v x) : Rep h o' u x := by
  rcases z with rfl | ⟨l, vs, rfl, hm, rfl⟩
  · exact r.less less
  · cases r
    obtain ⟨⟨items, p, rs⟩, n⟩ := hls _ hm
    exact ⟨l, items, rfl, n, p, rs.less less⟩
theorem Reps.fz {h : Heap} {o o' : List Addr} (less : ∀ x ∈ o', x ∈ o) (hls : ∀ p ∈ ls, OAt prog w h o p.1 p.2 ∧ p.1 ∉ o') : ∀ {vs us : List V} {xs : List Value}, FzS ls vs us → Reps h o vs xs → Reps h o' us xs
  | [], _, _, z, r => by cases z; cases r; rfl
  | v :: vs, _, _, ⟨u, t, e, z1, z2⟩, ⟨x, k, e', r1, r2⟩ => by
    subst e; subst e'
    exact ⟨x, k, rfl, Rep.fz less hls z1 r1, Reps.fz less hls z2 r2⟩
theorem OptRep.fz {h : Heap} {o o' : List Addr} (less : ∀ x ∈ o', x ∈ o) (hls : ∀ p ∈ ls, OAt prog w h o p.1 p.2 ∧ p.1 ∉ o') {v u : Option V} {x : Option Value} (z : FzOpt ls v u) (r : OptRep h o v x) : OptRep h o' u x := by
  cases v with
  | none => cases z; exact r
  | some v => obtain ⟨y, rfl, z⟩ := z; obtain ⟨val, rfl, r⟩ := r; exact ⟨val, rfl, Rep.fz less hls z r⟩
theorem OAt.fz {h : Heap} {o o' : List Addr} (less : ∀ x ∈ o', x ∈ o) (hls : ∀ p ∈ ls, OAt prog w h o p.1 p.2 ∧ p.1 ∉ o') {q p : O} {x : Addr} (z : FzO ls q p) (r : OAt prog w h o x q) : OAt prog w h o' x p := by
  cases z with
  | same => exact r.move (fun _ e => e) fun b o e n _ => ⟨e, fun q => n (less b q)⟩
  | list z => obtain ⟨items, p, rs⟩ := r; exact ⟨items, p, Reps.fz less hls z rs⟩
  | map z => obtain ⟨g, m, l, rg⟩ := r; exact ⟨g, m, l, fun k => (rg k).fz less hls (z k)⟩
  | attrs z => obtain ⟨g, m, l, rg⟩ := r; exact ⟨g, m, l, fun k => (rg k).fz less hls (z k)⟩
  | cell z => obtain ⟨g, m, rg⟩ := r; exact ⟨g, m, rg.fz less hls z⟩
theorem Frz.less (h : Frz ls a b) : ∀ x ∈ c.adr a, x ∈ c.adr b := fun x hx => by
  obtain ⟨⟨pre, hp, pr⟩, _⟩ := h
  rcases List.mem_append.mp hx with hx | hx
  · rw [pr.adr] at hx
    exact List.mem_append_left _ ((hp.map (·.1)).mem_iff.mpr (by rw [List.map_append]; exact List.mem_append_left _ hx))
  · exact List.mem_append_right _ hx
theorem At.frz (h : Frz ls a b) (x : At prog w c env b s) : At prog w c env a s := by
  have less := h.less (c := c)
  obtain ⟨⟨pre, hp, pr⟩, hv⟩ := h
  have nd := (hp.map (·.1)).nodup_iff.mp x.nodup
  rw [List.map_append] at nd
  have inb : ∀ p ∈ ls, p ∈ b.own := fun p hp' => hp.mem_iff.mpr (List.mem_append_right _ hp')
  have inp : ∀ p ∈ pre, p ∈ b.own := fun p hp' => hp.mem_iff.mpr (List.mem_append_left _ hp')
  have hls : ∀ p ∈ ls, OAt prog w s.heap (c.adr b) p.1 p.2 ∧ p.1 ∉ c.adr a := fun p hp' => ⟨x.own p (inb p hp'), fun q => by
    rcases List.mem_append.mp q with q | q
    · rw [pr.adr] at q
      exact (List.nodup_append.mp nd).2.2 _ q _ (List.mem_map_of_mem hp') rfl
    · exact (x.hid _ q).2.1 (List.mem_map_of_mem (inb p hp'))⟩
  refine ⟨?_, x.keep, fun p hp' => ?_, ?_, fun q => x.off (less _ q), fun p hp' => ?_, x.top, x.low, fun y hy => ?_, x.above, x.gens, x.os⟩
  · obtain ⟨m, n, r⟩ := x.vars
    refine ⟨m, n, fun y v q => ?_⟩
    obtain ⟨v', e, z⟩ := hv _ (mem_of_lookup q)
    obtain ⟨val, h1, h2⟩ := r y v' e
    exact ⟨val, h1, Rep.fz less hls z h2⟩
  · obtain ⟨q, hq, e, z⟩ := pr.mem p hp'
    rw [e]
    exact OAt.fz less hls z (x.own q (inp q hq))
  · show (a.own.map (·.1)).Nodup
    rw [pr.adr]; exact (List.nodup_append.mp nd).1
  · obtain ⟨q, hq, e, z⟩ := pr.mem p hp'
    rw [e]; exact x.fresh q (inp q hq)
  · refine ⟨(x.hid y hy).1, fun q => (x.hid y hy).2.1 ?_, (x.hid y hy).2.2⟩
    rw [pr.adr] at q
    obtain ⟨p, hp', e⟩ := List.mem_map.mp q
    rw [← e]; exact List.mem_map_of_mem (inp p hp')
theorem Wp.frz {α : Type} {t : Sem α} {R : Shared → St → α → Prop} (h : Frz ls a b) (x : Wp prog w c env A t R a s) : Wp prog w c env A t R b s :=
  wpAny_mono x (fun y s' ⟨st', a', F, r⟩ => ⟨st', a', fun z o e n l => F z o e (fun q => n (h.less z q)) l, r⟩) fun _ _ e => e
theorem WS.frz {l : List Stmt} {Q : Fl → St → Prop} (h : Frz ls a b) (x : WS prog w c env A l a Q) : WS prog w c env A l b Q := fun s at' => Wp.frz h (x s (at'.frz h))
end
end Mine
end PtLg29
section PtLg30
open PySem PySem.W PyProof.Rows
namespace Mine
theorem tc_weight (C : Addr) (rest : List Value) (kw : List (Str × Value)) : (Code.builtin "type.__call__" ⟨.ref C :: rest, kw⟩).weight ≤ 1 ∧ (Code.builtin "type.__call__" ⟨.ref C :: rest, kw⟩).cUnits ≤ 20 := by
  constructor <;> exact Nat.le_of_ble_eq_true rfl
section
variable (prog : Program) (w : World)
/-- a call (as code) that may change the objects handed to it -/
noncomputable def Fc (top : Heap) (n : Nat) (f : Value) (args : List V) (objs : List (Addr × O)) (post : V → List (Addr × O) → Prop) : Prop :=
  ∀ (A : Around) (s : Shared) (hid : List Addr) (xs : List Value), AOk n A → (∀ b o, top.get? b = some o → s.heap.get? b = some o) → top.objs.size ≤ s.heap.objs.size →
    Lent prog w top (adrs objs) hid objs s.heap → Reps s.heap (adrs objs ++ hid) args xs →
    codeAny (model prog w) A (.call f ⟨xs, []⟩) (fun r s' => ∃ x, r = .ok (.ret x) ∧ FnP prog w top objs hid s post x s') s
end
section
variable {prog : Program} {w : World} {top : Heap} {n : Nat}
theorem Fc.toFn {f : Value} {args : List V} {objs : List (Addr × O)} {post : V → List (Addr × O) → Prop} (h : Fc prog w top n f args objs post) : Fn prog w top n (fun xs => PySem.call f xs) args objs post :=
  fun A s hid xs hA ht hsz hl r => wpAny_call (codeAny_mono (h A s hid xs hA ht hsz hl r) fun r s' ⟨x, e, p⟩ => by subst e; exact p)
theorem Fc.fn {f : Addr} {o : Obj} {fd : FuncData} {body : List Stmt} {args : List V} {objs : List (Addr × O)} {post : V → List (Addr × O) → Prop} {vars : List (Str × V)} {bind : List Value → List (Str × Value)}
    (ho : top.get? f = some o) (hd : o.data = .func fd) (hb : fd.body = .stmts body) (hcr : top.CodeRec fd.code fd.qualname) (hl : top.NoLimit)
    (hbind : ∀ (s : Shared) (own : List Addr) (xs : List Value), (∀ b o, top.get? b = some o → s.heap.get? b = some o) → (∀ a ∈ own, top.get? a = Option.none) → Reps s.heap own args xs → BindsTo s fd ⟨xs, []⟩ (bind xs) ∧ Bound s.heap own vars (bind xs))
    (hcell : ∀ x ∈ fd.scope.names, x.2 ≠ .cell) (hloc : ∀ x ∈ vars, fd.scope.names.lookup x.1 = some .local) (hnd : (vars.map (·.1)).Nodup)
    (h : ∀ (c : Cx) (L : Addr) (A : Around), AOk n A → c.top = top → WS prog w c (callEnv fd L f) A body ⟨vars, objs⟩ (fun fl st' => post fl.val st'.own))
    (hco : fd.scope.isCoroutine = false) (hgen : fd.scope.isGenerator = false) (hk : fd.scope.kind = .function) :
    Fc prog w top (n + 1) (.ref f) args objs post := by
  intro A s hid xs hA ht hsz hl' r
  obtain ⟨hB, hV⟩ := hbind s _ xs ht (fun a ha => (hl'.top a ha).2) r
  refine codeAny_call_def hA.room (ht _ _ ho) hd (hl.keeps ht) (hcr.keeps ht) hb hB hcell (fun x hx => ?_) (fun h₁ ns k => ?_) hco hgen hk
  · have : x.1 ∈ (bind xs).map (·.1) := List.mem_map_of_mem hx
    rw [hV.names] at this
    obtain ⟨p, hp, e⟩ := List.mem_map.mp this
    rw [← e]; exact hloc p hp
  · have q : Quiet s { s with heap := h₁, toks := s.toks + (bind xs).length } := ⟨k, rfl, rfl⟩
    have at' : At prog w ⟨top, s.heap, adrs objs, hid, s.gens, s.os⟩ (callEnv fd s.heap.objs.size f) ⟨vars, objs⟩ { s with heap := h₁, toks := s.toks + (bind xs).length } := by
      refine ⟨⟨_, ns, fun y v e => ?_⟩, fun b o e _ => k b o e, fun p hp => (hl'.at_ p hp).keeps k, hl'.nodup, ?_, fun p hp => ⟨(hl'.top _ (List.mem_append_left _ (List.mem_map_of_mem hp))).2, .inl (List.mem_map_of_mem hp)⟩, fun b o e => k b o (ht b o e), hsz,
        fun a ha => ⟨(hl'.top a (List.mem_append_right _ ha)).1, hl'.off a ha, hl'.off a ha, (hl'.top a (List.mem_append_right _ ha)).2⟩, Nat.le_refl _, rfl, rfl⟩
      · obtain ⟨x, e1, e2⟩ := hV.lookup e
        refine ⟨x, ?_, ?_⟩
        · show (bind xs).reverse.lookup y = some x
          rw [lookup_reverse' y (by rw [hV.names]; exact hnd)]; exact e1
        · exact e2.quiet q
      · exact fun m => absurd (hl'.top _ m).1 (Nat.lt_irrefl _)
    refine wpAny_mono (h _ _ _ (hA.deeper _) rfl _ at') (fun fl s' p => ?_) (fun _ _ e => e.elim)
    obtain ⟨st', a', F, g, rg, hv⟩ := p
    have L' : Lent prog w top (adrs st'.own) hid st'.own s'.heap := ⟨a'.own, rfl, a'.nodup, fun a ha => (a'.hid a ha).2.1, fun a ha => a'.lt a ha⟩
    have fr : ∀ a ∈ adrs st'.own, a ∈ adrs objs ∨ s.heap.get? a = Option.none := fun a ha => by
      obtain ⟨p, hp, rfl⟩ := List.mem_map.mp ha
      exact (a'.fresh p hp).2
    have kp : ∀ b o, s.heap.get? b = some o → b ∉ adrs objs → s'.heap.get? b = some o := fun b o e n => a'.keep b o e n
    cases g with
    | next => cases rg; exact ⟨_, rfl, .none, _, rfl, L', fr, kp, a'.gens, a'.os, hv⟩
    | brk => cases rg; exact ⟨_, rfl, .none, _, rfl, L', fr, kp, a'.gens, a'.os, hv⟩
    | cont => cases rg; exact ⟨_, rfl, .none, _, rfl, L', fr, kp, a'.gens, a'.os, hv⟩
    | ret u => obtain ⟨x, rfl, rr⟩ := rg; exact ⟨_, rfl, u, _, rr, L', fr, kp, a'.gens, a'.os, hv⟩
theorem Fc.fn0 {f : Addr} {o : Obj} {fd : FuncData} {body : List Stmt} {args : List V} {objs : List (Addr × O)} {post : V → List (Addr × O) → Prop} (names : List Str)
    (ho : top.get? f = some o) (hd : o.data = .func fd) (hb : fd.body = .stmts body) (hcr : top.CodeRec fd.code fd.qualname) (hl : top.NoLimit) (hlen : names.length = args.length)
    (hbind : ∀ xs : List Value, xs.length = names.length → bindArgs fd ⟨xs, []⟩ = pure (names.zip xs))
    (hcell : ∀ x ∈ fd.scope.names, x.2 ≠ .cell) (hloc : ∀ x ∈ names, fd.scope.names.lookup x = some .local) (hnd : names.Nodup)
    (h : ∀ (c : Cx) (L : Addr) (A : Around), AOk n A → c.top = top → WS prog w c (callEnv fd L f) A body ⟨names.zip args, objs⟩ (fun fl st' => post fl.val st'.own))
    (hco : fd.scope.isCoroutine = false) (hgen : fd.scope.isGenerator = false) (hk : fd.scope.kind = .function) :
    Fc prog w top (n + 1) (.ref f) args objs post :=
  Fc.fn (bind := fun xs => names.zip xs) ho hd hb hcr hl (fun s own xs ht _ r => ⟨BindsTo.of_eq (hbind xs (by rw [hlen, r.length])), Bound.zip names hlen r⟩) hcell (fun x hx => hloc _ (by rw [← zip_fst hlen]; exact List.mem_map_of_mem hx)) (by rw [zip_fst hlen]; exact hnd) h hco hgen hk
/-- a class of the text's, called -/
theorem Fc.make {K : Frag} {C fI : Addr} {args : List V} {objs : List (Addr × O)} {post : V → List (Addr × O) → Prop} (X : K.In top) (hm : makesIn K C = true)
    (hi : findIn K (.ref C) "__init__" = some (some (.ref fI))) (hf : typeIn K (.ref fI) = some (.type "function"))
    (h : ∀ x d, x ≠ d → x ∉ adrs objs → d ∉ adrs objs → Fc prog w top n (.ref fI) (.ref x :: args) ((x, .inst C d) :: (d, .attrs (fun _ => Option.none) 0) :: objs) (fun v objs' => v = .none ∧ post (.ref x) objs')) :
    Fc prog w top (n + 1) (.ref C) args objs post := by
  intro A s hid xs hA ht hsz hl r
  obtain ⟨hh, g, dr, t, os⟩ := s
  have XX : K.In hh := X.keeps ht
  refine make_core (makes_of XX hm) (looks_findIn XX hi) (fun self => bind_fn XX self hf) (.inl rfl) ?_
  have k : ∀ b o, hh.get? b = some o → ((hh.push emptyDict).push (instObj C hh.objs.size)).get? b = some o := fun b o e => Heap.get?_push_of_some _ (Heap.get?_push_of_some _ e)
  have z1 : (hh.push emptyDict).objs.size = hh.objs.size + 1 := Heap.size_push ..
  have z2 : ((hh.push emptyDict).push (instObj C hh.objs.size)).objs.size = hh.objs.size + 2 := by rw [Heap.size_push, z1]
  have gx : ((hh.push emptyDict).push (instObj C hh.objs.size)).get? (hh.objs.size + 1) = some (instObj C hh.objs.size) := by
    have := Heap.get?_push_size (hh.push emptyDict) (o := instObj C hh.objs.size) rfl
    rwa [z1] at this
  have gd : ((hh.push emptyDict).push (instObj C hh.objs.size)).get? hh.objs.size = some emptyDict := Heap.get?_push_of_some _ (Heap.get?_push_size _ rfl)
  have lt : ∀ a ∈ adrs objs ++ hid, a < hh.objs.size := fun a ha => (hl.top a ha).1
  have nx : hh.objs.size + 1 ∉ adrs objs ++ hid := fun q => absurd (lt _ q) (Nat.not_lt.mpr (Nat.le_succ _))
  have ndd : hh.objs.size ∉ adrs objs ++ hid := fun q => absurd (lt _ q) (Nat.lt_irrefl _)
  have no1 : ∀ {b : Addr}, b < hh.objs.size → b ≠ hh.objs.size + 1 := fun h q => absurd (q ▸ h) (Nat.not_lt.mpr (Nat.le_succ _))
  have no0 : ∀ {b : Addr}, b < hh.objs.size → b ≠ hh.objs.size := fun h q => absurd (q ▸ h) (Nat.lt_irrefl _)
  have up : ∀ b, hh.objs.size ≤ b → top.get? b = Option.none := fun b hb => none_above (Nat.le_trans hsz hb)
  have sub : ∀ b, b ∈ adrs ((hh.objs.size + 1, O.inst C hh.objs.size) :: (hh.objs.size, O.attrs (fun _ => Option.none) 0) :: objs) ++ hid ↔ b = hh.objs.size + 1 ∨ b = hh.objs.size ∨ b ∈ adrs objs ++ hid := fun b => by simp [adrs]
  have S : Seqs (adrs objs ++ hid) hh (adrs ((hh.objs.size + 1, O.inst C hh.objs.size) :: (hh.objs.size, O.attrs (fun _ => Option.none) 0) :: objs) ++ hid) ((hh.push emptyDict).push (instObj C hh.objs.size)) := fun b o e nb _ => ⟨k b o e, fun q => by
    have := Heap.lt_size e
    rcases (sub b).mp q with q | q | q
    · exact no1 this q
    · exact no0 this q
    · exact nb q⟩
  have hA' : AOk n (A.under (.builtin "type.__call__" ⟨.ref C :: xs, []⟩)) := by
    obtain ⟨h1, h2⟩ := tc_weight C xs []
    refine ⟨hA.handled, ?_, ?_⟩
    · have := hA.depth; show A.depth + _ + n ≤ 990; (first | lia | omega)
    · have := hA.units; show A.units + _ + 20 * n ≤ 9000; (first | lia | omega)
  have L' : Lent prog w top (adrs ((hh.objs.size + 1, O.inst C hh.objs.size) :: (hh.objs.size, O.attrs (fun _ => Option.none) 0) :: objs)) hid ((hh.objs.size + 1, O.inst C hh.objs.size) :: (hh.objs.size, O.attrs (fun _ => Option.none) 0) :: objs) ((hh.push emptyDict).push (instObj C hh.objs.size)) := by
    refine ⟨fun p hp => ?_, rfl, ?_, fun a ha q => ?_, fun a ha => ?_⟩
    · rcases List.mem_cons.mp hp with rfl | hp
      · exact gx
      · rcases List.mem_cons.mp hp with rfl | hp
        · refine ⟨fun _ => Option.none, ?_, fun o es ep e d => ?_, fun _ => rfl⟩
          · exact ⟨_, _, _, gd, rfl, (fun e he => by simp at he), fun x => rfl⟩
          · rw [gd] at e; cases e; cases d; exact Nat.le_refl _
        · exact (hl.at_ p hp).move (fun o e => k _ o e) S
    · refine List.nodup_cons.mpr ⟨fun q => ?_, List.nodup_cons.mpr ⟨fun q => ndd (List.mem_append_left _ q), hl.nodup⟩⟩
      rcases List.mem_cons.mp q with q | q
      · exact absurd q (Nat.succ_ne_self _)
      · exact nx (List.mem_append_left _ q)
    · have := lt a (List.mem_append_right _ ha)
      rcases List.mem_cons.mp q with q | q
      · exact no1 this q
      · rcases List.mem_cons.mp q with q | q
        · exact no0 this q
        · exact hl.off a ha q
    · rw [z2]
      rcases (sub a).mp ha with q | q | q
      · subst q; exact ⟨Nat.lt_succ_self _, up _ (Nat.le_succ _)⟩
      · subst q; exact ⟨Nat.lt_succ_of_lt (Nat.lt_succ_self _), up _ (Nat.le_refl _)⟩
      · exact ⟨Nat.lt_succ_of_lt (Nat.lt_succ_of_lt (lt a q)), (hl.top a q).2⟩
  refine codeAny_mono (h (hh.objs.size + 1) hh.objs.size (Nat.succ_ne_self _) (fun q => nx (List.mem_append_left _ q)) (fun q => ndd (List.mem_append_left _ q)) _ ⟨(hh.push emptyDict).push (instObj C hh.objs.size), g, dr, t, os⟩ hid (.ref (hh.objs.size + 1) :: xs) hA' (fun b o e => k b o (ht b o e)) (by rw [z2]; exact Nat.le_trans hsz (Nat.le_succ_of_le (Nat.le_succ _))) L' ⟨_, _, rfl, rfl, Reps.seqs S _ _ r⟩) fun r s' p => ?_
  obtain ⟨x, rfl, v, objs', rv, L1, fr, kp, hg, ho, rfl, po⟩ := p
  cases rv
  refine ⟨rfl, _, rfl, .ref (hh.objs.size + 1), objs', rfl, L1, fun a ha => ?_, fun b o e nb => ?_, hg, ho, po⟩
  · have nn : ∀ b, hh.objs.size ≤ b → hh.get? b = Option.none := fun b hb => none_above hb
    rcases fr a ha with q | q
    · rcases List.mem_cons.mp q with q | q
      · have q' : a = hh.objs.size + 1 := q
        exact .inr (nn a (by rw [q']; exact Nat.le_succ _))
      · rcases List.mem_cons.mp q with q | q
        · have q' : a = hh.objs.size := q
          exact .inr (nn a (by rw [q']; exact Nat.le_refl _))
        · exact .inl q
    · refine .inr ?_
      cases e : hh.get? a with
      | none => rfl
      | some o => rw [show ((hh.push emptyDict).push (instObj C hh.objs.size)).get? a = some o from k a o e] at q; cases q
  · refine kp b o (k b o e) fun q => ?_
    have := Heap.lt_size e
    rcases List.mem_cons.mp q with q | q
    · exact no1 this q
    · rcases List.mem_cons.mp q with q | q
      · exact no0 this q
      · exact nb q
end
end Mine
end PtLg30
section PtSb
open PySem PySem.W PyProof.Rows
namespace Mine
noncomputable def entriesOf : Obj → Array DictEntry
  | ⟨_, _, .dict es _, _⟩ => es
  | _ => #[]
/-- the text's globals -/
noncomputable def gl (P : Params) (x : Str) : Option Value := nsFind (entriesOf (o3 P)) x
/-- what the top holds -/
structure Tp (w : World) (mb : Str → Option Value) (top : Heap) : Prop where
  k : (KK w.params).In top
  g : top.Ns mainGlobals (gl w.params)
  b : top.Ns builtinsNs mb
  lim : top.NoLimit
  bi : ∀ x : Str, x ≠ "__name__" → mb x = bootBuiltins x
section
variable {prog : Program} {w : World} {mb : Str → Option Value} {top : Heap} {c : Cx} {env : Env} {A : Around} {st : St} {Q : V → St → Prop}
/-- a builtin's name -/
theorem W.blt {x : Str} {pos : Pos} {v : Value} (T : Tp w mb c.top) (h : Q (.con v) st) (hn : gl w.params x = Option.none := by rfl) (hv : bootBuiltins x = some v := by rfl) (hx : x ≠ "__name__" := by decide)
    (hg : env.globals = mainGlobals := by rfl) (hb : env.builtins = builtinsNs := by rfl) (hk : env.scope.kind = .function := by rfl) (hl : env.kindOf x = some .globalImplicit := by rfl) (hd : (x == ("__debug__" : Str)) = false := by decide) : W prog w c env A (.Name x pos) st Q :=
  W.bi (mg := gl w.params) (mb := mb) (by rw [hg]; exact T.g) hn (by rw [hb]; exact T.b) (by rw [T.bi x hx]; exact hv) h hk hl hd
/-- a name of the text's -/
theorem W.own {x : Str} {pos : Pos} {v : Value} (T : Tp w mb c.top) (h : Q (.con v) st) (hn : gl w.params x = some v := by rfl)
    (hg : env.globals = mainGlobals := by rfl) (hk : env.scope.kind = .function := by rfl) (hl : env.kindOf x = some .globalImplicit := by rfl) (hd : (x == ("__debug__" : Str)) = false := by decide) : W prog w c env A (.Name x pos) st Q :=
  W.glob (mg := gl w.params) (by rw [hg]; exact T.g) hn h hk hl hd
end
theorem smOk (P : Params) : ClsOk (KK P) 242 := ⟨by rfl, by rfl, by rfl, by rfl, by rfl⟩
noncomputable def iL (l : List Int) : V := .lst (l.map V.int)
noncomputable def V.isn : V → Option Bool
  | .none => some true
  | .con _ => Option.none
  | _ => some false
section
variable {prog : Program} {w : World} {top : Heap} {n : Nat}
theorem is_any {v : V} {b : Bool} (e : v.isn = some b) {h : Heap} {own : List Addr} {x : Value} (r : Rep h own v x) : plainIs x .none = true ∧ (x = .none ∧ b = true ∨ (b = false ∧ x ≠ .none)) := by
  cases v <;> cases e
  · cases r; exact ⟨rfl, .inl ⟨rfl, rfl⟩⟩
  · cases r; exact ⟨rfl, .inr ⟨rfl, fun q => by cases q⟩⟩
  · obtain ⟨_, rfl⟩ := r; exact ⟨rfl, .inr ⟨rfl, fun q => by cases q⟩⟩
  · obtain ⟨_, rfl⟩ := r; exact ⟨rfl, .inr ⟨rfl, fun q => by cases q⟩⟩
  · cases r; exact ⟨rfl, .inr ⟨rfl, fun q => by cases q⟩⟩
  · obtain ⟨_, _, rfl, _⟩ := r; exact ⟨rfl, .inr ⟨rfl, fun q => by cases q⟩⟩
  · obtain ⟨_, rfl, _⟩ := r; exact ⟨rfl, .inr ⟨rfl, fun q => by cases q⟩⟩
  · obtain ⟨_, _, _, _, rfl, _⟩ := r; exact ⟨rfl, .inr ⟨rfl, fun q => by cases q⟩⟩
  · obtain ⟨_, _, rfl, _⟩ := r; exact ⟨rfl, .inr ⟨rfl, fun q => by cases q⟩⟩
  · obtain ⟨_, _, rfl, _⟩ := r; exact ⟨rfl, .inr ⟨rfl, fun q => by cases q⟩⟩
  · obtain ⟨_, _, rfl, _⟩ := r; exact ⟨rfl, .inr ⟨rfl, fun q => by cases q⟩⟩
end
end Mine
end PtSb
section PtS2
open PySem PySem.W PyProof.Rows
namespace Mine
section
variable {prog : Program} {w : World} {top : Heap} {n : Nat}
theorem Op.isNone {v : V} {b : Bool} (e : v.isn = some b) : Op prog w top n (fun xs => compareOp .Is (xs.getD 0 .none) (xs.getD 1 .none)) [v, .none] (.bool b) := by
  rintro A s own xs _ _ _ _ ⟨x, r, rfl, rv, y, r', rfl, rfl, rfl⟩
  obtain ⟨pi, z⟩ := is_any e rv
  rcases z with ⟨rfl, rfl⟩ | ⟨rfl, ne⟩
  · exact wpAny_is_plain pi ⟨rfl, Quiet.refl _⟩
  · exact wpAny_is_other pi ne ⟨rfl, Quiet.refl _⟩
theorem Op.isntNone {v : V} {b : Bool} (e : v.isn = some b) : Op prog w top n (fun xs => compareOp .IsNot (xs.getD 0 .none) (xs.getD 1 .none)) [v, .none] (.bool (!b)) := by
  rintro A s own xs _ _ _ _ ⟨x, r, rfl, rv, y, r', rfl, rfl, rfl⟩
  obtain ⟨pi, z⟩ := is_any e rv
  rcases z with ⟨rfl, rfl⟩ | ⟨rfl, ne⟩
  · exact wpAny_isNot_plain pi ⟨rfl, Quiet.refl _⟩
  · refine wpAny_isNot_plain pi ⟨?_, Quiet.refl _⟩
    show Value.bool (!(x == .none)) = _
    rw [beq_eq_false_iff_ne.mpr ne]
end
noncomputable def nx (f : Str → Option V) (name : Str) (n : Nat) : Nat := if (f name).isSome then n else n + 1
theorem nx_ok (f : Str → Option V) (name : Str) (n : Nat) : nx f name n = n + 1 ∨ (nx f name n = n ∧ (f name).isSome = true) := by
  unfold nx; split
  · rename_i h; exact .inr ⟨rfl, h⟩
  · exact .inl rfl
theorem nx_le (f : Str → Option V) (name : Str) (n : Nat) : nx f name n ≤ n + 1 := by unfold nx; split <;> (first | lia | omega)
theorem nx_b {f : Str → Option V} {name : Str} {n k m : Nat} (h : n + (k + 1) ≤ m) : nx f name n + k ≤ m := by have := nx_le f name n; (first | lia | omega)
noncomputable def fsets (f : Str → Option V) : List (Str × V) → Str → Option V
  | [] => f
  | (x, v) :: r => fsets (fset f x v) r
noncomputable def nxs (f : Str → Option V) : List (Str × V) → Nat → Nat
  | [], n => n
  | (x, v) :: r, n => nxs (fset f x v) r (nx f x n)
theorem fsets_get (y : Str) : ∀ (l : List (Str × V)) (f : Str → Option V), fsets f l y = (l.reverse.lookup y).or (f y)
  | [], f => by simp [fsets]
  | (x, v) :: r, f => by
    rw [fsets, fsets_get y r, List.reverse_cons, lookup_append']
    simp only [List.lookup_cons, List.lookup_nil, fset]
    cases r.reverse.lookup y with
    | some u => simp
    | none =>
      by_cases h : y = x
      · subst h; simp
      · have : (y == x) = false := by simpa using h
        simp [h, this]
theorem nxs_le : ∀ (l : List (Str × V)) (f : Str → Option V) (n : Nat), nxs f l n ≤ n + l.length
  | [], f, n => Nat.le_refl _
  | (x, v) :: r, f, n => by
    have h1 := nxs_le r (fset f x v) (nx f x n)
    have h2 := nx_le f x n
    show nxs (fset f x v) r (nx f x n) ≤ n + (r.length + 1)
    (first | lia | omega)
theorem Perm.all (l : List (Addr × O)) : l.Perm (l ++ []) := by rw [List.append_nil]
theorem fs_same (f : Str → Option V) (x : Str) (v : V) : fset f x v x = some v := by simp [fset]
theorem fs_other (f : Str → Option V) {x y : Str} (v : V) (h : y ≠ x) : fset f x v y = f y := by simp [fset, h]
section
variable {prog : Program} {w : World} {mb : Str → Option Value} {top : Heap}
noncomputable def seq1L (v : V) : List (Str × V) := [("a", v), ("matching_blocks", .none), ("opcodes", .none)]
/-- set_seq1: at the first call -/
theorem set_seq1_fn (T : Tp w mb top) {x d : Addr} {f : Str → Option V} {z : Nat} {v : V} (hv : v.isn = some false) (ha : f "a" = some .none) (hz : z + 3 ≤ 1000) :
    Fc prog w top 5 (.ref 174) [.ref x, v] [(x, .inst 242 d), (d, .attrs f z)]
      (fun u objs => u = .none ∧ objs = [(x, .inst 242 d), (d, .attrs (fsets f (seq1L v)) (nxs f (seq1L v) z))]) := by
  refine Fc.fn0 (n := 4) ["self", "a"] (T.k 174 _ (by rfl)) rfl rfl (codeRec_of T.k (by rfl)) T.lim rfl ?_ (by decide) (by decide) (by decide) ?_ rfl rfl rfl
  · exact lenS fun a => lenS fun b => len0 rfl
  · intro c L A hA hc
    subst hc
    refine WS.cons (WX.expr (W.str ?_))
    dsimp only
    refine WS.cons (WX.ifs (WB.cmp hA (W.loc rfl (W.attr T.k (smOk _) (W.loc rfl ⟨x, d, _, _, _, rfl, .head _, .tail _ (.head _), ha, rfl, _, Op.isNone hv, ?_⟩)))))
    rw [if_neg (by decide)]
    refine WS.nil ?_
    dsimp only
    refine WS.cons (WX.setAttr T.k (smOk _) (W.loc rfl (W.loc rfl ⟨x, d, _, _, _, _, rfl, .head _, .tail .head, nx_ok _ _ _, by (show _ + 0 ≤ _; (repeat refine nx_b ?_); (first | lia | omega)), ?_⟩)))
    dsimp only
    refine WS.cons (WX.assign2 (W.none (WF.attr T.k (smOk _) (W.loc rfl ⟨x, d, _, _, _, _, rfl, .head _, .tail .head, nx_ok _ _ _, by (show _ + 0 ≤ _; (repeat refine nx_b ?_); (first | lia | omega)), WF.attr T.k (smOk _) (W.loc rfl ⟨x, d, _, _, _, _, rfl, .head _, .tail .head, nx_ok _ _ _, by (show _ + 0 ≤ _; (repeat refine nx_b ?_); (first | lia | omega)), ?_⟩)⟩))))
    exact WS.nil ⟨rfl, rfl⟩
end
/-- where an item stands among the first k -/
noncomputable def idxs (b : List Int) (k : Nat) (e : Int) : List Nat := (List.range k).filter fun i => b[i]? == some e
theorem idxs_succ (b : List Int) (k : Nat) (e : Int) : idxs b (k + 1) e = if b[k]? = some e then idxs b k e ++ [k] else idxs b k e := by
  unfold idxs
  rw [List.range_succ, List.filter_append]
  by_cases h : b[k]? = some e <;> simp [h]
noncomputable def nL (l : List Nat) : List V := l.map fun (i : Nat) => V.int (i : Int)
noncomputable def lsT (b : List Int) (k : Nat) (tbl : List (Int × Addr)) : List (Addr × O) := tbl.map fun p => (p.2, O.list (nL (idxs b k p.1)))
noncomputable def mpT (tbl : List (Int × Addr)) : Int → Option V := fun e => (tbl.lookup e).map V.ref
theorem lsT_same {b : List Int} {k : Nat} {e : Int} (he : b[k]? = some e) : ∀ {tbl : List (Int × Addr)}, e ∉ tbl.map (·.1) → lsT b (k + 1) tbl = lsT b k tbl
  | [], _ => rfl
  | (e', a) :: tbl, h => by
    simp only [List.map_cons, List.mem_cons, not_or] at h
    have : idxs b (k + 1) e' = idxs b k e' := by rw [idxs_succ, if_neg (by rw [he]; intro q; exact h.1 (Option.some.inj q))]
    show (a, O.list (nL (idxs b (k + 1) e'))) :: lsT b (k + 1) tbl = (a, O.list (nL (idxs b k e'))) :: lsT b k tbl
    rw [this, lsT_same he h.2]
theorem lsT_upd {b : List Int} {k : Nat} {e : Int} {a : Addr} (he : b[k]? = some e) : ∀ {tbl : List (Int × Addr)}, (tbl.map (·.1)).Nodup → tbl.lookup e = some a → Upd a (.list (nL (idxs b k e))) (.list (nL (idxs b k e) ++ [V.int k])) (lsT b k tbl) (lsT b (k + 1) tbl)
  | (e', a') :: tbl, nd, h => by
    simp only [List.map_cons, List.nodup_cons] at nd
    rw [List.lookup_cons] at h
    show Upd a _ _ ((a', O.list (nL (idxs b k e'))) :: lsT b k tbl) ((a', O.list (nL (idxs b (k + 1) e'))) :: lsT b (k + 1) tbl)
    cases hq : e == e' with
    | true =>
      rw [hq] at h
      cases h
      have : e = e' := by simpa using hq
      subst this
      rw [lsT_same he nd.1, idxs_succ, if_pos he]
      have q : nL (idxs b k e ++ [k]) = nL (idxs b k e) ++ [V.int k] := by simp [nL]
      rw [q]; exact .head
    | false =>
      rw [hq] at h
      have ne : e ≠ e' := by simpa using hq
      have : idxs b (k + 1) e' = idxs b k e' := by rw [idxs_succ, if_neg (by rw [he]; intro q; exact ne (Option.some.inj q))]
      rw [this]
      exact .tail (lsT_upd he nd.2 h)
structure Tb (b : List Int) (k : Nat) (tbl : List (Int × Addr)) : Prop where
  nd : (tbl.map (·.1)).Nodup
  mem : ∀ e, tbl.lookup e = none ↔ idxs b k e = []
  le : tbl.length ≤ k
noncomputable def b2jV (b : List Int) : Int → Option V := fun e => if idxs b b.length e = [] then none else some (.lst (nL (idxs b b.length e)))
theorem lookup_mem {α : Type} : ∀ {l : List (Int × α)} {x : Int} {v : α}, l.lookup x = some v → (x, v) ∈ l
  | (z, u) :: l, x, v, h => by
    rw [List.lookup_cons] at h
    cases hz : x == z with
    | true => rw [hz] at h; cases h; rw [show x = z by simpa using hz]; exact .head _
    | false => rw [hz] at h; exact .tail _ (lookup_mem h)
theorem lookup_none_mem {α : Type} : ∀ {l : List (Int × α)} {x : Int}, l.lookup x = none → x ∉ l.map (·.1)
  | [], _, _ => by simp
  | (z, u) :: l, x, h => by
    rw [List.lookup_cons] at h
    cases hz : x == z with
    | true => rw [hz] at h; cases h
    | false =>
      rw [hz] at h
      have : x ≠ z := by simpa using hz
      simp only [List.map_cons, List.mem_cons, not_or]
      exact ⟨this, lookup_none_mem h⟩
theorem Tb.old {b : List Int} {k : Nat} {tbl : List (Int × Addr)} {e : Int} {a : Addr} (T : Tb b k tbl) (he : b[k]? = some e) (h : tbl.lookup e = some a) : Tb b (k + 1) tbl := by
  refine ⟨T.nd, fun e' => ?_, Nat.le_succ_of_le T.le⟩
  rw [idxs_succ]
  by_cases q : e' = e
  · subst q; rw [if_pos he, h]; simp
  · rw [if_neg (by rw [he]; intro z; exact q (Option.some.inj z).symm)]; exact T.mem e'
theorem Tb.new {b : List Int} {k : Nat} {tbl : List (Int × Addr)} {e : Int} {a : Addr} (T : Tb b k tbl) (he : b[k]? = some e) (h : tbl.lookup e = none) : Tb b (k + 1) ((e, a) :: tbl) := by
  refine ⟨List.nodup_cons.mpr ⟨lookup_none_mem h, T.nd⟩, fun e' => ?_, Nat.succ_le_succ T.le⟩
  rw [idxs_succ, List.lookup_cons]
  by_cases q : e' = e
  · subst q; rw [if_pos he]; simp
  · have : (e' == e) = false := by simpa using q
    rw [if_neg (by rw [he]; intro z; exact q (Option.some.inj z).symm), this]; exact T.mem e'
theorem mpT_new (tbl : List (Int × Addr)) (e : Int) (a : Addr) : mset (mpT tbl) e (.ref a) = mpT ((e, a) :: tbl) := by
  funext y
  unfold mset mpT
  rw [List.lookup_cons]
  by_cases q : y = e
  · subst q; simp
  · have : (y == e) = false := by simpa using q
    rw [if_neg q, this]
theorem lsT_new {b : List Int} {k : Nat} {tbl : List (Int × Addr)} {e : Int} {a : Addr} (he : b[k]? = some e) (h : tbl.lookup e = none) (T : Tb b k tbl) : lsT b (k + 1) ((e, a) :: tbl) = (a, O.list [V.int k]) :: lsT b k tbl := by
  show (a, O.list (nL (idxs b (k + 1) e))) :: lsT b (k + 1) tbl = _
  rw [lsT_same he (lookup_none_mem h), idxs_succ, if_pos he, (T.mem e).mp h]
  rfl
theorem b2j_fz {b : List Int} {tbl : List (Int × Addr)} (T : Tb b b.length tbl) (e : Int) : FzOpt (lsT b b.length tbl) (mpT tbl e) (b2jV b e) := by
  unfold mpT b2jV
  cases h : tbl.lookup e with
  | none => rw [if_pos ((T.mem e).mp h)]; rfl
  | some a =>
    rw [if_neg (fun q => by rw [(T.mem e).mpr q] at h; cases h)]
    exact ⟨_, rfl, .inr ⟨a, _, rfl, List.mem_map_of_mem (lookup_mem h), rfl⟩⟩
end Mine
end PtS2
section PtLg31
open PySem PySem.W PyProof.Rows
namespace Mine
section
variable {prog : Program} {w : World} {c : Cx} {env : Env} {A : Around} {a b : St} {s : Shared} {ls : List (Addr × O)}
theorem WF.le {f : Value → Sem Unit} {v : V} {Q : St → Prop} (h : Le a b) (x : WF prog w c env A f v a Q) : WF prog w c env A f v b Q := fun s val at' r => Wp.le h (x s val (at'.le h) (by
  have e' : c.adr a = c.adr b := by unfold Cx.adr; rw [h.1]
  rw [e']; exact r))
theorem Perm.drop1 {p : Addr × O} {l : List (Addr × O)} : (p :: l).Perm (l ++ [p]) := (List.perm_append_comm (l₁ := [p]) (l₂ := l))
end
end Mine
end PtLg31
section PtS3
open PySem PySem.W PyProof.Rows
namespace Mine
section
variable {prog : Program} {w : World} {mb : Str → Option Value} {top : Heap}
noncomputable def chainL (m : Addr) : List (Str × V) := [("b2j", .ref m), ("bjunk", .eset), ("bpopular", .eset)]
theorem enum_get {b : List Int} {k : Nat} {u : V} (h : ((enumV (b.map V.int)).map V.tup)[k]? = some u) : ∃ e, b[k]? = some e ∧ u = .tup [.int k, .int e] := by
  simp only [enumV, List.getElem?_map, List.getElem?_mapIdx, Option.map_map, Option.map_eq_some_iff] at h
  obtain ⟨e, he, rfl⟩ := h
  exact ⟨e, he, rfl⟩
/-- __chain_b, with no junk -/
theorem chain_b_fn (T : Tp w mb top) {x d : Addr} {f : Str → Option V} {z : Nat} {b : List Int} {aj : Bool} (hb : f "b" = some (iL b)) (hj : f "isjunk" = some .none) (ha : f "autojunk" = some (.bool aj)) (hz : z + 3 ≤ 1000) (hl : b.length < 200) :
    Fc prog w top 5 (.ref 188) [.ref x] [(x, .inst 242 d), (d, .attrs f z)]
      (fun u objs => u = .none ∧ ∃ m n, (m == sysModules) = false ∧ objs = [(x, .inst 242 d), (d, .attrs (fsets f (chainL m)) (nxs f (chainL m) z)), (m, .map (b2jV b) n)]) := by
  refine Fc.fn0 (n := 4) ["self"] (T.k 188 _ (by rfl)) rfl rfl (codeRec_of T.k (by rfl)) T.lim rfl ?_ (by decide) (by decide) (by decide) ?_ rfl rfl rfl
  · exact lenS fun a => len0 rfl
  · intro c L A hA hc
    subst hc
    have hs : sizeLine = 16777216 := rfl
    refine WS.cons (WX.assign (W.attr T.k (smOk _) (W.loc rfl ⟨x, d, _, _, _, rfl, .head _, .tail _ (.head _), hb, rfl, ?_⟩)))
    dsimp only
    refine WS.cons (WX.assign2 (W.dict0 T.lim fun m hm hms => WF.attr T.k (smOk _) (W.loc rfl ⟨x, d, _, _, _, _, rfl, .tail _ (.head _), .tail (.tail .head), nx_ok _ _ _, by (show _ + 0 ≤ _; (repeat refine nx_b ?_); (first | lia | omega)), WF.name ?_⟩)))
    dsimp only
    refine WS.seq (fun st => ∃ tbl, Tb b b.length tbl ∧ ∃ n, n ≤ b.length ∧ Le ⟨[("self", .ref x), ("b", iL b), ("b2j", .ref m)], (m, .map (mpT tbl) n) :: (x, .inst 242 d) :: (d, .attrs (fset f "b2j" (.ref m)) (nx f "b2j" z)) :: lsT b b.length tbl⟩ st)
      (WX.for (WI.enum hA.handled (W.blt T ⟨rfl, W.loc rfl ⟨_, rfl, fun k st => ∃ tbl, Tb b k tbl ∧ ∃ n, n ≤ k ∧ Le ⟨[("self", .ref x), ("b", iL b), ("b2j", .ref m)], (m, .map (mpT tbl) n) :: (x, .inst 242 d) :: (d, .attrs (fset f "b2j" (.ref m)) (nx f "b2j" z)) :: lsT b k tbl⟩ st, ?_, ?_, ?_⟩⟩))) ?_
    · exact ⟨[], ⟨List.nodup_nil, fun e => by simp [idxs], Nat.le_refl _⟩, 0, Nat.le_refl _, rfl, by (repeat' (first | exact List.forall_mem_nil _ | refine List.forall_mem_cons.mpr ⟨rfl, ?_⟩))⟩
    · rintro k st₂ u hu ⟨tbl, hT, n, hn, hle⟩
      obtain ⟨e, he, rfl⟩ := enum_get hu
      have hk : k < b.length := (List.getElem?_eq_some_iff.mp he).1
      refine WF.le hle (WF.tup hA Unp.tup (WFs.cons (WF.name (WFs.cons (WF.name (WFs.nil ?_))))))
      refine WS.cons (WX.assign (W.bmeth (W.loc rfl ⟨_, Mth.map F.slot_dict_setdefault F.type_dict_setdefault (.head _), WL.cons (W.loc rfl (WL.cons (W.listO (WL.nil ⟨Nat.zero_le _, fun l hl => WL.nil (WC.setdefault (.tail .head) hms (by (first | lia | omega)) ?_ ?_)⟩))))⟩)))
      · intro u hu
        dsimp only
        obtain ⟨a, ha, rfl⟩ : ∃ a, tbl.lookup e = some a ∧ u = .ref a := by
          unfold mpT at hu
          obtain ⟨a, ha, rfl⟩ := Option.map_eq_some_iff.mp hu
          exact ⟨a, ha, rfl⟩
        have hup := lsT_upd he hT.nd ha
        refine WS.cons (WX.expr (W.bmeth (W.loc rfl ⟨_, Mth.list F.slot_list_append F.type_list_append (.tail _ (.tail _ (.tail _ (.tail _ hup.mem)))), WL.cons (W.loc rfl (WL.nil (WC.append (.tail (.tail (.tail (.tail hup)))) (by simp only [nL, idxs, List.length_map]; exact Nat.le_trans (List.length_filter_le _ _) (by simp; (first | lia | omega))) ?_)))⟩)))
        dsimp only
        refine WS.frz (a := ⟨[("self", .ref x), ("b", iL b), ("b2j", .ref m)], (m, .map (mpT tbl) n) :: (x, .inst 242 d) :: (d, .attrs (fset f "b2j" (.ref m)) (nx f "b2j" z)) :: lsT b (k + 1) tbl⟩) (ls := [(l, .list [])]) ⟨⟨_, Perm.drop1, Prel.refl _ _⟩, ?_⟩ ?_
        · (repeat' (first | exact List.forall_mem_nil _ | refine List.forall_mem_cons.mpr ⟨⟨_, rfl, .inl rfl⟩, ?_⟩))
        · exact WS.nil ⟨tbl, hT.old he ha, n, by (first | lia | omega), rfl, by (repeat' (first | exact List.forall_mem_nil _ | refine List.forall_mem_cons.mpr ⟨rfl, ?_⟩))⟩
      · intro hu
        dsimp only
        have ha : tbl.lookup e = Option.none := by unfold mpT at hu; simpa using hu
        refine WS.cons (WX.expr (W.bmeth (W.loc rfl ⟨_, Mth.list F.slot_list_append F.type_list_append (.head _), WL.cons (W.loc rfl (WL.nil (WC.append .head (Nat.zero_le _) ?_)))⟩)))
        dsimp only
        rw [mpT_new]
        refine WS.frz (a := ⟨[("self", .ref x), ("b", iL b), ("b2j", .ref m)], (m, .map (mpT ((e, l) :: tbl)) (n + 1)) :: (x, .inst 242 d) :: (d, .attrs (fset f "b2j" (.ref m)) (nx f "b2j" z)) :: lsT b (k + 1) ((e, l) :: tbl)⟩) (ls := []) ⟨⟨_, ?_, Prel.refl _ _⟩, ?_⟩ ?_
        · rw [lsT_new he ha hT, List.append_nil]
          exact (List.Perm.swap _ _ _).trans (.cons _ ((List.Perm.swap _ _ _).trans (.cons _ (List.Perm.swap _ _ _))))
        · (repeat' (first | exact List.forall_mem_nil _ | refine List.forall_mem_cons.mpr ⟨⟨_, rfl, .inl rfl⟩, ?_⟩))
        · exact WS.nil ⟨_, hT.new he ha, n + 1, by (first | lia | omega), rfl, by (repeat' (first | exact List.forall_mem_nil _ | refine List.forall_mem_cons.mpr ⟨rfl, ?_⟩))⟩
    · rintro st₂ hj
      rw [show ((enumV (b.map V.int)).map V.tup).length = b.length by simp [enumV]] at hj
      exact hj
    · rintro st' ⟨tbl, hT, n, hn, hle⟩
      refine WS.le hle ?_
      refine WS.frz (a := ⟨[("self", .ref x), ("b", iL b)], [(x, .inst 242 d), (d, .attrs (fset f "b2j" (.ref m)) (nx f "b2j" z)), (m, .map (b2jV b) n)]⟩) (ls := lsT b b.length tbl)
        ⟨⟨[(x, .inst 242 d), (d, .attrs (fset f "b2j" (.ref m)) (nx f "b2j" z)), (m, .map (mpT tbl) n)], ?_, ⟨_, _, rfl, rfl, .same _, _, _, rfl, rfl, .same _, _, _, rfl, rfl, .map (b2j_fz hT), rfl⟩⟩, ?_⟩ ?_
      · exact (List.Perm.swap _ _ _).trans (.cons _ (List.Perm.swap _ _ _))
      · (repeat' (first | exact List.forall_mem_nil _ | refine List.forall_mem_cons.mpr ⟨⟨_, rfl, .inl rfl⟩, ?_⟩))
      have hj' : (fset (fset f "b2j" (.ref m)) "bjunk" .eset) "isjunk" = some .none := by rw [fs_other _ _ (by decide), fs_other _ _ (by decide)]; exact hj
      have ha' : (fset (fset (fset f "b2j" (.ref m)) "bjunk" .eset) "bpopular" .eset) "autojunk" = some (.bool aj) := by rw [fs_other _ _ (by decide), fs_other _ _ (by decide), fs_other _ _ (by decide)]; exact ha
      refine WS.cons (WX.assign2 (W.call hA (W.blt T ⟨_, rfl, Kpt.type, WL.nil ⟨_, Op.set0, WF.attr T.k (smOk _) (W.loc rfl ⟨x, d, _, _, _, _, rfl, .head _, .tail .head, nx_ok _ _ _, by (show _ + 0 ≤ _; (repeat refine nx_b ?_); (first | lia | omega)), WF.name ?_⟩)⟩⟩)))
      refine WS.cons (WX.assign (W.attr T.k (smOk _) (W.loc rfl ⟨x, d, _, _, _, rfl, .head _, .tail _ (.head _), hj', rfl, ?_⟩)))
      refine WS.cons (WX.ifs (WB.val (W.loc rfl ⟨_, Tru.none, ?_⟩)))
      rw [if_neg (by decide)]
      refine WS.nil ?_
      refine WS.cons (WX.assign2 (W.call hA (W.blt T ⟨_, rfl, Kpt.type, WL.nil ⟨_, Op.set0, WF.attr T.k (smOk _) (W.loc rfl ⟨x, d, _, _, _, _, rfl, .head _, .tail .head, nx_ok _ _ _, by (show _ + 0 ≤ _; (repeat refine nx_b ?_); (first | lia | omega)), WF.name ?_⟩)⟩⟩)))
      refine WS.cons (WX.assign (W.call hA (W.blt T ⟨_, rfl, Kpt.builtin, WL.cons (W.loc rfl (WL.nil ⟨_, Op.len (by simp; (first | lia | omega)), ?_⟩))⟩)))
      refine WS.cons (WX.ifs (WB.and (WB.val (W.attr T.k (smOk _) (W.loc rfl ⟨x, d, _, _, _, rfl, .head _, .tail _ (.head _), ha', rfl, _, Tru.bool, ?_⟩)))))
      cases aj with
      | false =>
        rw [if_neg (by decide), if_neg (by decide)]
        exact WS.nil (WS.nil ⟨rfl, m, n, hms, rfl⟩)
      | true =>
        rw [if_pos rfl]
        refine WB.and (WB.cmp hA (W.loc rfl (W.int ⟨_, Op.ge, ?_⟩)))
        rw [if_neg (by simp; (first | lia | omega)), if_neg (by decide)]
        exact WS.nil (WS.nil ⟨rfl, m, n, hms, rfl⟩)
noncomputable def seq2L (v : V) : List (Str × V) := [("b", v), ("matching_blocks", .none), ("opcodes", .none), ("fullbcount", .none)]
/-- set_seq2: at the first call -/
theorem set_seq2_fn (T : Tp w mb top) {x d : Addr} {f : Str → Option V} {z : Nat} {b : List Int} {aj : Bool} (hb : f "b" = some .none) (hj : f "isjunk" = some .none) (ha : f "autojunk" = some (.bool aj)) (hcb : f "_SequenceMatcher__chain_b" = Option.none) (hz : z + 7 ≤ 1000) (hl : b.length < 200) :
    Fc prog w top 7 (.ref 181) [.ref x, iL b] [(x, .inst 242 d), (d, .attrs f z)]
      (fun u objs => u = .none ∧ ∃ m n, (m == sysModules) = false ∧ objs = [(x, .inst 242 d), (d, .attrs (fsets f (seq2L (iL b) ++ chainL m)) (nxs f (seq2L (iL b) ++ chainL m) z)), (m, .map (b2jV b) n)]) := by
  refine Fc.fn0 (n := 6) ["self", "b"] (T.k 181 _ (by rfl)) rfl rfl (codeRec_of T.k (by rfl)) T.lim rfl ?_ (by decide) (by decide) (by decide) ?_ rfl rfl rfl
  · exact lenS fun a => lenS fun b => len0 rfl
  · intro c L A hA hc
    subst hc
    refine WS.cons (WX.expr (W.str ?_))
    refine WS.cons (WX.ifs (WB.cmp hA (W.loc rfl (W.attr T.k (smOk _) (W.loc rfl ⟨x, d, _, _, _, rfl, .head _, .tail _ (.head _), hb, rfl, _, Op.isNone (b := false) rfl, ?_⟩)))))
    rw [if_neg (by decide)]
    refine WS.nil ?_
    refine WS.cons (WX.setAttr T.k (smOk _) (W.loc rfl (W.loc rfl ⟨x, d, _, _, _, _, rfl, .head _, .tail .head, nx_ok _ _ _, by (show _ + 0 ≤ _; (repeat refine nx_b ?_); (first | lia | omega)), ?_⟩)))
    refine WS.cons (WX.assign2 (W.none (WF.attr T.k (smOk _) (W.loc rfl ⟨x, d, _, _, _, _, rfl, .head _, .tail .head, nx_ok _ _ _, by (show _ + 0 ≤ _; (repeat refine nx_b ?_); (first | lia | omega)), WF.attr T.k (smOk _) (W.loc rfl ⟨x, d, _, _, _, _, rfl, .head _, .tail .head, nx_ok _ _ _, by (show _ + 0 ≤ _; (repeat refine nx_b ?_); (first | lia | omega)), ?_⟩)⟩))))
    refine WS.cons (WX.setAttr T.k (smOk _) (W.none (W.loc rfl ⟨x, d, _, _, _, _, rfl, .head _, .tail .head, nx_ok _ _ _, by (show _ + 0 ≤ _; (repeat refine nx_b ?_); (first | lia | omega)), ?_⟩)))
    have g : ∀ y, fsets f (seq2L (iL b)) y = ((seq2L (iL b)).reverse.lookup y).or (f y) := fun y => fsets_get y _ _
    have hn := nxs_le (seq2L (iL b)) f z
    refine WS.cons (WX.expr (W.meth (f := 188) T.k (smOk _) (hA.less (by decide : 5 ≤ 6)) (Kpt.fn (T.k 188 _ (by rfl)) rfl) (W.loc rfl ⟨x, d, fsets f (seq2L (iL b)), nxs f (seq2L (iL b)) z, rfl, .head _, .tail _ (.head _), (g _).trans hcb, WL.nil ⟨_, [], _, Perm.all _, (chain_b_fn (b := b) (aj := aj) T (g _) ((g _).trans hj) ((g _).trans ha) (by ((repeat refine nx_b ?_); (first | lia | omega))) hl).toFn, ?_⟩⟩)))
    rintro u objs' ⟨rfl, m, n, hms, rfl⟩
    exact WS.nil ⟨rfl, m, n, hms, rfl⟩
end
end Mine
end PtS3
section PtS4
open PySem PySem.W PyProof.Rows
namespace Mine
section
variable {prog : Program} {w : World} {mb : Str → Option Value} {top : Heap}
theorem WF.attrN {c : Cx} {env : Env} {A : Around} {st : St} {o : Expr} {name : Str} {pos : Pos} {v : V} {Q : St → Prop} {K : Frag} {C : Addr} (X : K.In c.top) (hC : ClsOk K C)
    (h : W prog w c env A o st (fun vo st₂ => ∃ x d f n own', vo = .ref x ∧ (x, .inst C d) ∈ st₂.own ∧ Upd d (.attrs f n) (.attrs (fset f name v) (nx f name n)) st₂.own own' ∧ n + 1 ≤ 1000 ∧ Q ⟨st₂.vars, own'⟩))
    (ht : takerIn K C name = some Option.none := by rfl) : WF prog w c env A (PySem.assign (.Attribute o name pos) env) v st Q :=
  WF.attr X hC (W.mono h fun vo st₂ ⟨x, d, f, n, own', h1, h2, h3, h4, h5⟩ => ⟨x, d, f, n, nx f name n, own', h1, h2, h3, nx_ok _ _ _, Nat.le_trans (nx_le _ _ _) h4, h5⟩) ht
theorem WX.setA {c : Cx} {env : Env} {A : Around} {st : St} {Q : Fl → St → Prop} {o e : Expr} {name : Str} {p pos : Pos} {K : Frag} {C : Addr} (X : K.In c.top) (hC : ClsOk K C)
    (h : W prog w c env A e st (fun v st₁ => W prog w c env A o st₁ (fun vo st₂ => ∃ x d f n own', vo = .ref x ∧ (x, .inst C d) ∈ st₂.own ∧ Upd d (.attrs f n) (.attrs (fset f name v) (nx f name n)) st₂.own own' ∧ n + 1 ≤ 1000 ∧ Q .next ⟨st₂.vars, own'⟩)))
    (ht : takerIn K C name = some none := by rfl) (hs : swapsWith e (some (.Attribute o name p)) pos.line env = pure false := by rfl) : WX prog w c env A (.Assign [.Attribute o name p] e pos) st Q :=
  WX.setAttr X hC (W.mono h fun v st₁ h => W.mono h fun vo st₂ ⟨x, d, f, n, own', h1, h2, h3, h4, h5⟩ => ⟨x, d, f, n, nx f name n, own', h1, h2, h3, nx_ok _ _ _, Nat.le_trans (nx_le _ _ _) h4, h5⟩) ht hs
theorem set_seqs_fn (T : Tp w mb top) {x d : Addr} {f : Str → Option V} {z : Nat} {a b : List Int} {aj : Bool} (hfa : f "a" = some .none) (hb : f "b" = some .none) (hj : f "isjunk" = some .none) (ha : f "autojunk" = some (.bool aj))
    (h1 : f "set_seq1" = Option.none) (h2 : f "set_seq2" = Option.none) (hcb : f "_SequenceMatcher__chain_b" = Option.none) (hz : z + 10 ≤ 1000) (hl : b.length < 200) :
    Fc prog w top 9 (.ref 167) [.ref x, iL a, iL b] [(x, .inst 242 d), (d, .attrs f z)]
      (fun u objs => u = .none ∧ ∃ m n, (m == sysModules) = false ∧ objs = [(x, .inst 242 d), (d, .attrs (fsets f (seq1L (iL a) ++ seq2L (iL b) ++ chainL m)) (nxs f (seq1L (iL a) ++ seq2L (iL b) ++ chainL m) z)), (m, .map (b2jV b) n)]) := by
  refine Fc.fn0 (n := 8) ["self", "a", "b"] (T.k 167 _ (by rfl)) rfl rfl (codeRec_of T.k (by rfl)) T.lim rfl ?_ (by decide) (by decide) (by decide) ?_ rfl rfl rfl
  · exact lenS fun a => lenS fun b => lenS fun c => len0 rfl
  · intro c L A hA hc
    subst hc
    refine WS.cons (WX.expr (W.str ?_))
    refine WS.cons (WX.expr (W.meth (f := 174) T.k (smOk _) (hA.less (by decide : 5 ≤ 8)) (Kpt.fn (T.k 174 _ (by rfl)) rfl) (W.loc rfl ⟨x, d, f, z, rfl, .head _, .tail _ (.head _), h1, WL.cons (W.loc rfl (WL.nil ⟨_, [], _, Perm.all _, (set_seq1_fn T rfl hfa (by (first | lia | omega))).toFn, ?_⟩))⟩)))
    rintro u objs' ⟨rfl, rfl⟩
    have g : ∀ y, fsets f (seq1L (iL a)) y = ((seq1L (iL a)).reverse.lookup y).or (f y) := fun y => fsets_get y _ _
    refine WS.cons (WX.expr (W.meth (f := 181) T.k (smOk _) (hA.less (by decide : 7 ≤ 8)) (Kpt.fn (T.k 181 _ (by rfl)) rfl) (W.loc rfl ⟨x, d, fsets f (seq1L (iL a)), nxs f (seq1L (iL a)) z, rfl, .head _, .tail _ (.head _), (g _).trans h2,
      WL.cons (W.loc rfl (WL.nil ⟨_, [], _, Perm.all _, (set_seq2_fn (b := b) (aj := aj) T ((g _).trans hb) ((g _).trans hj) ((g _).trans ha) ((g _).trans hcb) (by have h := nxs_le (seq1L (iL a)) f z; have h' : (seq1L (iL a)).length = 3 := rfl; (first | lia | omega)) hl).toFn, ?_⟩))⟩)))
    rintro u objs' ⟨rfl, m, n, hms, rfl⟩
    exact WS.nil ⟨rfl, m, n, hms, rfl⟩
/-- what a matcher of two lists holds -/
noncomputable def initL (a b : List Int) (aj : Bool) (m : Addr) : List (Str × V) := ([("isjunk", .none), ("a", .none), ("b", .none), ("autojunk", .bool aj)] : List (Str × V)) ++ (seq1L (iL a) ++ seq2L (iL b) ++ chainL m)
theorem init_body (T : Tp w mb top) {x d : Addr} {a b : List Int} {aj : Bool} (hl : b.length < 200) (c : Cx) (L : Addr) (A : Around) (hA : AOk 10 A) (hc : c.top = top) {fd : FuncData} {body : List Stmt} (hfd : (o160 w.params).data = .func fd) (hb : fd.body = .stmts body) :
    WS prog w c (callEnv fd L 160) A body ⟨[("self", .ref x), ("isjunk", .none), ("a", iL a), ("b", iL b), ("autojunk", .bool aj)], [(x, .inst 242 d), (d, .attrs (fun _ => Option.none) 0)]⟩
      (fun fl st => fl.val = .none ∧ ∃ m n, (m == sysModules) = false ∧ st.own = [(x, .inst 242 d), (d, .attrs (fsets (fun _ => Option.none) (initL a b aj m)) 10), (m, .map (b2jV b) n)]) := by
  cases hfd
  cases hb
  subst hc
  refine WS.cons (WX.expr (W.str ?_))
  refine WS.cons (WX.setA T.k (smOk _) (W.loc rfl (W.loc rfl ⟨x, d, _, _, _, rfl, .head _, .tail .head, by ((repeat refine nx_b ?_); (first | lia | omega)), ?_⟩)))
  refine WS.cons (WX.assign2 (W.none (WF.attrN T.k (smOk _) (W.loc rfl ⟨x, d, _, _, _, rfl, .head _, .tail .head, by ((repeat refine nx_b ?_); (first | lia | omega)), WF.attrN T.k (smOk _) (W.loc rfl ⟨x, d, _, _, _, rfl, .head _, .tail .head, by ((repeat refine nx_b ?_); (first | lia | omega)), ?_⟩)⟩))))
  refine WS.cons (WX.setA T.k (smOk _) (W.loc rfl (W.loc rfl ⟨x, d, _, _, _, rfl, .head _, .tail .head, by ((repeat refine nx_b ?_); (first | lia | omega)), ?_⟩)))
  refine WS.cons (WX.expr (W.meth (f := 167) T.k (smOk _) (hA.less (by decide : 9 ≤ 10)) (Kpt.fn (T.k 167 _ (by rfl)) rfl) (W.loc rfl ⟨x, d, fsets (fun _ => Option.none) [("isjunk", .none), ("a", .none), ("b", .none), ("autojunk", .bool aj)], nxs (fun _ => Option.none) [("isjunk", .none), ("a", .none), ("b", .none), ("autojunk", .bool aj)] 0, rfl, .head _, .tail _ (.head _), rfl,
      WL.cons (W.loc rfl (WL.cons (W.loc rfl (WL.nil ⟨_, [], _, Perm.all _, (set_seqs_fn (a := a) (b := b) (aj := aj) T rfl rfl rfl rfl rfl rfl rfl (Nat.le_of_ble_eq_true rfl) hl).toFn, ?_⟩))))⟩)))
  rintro u objs' ⟨rfl, m, n, hms, rfl⟩
  exact WS.nil ⟨rfl, m, n, hms, rfl⟩
/-- SequenceMatcher(None, a, b, autojunk) -/
theorem make_fn (T : Tp w mb top) {a b : List Int} {aj : Bool} (hl : b.length < 200) :
    Fc prog w top 12 (.ref 242) [.none, iL a, iL b, .bool aj] []
      (fun u objs => ∃ x d m n, u = .ref x ∧ (m == sysModules) = false ∧ objs = [(x, .inst 242 d), (d, .attrs (fsets (fun _ => Option.none) (initL a b aj m)) 10), (m, .map (b2jV b) n)]) := by
  refine Fc.make (n := 11) T.k (by rfl) (fI := 160) (by rfl) (by rfl) fun x d hxd _ _ => ?_
  refine Fc.fn (n := 10) (vars := [("self", .ref x), ("isjunk", .none), ("a", iL a), ("b", iL b), ("autojunk", .bool aj)]) (bind := fun xs => (["self", "isjunk", "a", "b", "autojunk"] : List Str).zip xs) (T.k 160 _ (by rfl)) rfl rfl (codeRec_of T.k (by rfl)) T.lim ?_ (by decide) ?_ (by show (["self", "isjunk", "a", "b", "autojunk"] : List Str).Nodup; decide) ?_ rfl rfl rfl
  · intro s own xs ht _ r
    refine ⟨?_, Bound.zip ["self", "isjunk", "a", "b", "autojunk"] rfl r⟩
    have e : xs.length = 5 := by first | exact r.length | exact r.length.symm
    clear r; revert e; revert xs
    exact lenS fun x1 => lenS fun x2 => lenS fun x3 => lenS fun x4 => lenS fun x5 => len0 (BindsTo.of_defaults (T := 153) rfl (ht _ _ (T.k 153 _ (by rfl))) rfl rfl rfl)
  · (repeat' (first | exact List.forall_mem_nil _ | refine List.forall_mem_cons.mpr ⟨rfl, ?_⟩))
  · intro c L A hA hc
    refine WS.mono (init_body T hl c L A hA hc rfl rfl) fun fl st h => ?_
    obtain ⟨h1, m, n, h2, h3⟩ := h
    exact ⟨h1, x, d, m, n, rfl, h2, h3⟩
end
end Mine
end PtS4
section PtLg32
open PySem PySem.W PyProof.Rows Builtin Builtin.ObjectAttr
namespace Mine
structure TupCls (h : Heap) (C : Addr) : Prop where
  obj : ∃ oc od cd sl, h.get? C = some ⟨oc, od, .cls cd, sl⟩ ∧ cd.abstract = false ∧ cd.hasDel = false ∧ cd.mro = [.ref C, .type "tuple", .type "object"] ∧ cd.bases = [.type "tuple"] ∧ sl.toList[4]? = some (some .none)
theorem best_tuple {M : Model} {h : Heap} : Looks M h (Builtin.Slots.bestBase [.type "tuple"]) (.type "tuple") := Looks.of_pure (by kernel_rfl)
section
variable {M : Model} {h : Heap} {C : Addr}
theorem TupCls.mro (x : TupCls h C) : Looks M h (mroOf (.ref C)) [.ref C, .type "tuple", .type "object"] := by
  obtain ⟨oc, od, cd, sl, e, h1, h2, h3, h4, h5⟩ := x.obj
  rw [← h3]
  exact ((Looks.ld (part := none) e).andThen .now).andThen .now
theorem TupCls.made (x : TupCls h C) : Looks M h (Bind.madeBy (.ref C)) none := by
  intro A Q E s k q
  unfold Bind.madeBy
  refine wpAny_bind (x.mro A _ E s k ?_)
  obtain ⟨oc, od, cd, sl, e, h1, h2, h3, h4, h5⟩ := x.obj
  rw [List.forIn_cons]
  refine wpAny_bind (wpAny_bind (wpAny_bind (wpAny_bind (wpAny_loadPart (k _ _ e) (wpAny_pure ?_)))))
  dsimp only
  rw [← Array.getElem?_toList, h5]
  exact wpAny_pure (wpAny_pure (wpAny_pure q))
theorem TupCls.base (x : TupCls h C) : Looks M h (Bind.staticBase (.ref C)) (.type "tuple") := by
  intro A Q E s k q
  unfold Bind.staticBase
  refine wpAny_bind (x.mro A _ E s k ?_)
  obtain ⟨oc, od, cd, sl, e, h1, h2, h3, h4, h5⟩ := x.obj
  rw [List.forIn_cons]
  have cdl : Looks M h (classData C) cd := ((Looks.ld (part := none) e).andThen .now)
  refine wpAny_bind (wpAny_bind (wpAny_bind (x.made A _ E s k ?_)))
  dsimp only
  refine wpAny_bind (cdl A _ E s k ?_)
  rw [h4]
  refine wpAny_bind (best_tuple A _ E s k ?_)
  refine wpAny_pure ?_
  dsimp only
  rw [List.forIn_cons]
  refine wpAny_bind (wpAny_bind (wpAny_of_eq (PySem.F.called_tuple.made) ?_))
  exact wpAny_pure (wpAny_pure (wpAny_pure q))
end
end Mine
end PtLg32
section PtLg33
open PySem PySem.W PyProof.Rows Builtin Builtin.ObjectAttr
namespace Mine
theorem tn_kind : builtinKind "tuple.__new__" = some .builtinFn := by decide +kernel
theorem tn_split : splitId "tuple.__new__" = some ("tuple", "__new__") := by decide +kernel
theorem tn_args (C t : Addr) : (match Manifest.signature? "tuple.__new__" with | none => pure () | some sig => Bind.checkArgs "tuple.__new__" sig ⟨[.ref C, .ref t], []⟩) = pure () := by kernel_rfl
section
variable {prog : Program} {w : World} {A : Around} {C : Addr} {R : Result → Shared → Prop} {s : Shared}
theorem tuple_new_check {E : Value → Shared → Prop} {t : Addr} {Q : Unit → Shared → Prop} (X : TupCls s.heap C) (h : Q () s) : wpAny (model prog w) A (checkBuiltinCall "tuple.__new__" ⟨[.ref C, .ref t], []⟩) Q E s := by
  obtain ⟨hh, g, d, tk, os⟩ := s
  have sub : Looks (model prog w) hh (isSubtype (.ref C) (.type "tuple")) true := by
    obtain ⟨oc, od, cd, sl, e, h1, h2, h3, h4, h5⟩ := X.obj
    exact X.mro.andThen (Looks.of_pure (by kernel_rfl))
  have base := X.base (M := model prog w)
  have made : Looks (model prog w) hh (Bind.madeBy (.type "tuple")) (some "tuple.__new__") := Looks.of_pure PySem.F.called_tuple.made
  have typ : Looks (model prog w) hh (isType (.ref C)) true := by
    obtain ⟨oc, od, cd, sl, e, h1, h2, h3, h4, h5⟩ := X.obj
    exact (Looks.ld e).andThen .now
  have args := tn_args C t
  simp only [checkBuiltinCall, tn_kind, tn_split]
  repeat (first | simp only [bne_self_eq_false, Bool.false_eq_true, if_false, Bool.not_true] | lk)
  exact h
theorem collect_sz {E : Value → Shared → Prop} {Q : List Value → Shared → Prop} (it : Addr) {T : String} {o : Obj} {items : Array Value} {n : Nat} (hT : T = "list" ∨ T = "tuple")
    (ho : s.heap.get? it = some o) (hc : o.cls = .type T) (hd : o.data = .seq items n) (hsz : items.size ≤ sizeLine)
    (hQ : ∀ h', (∀ b o', s.heap.get? b = some o' → h'.get? b = some o') → s.heap.objs.size ≤ h'.objs.size → Q items.toList { s with heap := h' }) : wpAny (model prog w) A (collect (.ref it)) Q E s := by
  unfold collect
  refine wpAny_bind (wpAny_runValue (codeAny_builtin PySem.F.entry_proto_collect ?_))
  rw [Around.under_plainId PySem.F.plain_proto_collect _]
  show wpAny _ A.in1 (newList [] >>= fun l => again (.builtin "list.__iadd__" ⟨[l, .ref it], []⟩)) _ _ s
  refine wpAny_bind (wpAny_newObj_type ?_)
  refine wpAny_pure ⟨plainId_quiet PySem.F.plain_list_iadd _, codeAny_builtin PySem.F.entry_list_iadd ?_⟩
  rw [Around.under_plainId PySem.F.plain_list_iadd _]
  show wpAny _ A.in1 (Builtin.List.listExtendWith (.ref s.heap.objs.size) (.ref it) (.ref s.heap.objs.size)) _ _ _
  have hS : (s.heap.push { cls := .type "list", data := .seq ([] : List Value).toArray }).get? s.heap.objs.size = some { cls := .type "list", data := .seq #[] 0 } := Heap.get?_push_size _ rfl
  have hS₂ := Heap.get?_update_self (Obj.mapSeq (· ++ items)) hS rfl
  have fin' : wpAny (model prog w) A (match Value.ref s.heap.objs.size with
      | Value.ref a => do
        match (← load a).data with
          | Data.seq xs _ => pure xs.toList
          | _ => unsupported "internal:collect"
      | _ => unsupported "internal:collect") Q E { s with heap := (s.heap.push { cls := .type "list", data := .seq ([] : List Value).toArray }).update s.heap.objs.size (Obj.mapSeq (· ++ items)) } := by
    show wpAny _ A (load s.heap.objs.size >>= _) _ _ _
    refine wpAny_bind (wpAny_load hS₂ ?_)
    refine wpAny_pure ?_
    have e : ((#[] : Array Value) ++ items).toList = items.toList := by simp
    show Q ((#[] : Array Value) ++ items).toList _
    rw [e]
    refine hQ _ (fun b o' hb => ?_) (Nat.le_of_lt (Heap.lt_size hS₂))
    exact (Heap.get?_update_other _ _ (Nat.ne_of_gt (Heap.lt_size hb))).trans (Heap.get?_push_of_some _ hb)
  refine wpAny_mono (wpAny_extend_seq (hsz := hsz) (A := A) (R := fun r s' => r = .ok (.ret (.ref s.heap.objs.size)) ∧ s' = { s with heap := (s.heap.push { cls := .type "list", data := .seq ([] : List Value).toArray }).update s.heap.objs.size (Obj.mapSeq (· ++ items)) })
    (s := { s with heap := s.heap.push { cls := .type "list", data := .seq ([] : List Value).toArray } }) _ it _ 0 hT hS (Heap.get?_push_of_some _ ho) hc hd ⟨rfl, rfl⟩) (fun fin s' h => ?_) (fun e s' h => ?_)
  · cases fin with
    | done f =>
      obtain ⟨e, rfl⟩ := h
      cases e
      exact fin'
    | again c' => exact ⟨h.1, codeAny_mono h.2 fun r s'' hr => by obtain ⟨rfl, rfl⟩ := hr; exact fin'⟩
  · exact absurd h.1 (by simp)
theorem tn_nokw (C t : Addr) : noKeywords "tuple" ⟨[.ref C, .ref t], []⟩ = pure () := by kernel_rfl
theorem tn_count : checkCount "tuple" 0 1 1 = pure () := by kernel_rfl
/-- tuple.__new__(C, t) -/
theorem tuple_new_K {t : Addr} {o : Obj} {items : Array Value} {n : Nat} {T : String} (X : TupCls s.heap C) (hi : Looks (model prog w) s.heap (typeLookup (.ref C) "__init__") (some (.builtin "object.__init__"))) (hT : T = "list" ∨ T = "tuple")
    (ho : s.heap.get? t = some o) (hc : o.cls = .type T) (hd : o.data = .seq items n) (hsz : items.size ≤ sizeLine)
    (h : ∀ h' : Heap, (∀ b o', s.heap.get? b = some o' → h'.get? b = some o') → s.heap.objs.size ≤ h'.objs.size → R (.ok (.ret (.ref (h'.objs.size + 1)))) { s with heap := (h'.push emptyDict).push { cls := .ref C, dict := some h'.objs.size, data := .seq items } }) :
    codeAny (model prog w) A (.call (.builtin "tuple.__new__") ⟨[.ref C, .ref t], []⟩) R s := by
  refine codeAny_call_builtin_code (Code.quiet_builtin _ (by decide +kernel)) (tuple_new_check X (codeAny_builtin PySem.F.entry_tuple_new ?_))
  have XX := X
  obtain ⟨hh, g, d, tk, os⟩ := s
  have sub : Looks (model prog w) hh (isSubtype (.ref C) (.type "tuple")) true := by
    obtain ⟨oc, od, cd, sl, e, h1, h2, h3, h4, h5⟩ := X.obj
    exact X.mro.andThen (Looks.of_pure (by kernel_rfl))
  have base := X.base (M := model prog w)
  have made : Looks (model prog w) hh (Bind.madeBy (.type "tuple")) (some "tuple.__new__") := Looks.of_pure PySem.F.called_tuple.made
  have typ : Looks (model prog w) hh (isType (.ref C)) true := by
    obtain ⟨oc, od, cd, sl, e, h1, h2, h3, h4, h5⟩ := X.obj
    exact (Looks.ld e).andThen .now
  have here : Looks (model prog w) hh (Bind.madeHere "tuple.__new__" (.ref C)) () := base.andThen (made.andThen (Looks.of_pure (by simp only [Option.map_some, bne_self_eq_false, Bool.false_eq_true, if_false])))
  have nk := tn_nokw C t
  have cc := tn_count
  unfold Builtin.«tuple.__new__»
  repeat (first | (with_reducible refine collect_sz t hT ho hc hd hsz fun h' k' z' => ?_) | simp only [Bool.false_eq_true, if_false, Bool.not_true, beq_self_eq_true, if_true] | lk)
  rw [if_neg (by simpa using Nat.not_lt.mpr hsz)]
  unfold newObjAsIs classHasDel
  obtain ⟨oc, od, cd, sl, e, h1, h2, h3, h4, h5⟩ := XX.obj
  refine wpAny_bind (wpAny_alloc (wpAny_bind (wpAny_bind (wpAny_load (Heap.get?_push_of_some _ (Heap.get?_push_of_some _ (k' _ _ e))) (wpAny_pure ?_)))))
  rw [h2]
  refine wpAny_pure (wpAny_pure ?_)
  have := h h' k' z'
  show R _ _
  rw [Heap.size_push]
  simpa using this
end
end Mine
end PtLg33
section PtLg34
open PySem PySem.W PyProof.Rows Builtin Builtin.ObjectAttr
namespace Mine
/-- an object with items -/
noncomputable def IsSq (h : Heap) (t : Addr) (items : Array Value) : Prop := ∃ o n, h.get? t = some o ∧ o.data = .seq items n
theorem IsSq.extBut {h h' : Heap} {a b : Addr} {items : Array Value} (x : IsSq h a items) (hs : Heap.ExtBut b h h') (hab : a ≠ b) : IsSq h' a items := let ⟨o, n, ho, r⟩ := x; ⟨o, n, hs a o hab ho, r⟩
theorem IsSq.push {h : Heap} {a : Addr} {items : Array Value} (x : IsSq h a items) (o : Obj) : IsSq (h.push o) a items := let ⟨o', n, ho, r⟩ := x; ⟨o', n, Heap.get?_push_of_some _ ho, r⟩
theorem IsMat.sq {h : Heap} {a : Addr} {items : Array Value} (x : IsMat h a items) : IsSq h a items := let ⟨n, dd, e⟩ := x; ⟨_, n, e, rfl⟩
section
variable {prog : Program} {w : World} {A : Around} {E : Value → Shared → Prop} {s : Shared}
theorem next_sq_item {it t : Addr} {i : Nat} {items : Array Value} {x : Value} {Q : Option Value → Shared → Prop} (hit : IsTupIter s.heap it t i) (ht : IsSq s.heap t items) (hx : items[i]? = some x)
    (hQ : ∀ h', IsTupIter h' it t (i + 1) → Heap.SameBut it s.heap h' → Q (some x) { s with heap := h' }) : wpAny (model prog w) A (pyNext (.ref it)) Q E s := by
  obtain ⟨o, ho, hc, hd⟩ := id hit
  obtain ⟨ol, nl, hol, hdl⟩ := ht
  unfold pyNext
  refine wpAny_bind (wpAny_attempt (wpAny_callSpecial?_slot (name := Str.ofString "__next__") hit.typeIs slot_tupleiter_next
    (wpAny_call_entry slot_tupleiter_next hit.typeIs entry_tupleiter_next ?_ (args_tupleiter_next _))))
  show wpAny _ _ (field (.ref it) 0 >>= _) _ _ s
  refine wpAny_bind (wpAny_field ho hd (x := .ref t) rfl ?_)
  show wpAny _ _ (if (Value.ref t == Value.none) = true then _ else _) _ _ s
  rw [if_neg (show ¬ ((Value.ref t == Value.none) = true) from Bool.false_ne_true)]
  refine wpAny_bind (wpAny_field ho hd (x := .int i 0) rfl ?_)
  refine wpAny_bind (wpAny_seqItems hol hdl ?_)
  simp only [Int.toNat_natCast, hx]
  refine wpAny_bind (wpAny_setField ho hd (by simp) (wpAny_pure ⟨x, rfl, wpAny_pure (hQ _ ?_ (Heap.SameBut.update ..))⟩))
  exact ⟨_, Heap.get?_update_self _ ho (Obj.isFreed_of_fields (Obj.data_mapFields hd _)), (Obj.cls_mapFields ..).trans hc, by
    rw [Obj.data_mapFields hd]; simp [rawInt]⟩
theorem next_sq_end {it t : Addr} {i : Nat} {items : Array Value} {Q : Option Value → Shared → Prop} (hh : A.handled = Option.none) (hit : IsTupIter s.heap it t i) (ht : IsSq s.heap t items) (hx : items[i]? = none)
    (hQ : ∀ h', Heap.ExtBut it s.heap h' → Q none { s with heap := h' }) : wpAny (model prog w) A (pyNext (.ref it)) Q E s := by
  obtain ⟨o, ho, hc, hd⟩ := id hit
  obtain ⟨ol, nl, hol, hdl⟩ := ht
  unfold pyNext
  refine wpAny_bind (wpAny_attempt (wpAny_callSpecial?_slot (name := Str.ofString "__next__") hit.typeIs slot_tupleiter_next
    (wpAny_call_entry slot_tupleiter_next hit.typeIs entry_tupleiter_next ?_ (args_tupleiter_next _))))
  show wpAny _ _ (field (.ref it) 0 >>= _) _ _ s
  refine wpAny_bind (wpAny_field ho hd (x := .ref t) rfl ?_)
  show wpAny _ _ (if (Value.ref t == Value.none) = true then _ else _) _ _ s
  rw [if_neg (show ¬ ((Value.ref t == Value.none) = true) from Bool.false_ne_true)]
  refine wpAny_bind (wpAny_field ho hd (x := .int i 0) rfl ?_)
  refine wpAny_bind (wpAny_seqItems hol hdl ?_)
  simp only [Int.toNat_natCast, hx]
  refine wpAny_bind (wpAny_rule (wpAny_bind (wpAny_setField ho hd (by simp) ?_)))
  show wpAny _ _ (newExc (.type "StopIteration") [] >>= _) _ _ _
  refine wpAny_bind ?_
  simp only [newExc, newTuple]
  refine wpAny_bind (wpAny_newObj_type ?_ (by size_fits))
  refine wpAny_bind (m := firstArgMember _ _) (wpAny_of_eq (a := Value.none) (by first | rfl | (simp only [firstArgMember]; rfl)) ?_)
  refine wpAny_newObj_type ?_ (by size_fits)
  simp only [raiseNew]
  refine wpAny_bind (wpAny_handled ?_)
  first | rw [show A.in1.handled = none from hh] | rw [hh]
  refine wpAny_bind (wpAny_pure (wpAny_throw ?_))
  refine wpAny_bind (wpAny_isInstance (T := "StopIteration") (b := true) ⟨_, Heap.get?_push_size _ rfl, rfl⟩ isSubtype_stop ?_)
  exact wpAny_pure (hQ _ (((Heap.SameBut.update ..).extBut.push _).push _))
theorem draw_sq {it t : Addr} {items : Array Value} (hne : t ≠ it) : ∀ (n i : Nat) (s : Shared) (Q : List Value → Shared → Prop), IsTupIter s.heap it t i → IsSq s.heap t items → i + n ≤ items.size →
    (∀ h', IsTupIter h' it t (i + n) → Heap.SameBut it s.heap h' → Q ((items.toList.drop i).take n) { s with heap := h' }) → wpAny (model prog w) A (draw (.ref it) n) Q E s
  | 0, i, s, Q, hit, _, _, hQ => by
    show wpAny _ _ (pure []) Q E s
    exact wpAny_pure (by simpa using hQ s.heap hit (Heap.SameBut.refl ..))
  | n + 1, i, s, Q, hit, ht, hle, hQ => by
    have hlt : i < items.size := by (first | lia | omega)
    show wpAny _ _ (pyNext (.ref it) >>= _) Q E s
    refine wpAny_bind (next_sq_item hit ht (x := items[i]) (by simp [hlt]) fun h₁ hit₁ hs₁ => ?_)
    refine wpAny_bind (wpAny_holding (draw_sq hne n (i + 1) _ _ hit₁ (ht.extBut hs₁.extBut hne) (by (first | lia | omega)) fun h₂ hit₂ hs₂ => wpAny_pure ?_))
    have hd : items.toList.drop i = items[i] :: items.toList.drop (i + 1) := by simp [List.drop_eq_getElem_cons, hlt]
    have := hQ h₂ (by rw [show i + (n + 1) = i + 1 + n by (first | lia | omega)]; exact hit₂) (hs₁.trans hs₂)
    rw [hd, List.take_succ_cons] at this
    exact this
/-- what is asked of the class Match -/
structure MatOk (M : Model) (h : Heap) : Prop where
  cls : TupCls h matchAt
  iter : Looks M h (typeLookup (.ref matchAt) "__iter__") (some (.builtin "tuple.__iter__"))
  len : Looks M h (typeLookup (.ref matchAt) "__len__") (some (.builtin "tuple.__len__"))
  init : Looks M h (typeLookup (.ref matchAt) "__init__") (some (.builtin "object.__init__"))
theorem MatOk.sub {M : Model} {h : Heap} (X : MatOk M h) : Looks M h (isSubtype (.ref matchAt) (.type "tuple")) true := X.cls.mro.andThen (Looks.of_pure (by kernel_rfl))
theorem IsMat.type {M : Model} {h : Heap} {x : Addr} {items : Array Value} (e : IsMat h x items) : Looks M h (typeOf (.ref x)) (.ref matchAt) := by
  obtain ⟨n, dd, e⟩ := e
  exact (Looks.ld e).andThen .now
theorem ti_kind : builtinKind "tuple.__iter__" = some .slot := by decide +kernel
theorem ti_split : splitId "tuple.__iter__" = some ("tuple", "__iter__") := by decide +kernel
/-- a tuple's own slot, called for a Match -/
theorem call_matSlot {x : Addr} {items : Array Value} {id nm : String} {rest : List Value} {b : Builtin} {Q : Value → Shared → Prop} (X : MatOk (model prog w) s.heap) (hx : IsMat s.heap x items) (hk : builtinKind id = some .slot) (hs : splitId id = some ("tuple", nm)) (ha : argsOk id ⟨.ref x :: rest, []⟩)
    (hp : plainId id = true) (he : entryFor table id = some b)
    (h : wpAny (model prog w) A.in1 (b ⟨.ref x :: rest, []⟩) (fun fin s' => match fin with | .done (.ret v) => Q v s' | _ => False) E s) : wpAny (model prog w) A (call (.builtin id) (.ref x :: rest)) Q E s := by
  refine wpAny_call (codeAny_call_builtin hp he (check_slot hk hs ((IsMat.type hx).andThen X.sub) ha ?_))
  refine wpAny_mono h (fun fin s' p => ?_) fun _ _ e => e
  cases fin with
  | done f => cases f <;> first | exact p | exact p.elim
  | again c => exact p.elim
theorem iter_mat {t : Addr} {items : Array Value} {Q : Value → Shared → Prop} (X : MatOk (model prog w) s.heap) (ht : IsMat s.heap t items)
    (hQ : Q (.ref s.heap.objs.size) { s with heap := s.heap.push { cls := .type "tuple_iterator", data := .fields #[.ref t, .int 0 0] } }) : wpAny (model prog w) A (pyIter (.ref t)) Q E s := by
  have L0 : Looks (model prog w) s.heap (specialOf (.ref t) "__iter__") (some (.builtin "tuple.__iter__")) := (IsMat.type ht).andThen X.iter
  unfold pyIter
  refine wpAny_bind (L0.here ?_)
  dsimp only
  simp only [callSpecialIfBoundUnlessNone?, bindSpecialIfBound?]
  refine wpAny_bind (wpAny_holding (wpAny_bind (wpAny_bind (L0.here ?_))))
  simp only [slot_tuple_iter.bind]
  refine wpAny_bind (wpAny_askSetting (wpAny_ite ?_))
  have cl : wpAny (model prog w) A (call (.builtin "tuple.__iter__") [.ref t]) (fun it s' => wpAny (model prog w) A (do
      match ← specialOf it "__next__" with
      | none => rule "iter.non-iterator"; raiseError "TypeError" s!"iter() returned non-iterator of type '{← typeNameOf it}'"
      | some _ => pure it) Q E s') E s := by
    refine call_matSlot X ht ti_kind ti_split (args_tuple_iter _) slot_tuple_iter.plain entry_tuple_iter ?_
    show wpAny _ _ (do ret (← newFields "tuple_iterator" [.ref t, rawInt 0])) _ _ s
    refine wpAny_bind (wpAny_newObj_type (wpAny_pure ?_))
    exact wpAny_bind (wpAny_specialOf (T := "tuple_iterator") ⟨_, Heap.get?_push_size _ rfl, rfl⟩ slot_tupleiter_next.lookup (wpAny_pure hQ))
  have fin : wpAny (model prog w) A (if (Value.builtin "tuple.__iter__" == Value.none) = true then ((do rule "iter.none"; raiseError "TypeError" s!"'{← typeNameOf (.ref t)}' object is not iterable") >>= fun v => pure (some v)) else (call (.builtin "tuple.__iter__") [.ref t] >>= fun v => pure (some v))) (fun a s' => wpAny (model prog w) A (match a with
      | some it => do
        match ← specialOf it "__next__" with
        | none => rule "iter.non-iterator"; raiseError "TypeError" s!"iter() returned non-iterator of type '{← typeNameOf it}'"
        | some _ => pure it
      | none => do
        match ← bindSpecialIfBound? (.ref t) "__getitem__" with
        | none => rule "iter.not-iterable"; raiseError "TypeError" s!"'{← typeNameOf (.ref t)}' object is not iterable"
        | some _ => rule "iter.getitem-fallback"; newFields "iterator" [.ref t, ← mkInt 0]) Q E s') E s := by
    simp only [builtin_beq_none, Bool.false_eq_true, if_false]
    exact wpAny_bind (wpAny_mono cl (fun v s' h' => wpAny_pure h') fun _ _ h' => h')
  split
  · exact wpAny_bind (wpAny_pure (wpAny_pure fin))
  · exact wpAny_tryCatch (wpAny_bind (wpAny_pure (wpAny_pure fin)))
/-- a Match's items, unpacked -/
theorem unpackItems_mat {t : Addr} {items : Array Value} {Q : List Value → Shared → Prop} (hh : A.handled = Option.none) (X : MatOk (model prog w) s.heap) (hm : IsMat s.heap t items)
    (hQ : ∀ h', Heap.ExtBut s.heap.objs.size s.heap h' → Q items.toList { s with heap := h' }) : wpAny (model prog w) A (unpackItems (.ref t) items.size none) Q E s := by
  have ht := hm.sq
  have hlt : t ≠ s.heap.objs.size := by obtain ⟨o, n, ho, _⟩ := ht; exact Nat.ne_of_lt (Heap.lt_size ho)
  have L0 : Looks (model prog w) s.heap (specialOf (.ref t) "__iter__") (some (.builtin "tuple.__iter__")) := (IsMat.type hm).andThen X.iter
  unfold unpackItems
  refine wpAny_bind ?_
  unfold notIterableAtAll
  refine wpAny_bind (L0.here ?_)
  refine wpAny_pure ?_
  simp only [Bool.false_eq_true, if_false]
  refine wpAny_bind (wpAny_holding (iter_mat X hm ?_))
  refine wpAny_bind (wpAny_holding (draw_sq hlt items.size 0 _ _ ⟨_, Heap.get?_push_size _ rfl, rfl, rfl⟩ (ht.push _) (by (first | lia | omega)) fun h₁ hit₁ hs₁ => ?_))
  have hall : List.take items.size (List.drop 0 items.toList) = items.toList := by
    rw [List.drop_zero]; exact List.take_of_length_le (by simp)
  rw [hall]
  rw [if_neg (by simp)]
  have ht₁ : IsSq h₁ t items := (ht.push _).extBut hs₁.extBut hlt
  refine wpAny_bind (wpAny_holding (next_sq_end hh hit₁ ht₁ (by simp) fun h₂ he₂ => ?_))
  simp only [Option.isSome_none, Bool.false_eq_true, if_false]
  exact wpAny_pure (hQ h₂ fun b o hb e => he₂ b o hb (hs₁.extBut b o hb (Heap.get?_push_of_some _ e)))
end
theorem Unp.mat {prog : Program} {w : World} {top : Heap} {vs : List V} (X : ∀ h : Heap, (∀ b o, top.get? b = some o → h.get? b = some o) → MatOk (model prog w) h) : Unp prog w top (.mat vs) vs := fun A s own x hh ht r => by
  obtain ⟨a, items, rfl, n, t, rs⟩ := r
  rw [rs.length, Array.length_toList]
  exact unpackItems_mat hh (X _ ht) t fun h' e => ⟨Quiet.ext e, rs.quiet (Quiet.ext e)⟩
end Mine
end PtLg34
section PtLg35
open PySem PySem.W PyProof.Rows Builtin Builtin.ObjectAttr
namespace Mine
section
variable {prog : Program} {w : World} {c : Cx} {env : Env} {A : Around} {st st' : St} {s s' : Shared} {Q : V → St → Prop} {K : Frag}
theorem method_tuple_new {E : Value → Shared → Prop} {pl : Sem Bool} {Q : Value × List Value → Shared → Prop} (X : K.In s.heap) (e : findCls K (.type "tuple") (.type "type") "__new__" = some (.val (.builtin "tuple.__new__")))
    (h : Q (.builtin "tuple.__new__", []) { s with toks := s.toks + 1 }) : wpAny (model prog w) A (getMethod (.type "tuple") "__new__" pl) Q E s := by
  have hstub : opaqueClassAbove (.type "tuple") = pure none := by kernel_rfl
  have L0 : Looks (model prog w) s.heap (typeOf (.type "tuple")) (.type "type") := Looks.of_pure (by kernel_rfl)
  have hg : findIn K (.type "type") "__getattribute__" = some (some (.builtin "type.__getattribute__")) := type_tga
  unfold getMethod specialOf
  refine wpAny_bind (wpAny_bind (L0.here ((looks_findIn X hg).here ?_)))
  dsimp only
  rw [if_pos canon_tga]
  refine wpAny_bind (wpAny_mono (Q := fun v => Q (v, [])) (E := E) ?_ (fun _ _ z => wpAny_pure z) fun _ _ z => z)
  have LO : Looks (model prog w) s.heap (opaqueClassAbove (.type "tuple")) none := Looks.of_pure hstub
  refine cls_open X LO L0 hg (looks_hook X (r := none) (by rfl)) (by show subIn K _ _ = _; rfl) e
    (wpAny_pure (by show wpAny _ _ (handedOut _) _ _ _; rw [handedOut_of (by rfl)]; exact wpAny_pure h))
/-- tuple.__new__(Match, t) -/
theorem W.tnew {o e₁ e₂ : Expr} {apos pos : Pos} {pl : Sem Bool} (X : K.In c.top) (hX : ∀ h : Heap, (∀ b o, c.top.get? b = some o → h.get? b = some o) → MatOk (model prog w) h)
    (h : W prog w c env A o st (fun v st₀ => v = .con (.type "tuple") ∧ W prog w c env A e₁ st₀ (fun v₁ st₁ => v₁ = .con (.ref matchAt) ∧ W prog w c env A e₂ st₁ (fun v₂ st₂ => ∃ vs, (v₂ = .tup vs ∨ v₂ = .lst vs) ∧ vs.length ≤ sizeLine ∧ Q (.mat vs) st₂))))
    (e : findCls K (.type "tuple") (.type "type") "__new__" = some (.val (.builtin "tuple.__new__")) := by rfl)
    (hl : plainArg e₁ = true := by rfl) (hl' : plainArg e₂ = true := by rfl) (hb : backTo pos (starEach [e₁, e₂] env) = [(false, eval e₁ env), (false, eval e₂ env)] := by rfl)
    (he : eval (.Call (.Attribute o "__new__" apos) [e₁, e₂] [] pos) env = (do
      let ov ← eval o env
      standAt apos.atName
      let (f, first) ← holding [ov] (getMethod ov "__new__" pl)
      callWith pos f first (backTo pos (starEach [e₁, e₂] env)) (backToKw pos (keywordEach [] env))) := by rfl) : W prog w c env A (.Call (.Attribute o "__new__" apos) [e₁, e₂] [] pos) st Q := fun s a => by
  refine methodCall_KW (pl := pl) (wpAny_mono (h s a) (fun ov s₁ p => ?_) fun _ _ e => e) he
  obtain ⟨st₁, a₁, F₁, v, rv, rfl, h₁⟩ := p
  cases rv
  refine method_tuple_new (X.keeps a₁.top) e ?_
  have a₁' := a₁.quiet (Quiet.toks s₁ (s₁.toks + 1))
  refine callWith_any (plain_each (by simp [hl, hl'])) ?_
  rw [hb]
  refine Calls.spliced_cons (wpAny_mono (h₁ _ a₁') (fun x₁ s₂ p => ?_) fun _ _ e => e)
  obtain ⟨st₂, a₂, F₂, v, rv, rfl, h₂⟩ := p
  cases rv
  refine Calls.spliced_cons (wpAny_mono (h₂ _ a₂) (fun x₂ s₃ p => ?_) fun _ _ e => e)
  obtain ⟨st₃, a₃, F₃, v, rv, vs, hv, hz, q⟩ := p
  refine Calls.spliced_nil ⟨Kpt.builtin (top := c.top) A s₃ a₃.top, ?_⟩
  have MO := hX s₃.heap a₃.top
  have key : ∀ t items T o n, x₂ = .ref t → T = "list" ∨ T = "tuple" → s₃.heap.get? t = some o → o.cls = .type T → o.data = .seq items n → Reps s₃.heap (c.adr st₃) vs items.toList → wpAny (model prog w) A (PySem.call (.builtin "tuple.__new__") [.ref matchAt, x₂]) (Pst prog w c env st s (Vp c Q)) (fun _ _ => False) s₃ := by
    rintro t items T o n rfl hT ho hc hd rs
    have hsz : items.size ≤ sizeLine := by rw [← Array.length_toList, ← rs.length]; exact hz
    refine wpAny_call (tuple_new_K MO.cls MO.init hT ho hc hd hsz fun h' k' z' => ?_)
    have qq : Quiet s₃ { s₃ with heap := (h'.push emptyDict).push { cls := .ref matchAt, dict := some h'.objs.size, data := .seq items } } := ⟨fun b o e => Heap.get?_push_of_some _ (Heap.get?_push_of_some _ (k' b o e)), rfl, rfl⟩
    have z1 : (h'.push emptyDict).objs.size = h'.objs.size + 1 := Heap.size_push ..
    have gx : ((h'.push emptyDict).push { cls := .ref matchAt, dict := some h'.objs.size, data := .seq items }).get? (h'.objs.size + 1) = some { cls := .ref matchAt, dict := some h'.objs.size, data := .seq items } := by
      have := Heap.get?_push_size (h'.push emptyDict) (o := { cls := .ref matchAt, dict := some h'.objs.size, data := .seq items }) rfl
      rwa [z1] at this
    have ne : h'.objs.size + 1 ∉ c.adr st₃ := fun q => absurd (a₃.lt _ q).1 (Nat.not_lt.mpr (Nat.le_succ_of_le z'))
    exact ⟨st₃, a₃.quiet qq, ((F₁.trans (Fol.quiet (Quiet.toks _ _) _ _)).trans (F₂.trans F₃)).trans (Fol.quiet qq _ _), .mat vs, ⟨_, items, rfl, ne, ⟨_, _, gx⟩, rs.quiet qq⟩, q⟩
  rcases hv with rfl | rfl
  · obtain ⟨t, items, rfl, n, ⟨o, ho, hc, k, hd⟩, rs⟩ := rv
    exact key t items "tuple" o k rfl (.inr rfl) ho hc hd rs
  · obtain ⟨t, items, rfl, n, ⟨k, ho⟩, rs⟩ := rv
    exact key t items "list" _ k rfl (.inl rfl) ho rfl rfl rs
end
end Mine
end PtLg35
section PtLg36
open PySem PySem.W PyProof.Rows Builtin Builtin.ObjectAttr
namespace Mine
theorem oi4_args (a b c d : Value) : argsOk "object.__init__" ⟨[a, b, c, d], []⟩ := by unfold argsOk; kernel_rfl
section
variable {prog : Program} {w : World} {A : Around} {top : Heap} {n : Nat} {K : Frag}
theorem Kpt.cls {C : Addr} {oc : Value} {od : Option Addr} {cd : ClassData} {sl : Array (Option Value)} {r : Option Value} (X : K.In top) (ho : top.get? C = some ⟨oc, od, .cls cd, sl⟩) (hc : specialIn K (.ref C) "__call__" = some r) : Kpt prog w top (.ref C) := fun A s k => by
  unfold keeperOf
  refine wpAny_bind (wpAny_load (k _ _ ho) ?_)
  dsimp only
  exact wpAny_bind ((looks_specialIn (X.keeps k) hc).here (wpAny_pure rfl))
/-- Match(a, b, size) -/
theorem Fc.mat {fN sm : Addr} {v₁ v₂ v₃ : V} {vs : List V} {rest : List Value} (X : K.In top) (hX : ∀ h : Heap, (∀ b o, top.get? b = some o → h.get? b = some o) → MatOk (model prog w) h)
    (hr : readsIn K matchAt (.type "type") = true) (hf : findCls K (.ref matchAt) (.type "type") "__new__" = some (.get (.builtin "staticmethod.__get__") (.ref sm) .none (.ref matchAt))) (hsm : recIn K sm "staticmethod" = some (.ref fN :: rest))
    (hcall : specialIn K (.ref matchAt) "__call__" = some (some (.builtin "type.__call__"))) (htyp : instIn K (.ref matchAt) (.type "type") = some true)
    (hN : Fc prog w top n (.ref fN) [.con (.ref matchAt), v₁, v₂, v₃] [] (fun u _ => u = .mat vs)) : Fc prog w top (n + 1) (.ref matchAt) [v₁, v₂, v₃] [] (fun u objs => u = .mat vs ∧ objs = []) := by
  intro A s hid xs hA ht hsz hl r
  obtain ⟨x1, t1, rfl, r1, x2, t2, rfl, r2, x3, t3, rfl, r3, rfl⟩ := r
  obtain ⟨hh, g, d, t, os⟩ := s
  have XX : K.In hh := X.keeps ht
  have MO := hX hh ht
  have TC := MO.cls
  obtain ⟨oc, od, cd, sl, hC, e1, e2, e3, e4, e5⟩ := TC.obj
  have call := looks_specialIn (M := model prog w) XX hcall
  have typ := looks_instIn (M := model prog w) XX htyp
  refine codeAny_of_tree ?_
  show wpAny _ _ (callAny (.ref matchAt) _) _ _ _
  refine nd_load hC ?_
  show wpAny _ _ (callAny.viaDunder (.ref matchAt) _) _ _ _
  unfold callAny.viaDunder
  refine wpAny_bind (call.at ?_)
  dsimp only
  rw [tc_bind]
  refine wpAny_bind (wpAny_pure (wpAny_bind (wpAny_pure ?_)))
  refine wpAny_pure (a := Fin.again (.call (.builtin "type.__call__") ⟨[.ref matchAt, x1, x2, x3], []⟩)) (And.intro rfl ?_)
  refine codeAny_call_builtin_at (Code.quiet_builtin _ (by decide +kernel)) entry_typeCall (check_slot tc_kind tc_split typ (tc_args _ _ _) ?_)
  unfold Builtin.«type.__call__»
  have hm := TC.mro (M := model prog w)
  have made := TC.made (M := model prog w)
  dsimp only
  repeat (first | (with_reducible refine cls_bind XX hr hf (wpAny_call (sm_get XX hsm (wpAny_pure ?_)))) | simp only [Bool.false_eq_true, if_false, List.isEmpty_cons] | with_reducible refine wpAny_call ?_ | lk)
  have hA' : AOk n (A.under (.builtin "type.__call__" ⟨[.ref matchAt, x1, x2, x3], []⟩)) := by
    obtain ⟨h1, h2⟩ := tc_weight matchAt [x1, x2, x3] []
    refine ⟨hA.handled, ?_, ?_⟩
    · have := hA.depth; show A.depth + _ + n ≤ 990; (first | lia | omega)
    · have := hA.units; show A.units + _ + 20 * n ≤ 9000; (first | lia | omega)
  refine codeAny_mono (hN _ ⟨hh, g, d, t + 1, os⟩ hid [.ref matchAt, x1, x2, x3] hA' ht hsz hl ⟨_, _, rfl, rfl, _, _, rfl, r1, _, _, rfl, r2, _, _, rfl, r3, rfl⟩) fun r s' p => ?_
  obtain ⟨x, rfl, v, objs', rv, L1, fr, kp, hg, ho, rfl⟩ := p
  obtain ⟨ax, items, rfl, nax, hM, rs⟩ := rv
  obtain ⟨h2, g2, d2, t2, os2⟩ := s'
  dsimp only at hg ho hM rs kp
  have k2 : ∀ b o, hh.get? b = some o → h2.get? b = some o := fun b o e => kp b o e List.not_mem_nil
  have MO2 := hX h2 fun b o e => k2 b o (ht b o e)
  have ty := IsMat.type (M := model prog w) hM
  have sf : Looks (model prog w) h2 (isSubtype (.ref matchAt) (.ref matchAt)) true := MO2.cls.mro.andThen (Looks.of_pure (by kernel_rfl))
  have so : Looks (model prog w) h2 (isSubtype (.ref matchAt) (.type "object")) true := MO2.cls.mro.andThen (Looks.of_pure (by kernel_rfl))
  have ini := MO2.init
  have made2 := MO2.cls.made (M := model prog w)
  have bnd := oi_bind (.ref ax)
  unfold isInstance callSpecial? specialOf
  repeat (first | simp only [Bool.false_eq_true, if_false, Bool.not_true] | with_reducible refine wpAny_call ?_ | rw [bnd] | lk)
  refine codeAny_call_builtin oi_plain entry_oi (@check_slot (model prog w) _ _ _ "object.__init__" "object" "__init__" (.ref ax) [x1, x2, x3] [] _ oi_kind oi_split (ty.andThen so) (oi4_args _ _ _ _) ?_)
  unfold Builtin.«object.__init__»
  repeat (first | simp only [Bool.false_eq_true, if_false, Bool.not_true] | lk)
  refine ⟨_, rfl, .mat vs, [], ⟨ax, items, rfl, fun q => nax (List.mem_append_right _ q), hM, rs.less fun a ha => List.mem_append_right _ ha⟩, ?_, ?_, fun b o e _ => k2 b o e, hg, ho, rfl, rfl⟩
  · exact ⟨(fun p hp => nomatch hp), rfl, List.nodup_nil, fun a _ => List.not_mem_nil, fun a ha => L1.top a (List.mem_append_right _ ha)⟩
  · intro a ha; cases ha
end
end Mine
end PtLg36
section PtMf
namespace Mine.M
/-- two items alike -/
noncomputable abbrev E (a b : List Int) (i j : Nat) : Prop := i < a.length ∧ a[i]? = b[j]?
section
variable (a b : List Int) (alo blo : Nat)
/-- how far two lists are alike up to the ends alo + p and j -/
noncomputable def rl : Nat → Nat → Nat
  | 0, j => if E a b alo j then 1 else 0
  | p + 1, j => if E a b (alo + (p + 1)) j then (if blo < j then rl p (j - 1) else 0) + 1 else 0
noncomputable def pv : Nat → Nat → Nat
  | 0, _ => 0
  | p + 1, j => if blo ≤ j then rl a b alo blo p j else 0
end
variable {a b : List Int} {alo ahi blo bhi : Nat}
theorem rl_eq (p j : Nat) : rl a b alo blo p j = if E a b (alo + p) j then (if j = 0 then 0 else pv a b alo blo p (j - 1)) + 1 else 0 := by
  cases p with
  | zero => simp [rl, pv]
  | succ p =>
    simp only [rl, pv]
    by_cases h : E a b (alo + (p + 1)) j
    · rw [if_pos h, if_pos h]
      by_cases h0 : j = 0
      · subst h0; simp
      · rw [if_neg h0]
        by_cases hb : blo < j
        · rw [if_pos hb, if_pos (by (first | lia | omega))]
        · rw [if_neg hb, if_neg (by (first | lia | omega))]
    · rw [if_neg h, if_neg h]
theorem rl_spec : ∀ (p j k : Nat), blo ≤ j → (k ≤ rl a b alo blo p j ↔ k ≤ p + 1 ∧ k ≤ j - blo + 1 ∧ ∀ t, t < k → E a b (alo + p - t) (j - t))
  | 0, j, k, hj => by
    unfold rl
    split
    · rename_i h
      constructor
      · intro hk
        refine ⟨by (first | lia | omega), by (first | lia | omega), fun t ht => ?_⟩
        have : t = 0 := by (first | lia | omega)
        subst this; exact h
      · exact fun h => h.1
    · rename_i h
      constructor
      · intro hk
        have : k = 0 := by (first | lia | omega)
        subst this
        exact ⟨by (first | lia | omega), by (first | lia | omega), fun t ht => by (first | lia | omega)⟩
      · rintro ⟨_, _, h3⟩
        rcases Nat.eq_zero_or_pos k with h0 | h0
        · (first | lia | omega)
        · exact absurd (h3 0 h0) h
  | p + 1, j, k, hj => by
    unfold rl
    split
    · rename_i h
      by_cases hb : blo < j
      · rw [if_pos hb]
        have ih := rl_spec p (j - 1) (k - 1) (by (first | lia | omega))
        rcases Nat.eq_zero_or_pos k with h0 | h0
        · subst h0; exact ⟨fun _ => ⟨by (first | lia | omega), by (first | lia | omega), fun t ht => by (first | lia | omega)⟩, fun _ => by (first | lia | omega)⟩
        · constructor
          · intro hk
            obtain ⟨h1, h2, h3⟩ := ih.mp (by (first | lia | omega))
            refine ⟨by (first | lia | omega), by (first | lia | omega), fun t ht => ?_⟩
            rcases Nat.eq_zero_or_pos t with ht0 | ht0
            · subst ht0; exact h
            · have := h3 (t - 1) (by (first | lia | omega))
              rwa [show alo + p - (t - 1) = alo + (p + 1) - t by (first | lia | omega), show j - 1 - (t - 1) = j - t by (first | lia | omega)] at this
          · rintro ⟨h1, h2, h3⟩
            have := ih.mpr ⟨by (first | lia | omega), by (first | lia | omega), fun t ht => by
              have := h3 (t + 1) (by (first | lia | omega))
              rwa [show alo + (p + 1) - (t + 1) = alo + p - t by (first | lia | omega), show j - (t + 1) = j - 1 - t by (first | lia | omega)] at this⟩
            (first | lia | omega)
      · rw [if_neg hb]
        constructor
        · intro hk
          refine ⟨by (first | lia | omega), by (first | lia | omega), fun t ht => ?_⟩
          have : t = 0 := by (first | lia | omega)
          subst this; exact h
        · rintro ⟨h1, h2, h3⟩; (first | lia | omega)
    · rename_i h
      constructor
      · intro hk
        have : k = 0 := by (first | lia | omega)
        subst this
        exact ⟨by (first | lia | omega), by (first | lia | omega), fun t ht => by (first | lia | omega)⟩
      · rintro ⟨_, _, h3⟩
        rcases Nat.eq_zero_or_pos k with h0 | h0
        · (first | lia | omega)
        · exact absurd (h3 0 h0) h
theorem rl_zero {p j : Nat} (h : ¬ E a b (alo + p) j) : rl a b alo blo p j = 0 := by rw [rl_eq, if_neg h]
/-- a common run within bounds -/
noncomputable def Run (a b : List Int) (alo ahi blo bhi i j k : Nat) : Prop := alo ≤ i ∧ i + k ≤ ahi ∧ blo ≤ j ∧ j + k ≤ bhi ∧ ∀ t, t < k → E a b (i + t) (j + t)
/-- the longest one, of several the first -/
structure Best (a b : List Int) (alo ahi blo bhi i j k : Nat) : Prop where
  run : Run a b alo ahi blo bhi i j k
  most : ∀ i' j' k', Run a b alo ahi blo bhi i' j' k' → 0 < k' → k' < k ∨ (k' = k ∧ (i < i' ∨ (i = i' ∧ j ≤ j')))
  zero : k = 0 → i = alo ∧ j = blo
theorem Best.uniq {i j k i' j' k' : Nat} (x : Best a b alo ahi blo bhi i j k) (y : Best a b alo ahi blo bhi i' j' k') : i = i' ∧ j = j' ∧ k = k' := by
  rcases Nat.eq_zero_or_pos k with hk | hk
  · rcases Nat.eq_zero_or_pos k' with hk' | hk'
    · have := x.zero hk; have := y.zero hk'; (first | lia | omega)
    · have := x.most _ _ _ y.run hk'; (first | lia | omega)
  · rcases Nat.eq_zero_or_pos k' with hk' | hk'
    · have := y.most _ _ _ x.run hk; (first | lia | omega)
    · have h1 := x.most _ _ _ y.run hk'
      have h2 := y.most _ _ _ x.run hk
      (first | lia | omega)
/-- the best so far -/
structure Bs (a b : List Int) (alo ahi blo bhi : Nat) (S : Nat → Nat → Prop) (bi bj bk : Nat) : Prop where
  zero : bk = 0 → bi = alo ∧ bj = blo
  pos : 0 < bk → ∃ p j, S p j ∧ alo + p < ahi ∧ blo ≤ j ∧ j < bhi ∧ rl a b alo blo p j = bk ∧ bi + bk = alo + p + 1 ∧ bj + bk = j + 1 ∧ ∀ p' j', S p' j' → blo ≤ j' → j' < bhi → rl a b alo blo p' j' = bk → p < p' ∨ (p = p' ∧ j ≤ j')
  most : ∀ p j, S p j → blo ≤ j → j < bhi → rl a b alo blo p j ≤ bk
theorem Bs.start : Bs a b alo ahi blo bhi (fun p _ => p < 0) alo blo 0 := ⟨fun _ => ⟨rfl, rfl⟩, fun h => by (first | lia | omega), fun p j h => by (first | lia | omega)⟩
theorem Bs.ext {S S' : Nat → Nat → Prop} {bi bj bk : Nat} (h : Bs a b alo ahi blo bhi S bi bj bk) (k : ∀ p j, blo ≤ j → j < bhi → S' p j → S p j ∨ rl a b alo blo p j = 0) (k' : ∀ p j, S p j → S' p j) : Bs a b alo ahi blo bhi S' bi bj bk := by
  refine ⟨h.zero, fun hb => ?_, fun p j hs h1 h2 => ?_⟩
  · obtain ⟨p, j, h1, h2, h3, h4, h5, h6, h7, h8⟩ := h.pos hb
    refine ⟨p, j, k' _ _ h1, h2, h3, h4, h5, h6, h7, fun p' j' hs h9 h10 h11 => ?_⟩
    rcases k p' j' h9 h10 hs with q | q
    · exact h8 p' j' q h9 h10 h11
    · (first | lia | omega)
  · rcases k p j h1 h2 hs with q | q
    · exact h.most p j q h1 h2
    · (first | lia | omega)
theorem Bs.keep {S S' : Nat → Nat → Prop} {bi bj bk P J : Nat} (h : Bs a b alo ahi blo bhi S bi bj bk) (hS : ∀ p j, S' p j ↔ S p j ∨ (p = P ∧ j = J)) (hlt : ∀ p j, S p j → p < P ∨ (p = P ∧ j < J)) (hk : rl a b alo blo P J ≤ bk) : Bs a b alo ahi blo bhi S' bi bj bk := by
  refine ⟨h.zero, fun hb => ?_, fun p j hs h1 h2 => ?_⟩
  · obtain ⟨p, j, h1, h2, h3, h4, h5, h6, h7, h8⟩ := h.pos hb
    refine ⟨p, j, (hS _ _).mpr (.inl h1), h2, h3, h4, h5, h6, h7, fun p' j' hs h9 h10 h11 => ?_⟩
    rcases (hS _ _).mp hs with q | ⟨rfl, rfl⟩
    · exact h8 p' j' q h9 h10 h11
    · have := hlt p j h1; (first | lia | omega)
  · rcases (hS _ _).mp hs with q | ⟨rfl, rfl⟩
    · exact h.most p j q h1 h2
    · exact hk
theorem Bs.up {S S' : Nat → Nat → Prop} {bi bj bk P J bi' bj' : Nat} (h : Bs a b alo ahi blo bhi S bi bj bk) (hS : ∀ p j, S' p j ↔ S p j ∨ (p = P ∧ j = J)) (h1 : alo + P < ahi) (h2 : blo ≤ J) (h3 : J < bhi) (hk : bk < rl a b alo blo P J)
    (e1 : bi' + rl a b alo blo P J = alo + P + 1) (e2 : bj' + rl a b alo blo P J = J + 1) : Bs a b alo ahi blo bhi S' bi' bj' (rl a b alo blo P J) := by
  refine ⟨fun q => by (first | lia | omega), fun _ => ⟨P, J, (hS _ _).mpr (.inr ⟨rfl, rfl⟩), h1, h2, h3, rfl, e1, e2, fun p' j' hs h4 h5 h6 => ?_⟩, fun p j hs h4 h5 => ?_⟩
  · rcases (hS _ _).mp hs with q | ⟨rfl, rfl⟩
    · have := h.most p' j' q h4 h5; (first | lia | omega)
    · exact .inr ⟨rfl, Nat.le_refl _⟩
  · rcases (hS _ _).mp hs with q | ⟨rfl, rfl⟩
    · have := h.most p j q h4 h5; (first | lia | omega)
    · exact Nat.le_refl _
/-- at the end -/
theorem Bs.best {bi bj bk : Nat} (ha : alo ≤ ahi) (hb : blo ≤ bhi) (h : Bs a b alo ahi blo bhi (fun p _ => p < ahi - alo) bi bj bk) : Best a b alo ahi blo bhi bi bj bk := by
  have ends : ∀ i' j' k', Run a b alo ahi blo bhi i' j' k' → 0 < k' → k' ≤ rl a b alo blo (i' + k' - 1 - alo) (j' + k' - 1) := fun i' j' k' r hk => by
    obtain ⟨h1, h2, h3, h4, h5⟩ := r
    refine (rl_spec _ _ _ (by (first | lia | omega))).mpr ⟨by (first | lia | omega), by (first | lia | omega), fun t ht => ?_⟩
    have := h5 (k' - 1 - t) (by (first | lia | omega))
    rwa [show i' + (k' - 1 - t) = alo + (i' + k' - 1 - alo) - t by (first | lia | omega), show j' + (k' - 1 - t) = j' + k' - 1 - t by (first | lia | omega)] at this
  rcases Nat.eq_zero_or_pos bk with hk | hk
  · subst hk
    obtain ⟨rfl, rfl⟩ := h.zero rfl
    refine ⟨⟨Nat.le_refl _, by (first | lia | omega), Nat.le_refl _, by (first | lia | omega), fun t ht => by (first | lia | omega)⟩, fun i' j' k' r hk' => ?_, fun _ => ⟨rfl, rfl⟩⟩
    have e := ends i' j' k' r hk'
    obtain ⟨h1, h2, h3, h4, h5⟩ := r
    have := h.most (i' + k' - 1 - bi) (j' + k' - 1) (by (first | lia | omega)) (by (first | lia | omega)) (by (first | lia | omega))
    (first | lia | omega)
  · obtain ⟨p, j, h1, h2, h3, h4, h5, h6, h7, h8⟩ := h.pos hk
    obtain ⟨g1, g2, g3⟩ := (rl_spec (a := a) (b := b) (alo := alo) p j bk h3).mp (by (first | lia | omega))
    refine ⟨⟨by (first | lia | omega), by (first | lia | omega), by (first | lia | omega), by (first | lia | omega), fun t ht => ?_⟩, fun i' j' k' r hk' => ?_, fun q => by (first | lia | omega)⟩
    · have := g3 (bk - 1 - t) (by (first | lia | omega))
      rwa [show alo + p - (bk - 1 - t) = bi + t by (first | lia | omega), show j - (bk - 1 - t) = bj + t by (first | lia | omega)] at this
    · have e := ends i' j' k' r hk'
      obtain ⟨r1, r2, r3, r4, r5⟩ := r
      have m := h.most (i' + k' - 1 - alo) (j' + k' - 1) (by (first | lia | omega)) (by (first | lia | omega)) (by (first | lia | omega))
      rcases Nat.lt_or_ge k' bk with q | q
      · exact .inl q
      · have ek : k' = bk := by (first | lia | omega)
        have := h8 (i' + k' - 1 - alo) (j' + k' - 1) (by (first | lia | omega)) (by (first | lia | omega)) (by (first | lia | omega)) (by (first | lia | omega))
        (first | lia | omega)
/-- it goes no further -/
theorem Best.left {i j k : Nat} (h : Best a b alo ahi blo bhi i j k) (h1 : alo < i) (h2 : blo < j) : ¬ E a b (i - 1) (j - 1) := fun e => by
  obtain ⟨r1, r2, r3, r4, r5⟩ := h.run
  have := h.most (i - 1) (j - 1) (k + 1) ⟨by (first | lia | omega), by (first | lia | omega), by (first | lia | omega), by (first | lia | omega), fun t ht => by
    rcases Nat.eq_zero_or_pos t with q | q
    · subst q; exact e
    · have := r5 (t - 1) (by (first | lia | omega))
      rwa [show i + (t - 1) = i - 1 + t by (first | lia | omega), show j + (t - 1) = j - 1 + t by (first | lia | omega)] at this⟩ (by (first | lia | omega))
  (first | lia | omega)
theorem Best.right {i j k : Nat} (h : Best a b alo ahi blo bhi i j k) (h1 : i + k < ahi) (h2 : j + k < bhi) : ¬ E a b (i + k) (j + k) := fun e => by
  obtain ⟨r1, r2, r3, r4, r5⟩ := h.run
  have := h.most i j (k + 1) ⟨by (first | lia | omega), by (first | lia | omega), by (first | lia | omega), by (first | lia | omega), fun t ht => by
    rcases Nat.lt_or_ge t k with q | q
    · exact r5 t q
    · rw [show t = k by (first | lia | omega)]; exact e⟩ (by (first | lia | omega))
  (first | lia | omega)
end Mine.M
end PtMf
section PtS5
open PySem PySem.W PyProof.Rows
namespace Mine
section
variable {prog : Program} {w : World} {mb : Str → Option Value} {top : Heap}
theorem matOk (T : Tp w mb top) : ∀ h : Heap, (∀ b o, top.get? b = some o → h.get? b = some o) → MatOk (model prog w) h := fun h k => by
  have X := T.k.keeps k
  exact ⟨⟨_, _, _, _, k _ _ (T.k 135 _ (by rfl)), rfl, rfl, rfl, rfl, rfl⟩, looks_findIn X (by rfl), looks_findIn X (by rfl), looks_findIn X (by rfl)⟩
theorem match_new_fn (T : Tp w mb top) {v₁ v₂ v₃ : V} : Fc prog w top 5 (.ref 82) [.con (.ref matchAt), v₁, v₂, v₃] [] (fun u _ => u = .mat [v₁, v₂, v₃]) := by
  refine Fc.fn0 (n := 4) ["_cls", "a", "b", "size"] (T.k 82 _ (by rfl)) rfl rfl (codeRec_of T.k (by rfl)) T.lim rfl ?_ (by decide) (by decide) (by decide) ?_ rfl rfl rfl
  · exact lenS fun a => lenS fun b => lenS fun c => lenS fun d => len0 rfl
  · intro c L A hA hc
    subst hc
    refine WS.cons (WX.expr (W.str ?_))
    refine WS.cons (WX.ret (W.tnew T.k (matOk T) (W.blt T ⟨rfl, W.loc rfl ⟨rfl, W.tup (WL.cons (W.loc rfl (WL.cons (W.loc rfl (WL.cons (W.loc rfl (WL.nil ⟨Nat.le_of_ble_eq_true rfl, _, .inl rfl, Nat.le_of_ble_eq_true rfl, ?_⟩)))))))⟩⟩)))
    rfl
theorem match_fn (T : Tp w mb top) {v₁ v₂ v₃ : V} : Fc prog w top 6 (.ref 135) [v₁, v₂, v₃] [] (fun u objs => u = .mat [v₁, v₂, v₃] ∧ objs = []) :=
  Fc.mat (n := 5) (fN := 82) (sm := 136) T.k (matOk T) (by rfl) (by rfl) (by rfl) (by rfl) (by rfl) (match_new_fn T)
end
end Mine
end PtS5
section PtS6
open PySem PySem.W PyProof.Rows
namespace Mine
open M
theorem b2j_get (b : List Int) (e : Int) : (b2jV b e).getD (.lst []) = .lst (nL (idxs b b.length e)) := by
  unfold b2jV
  split
  · rename_i h; rw [h]; rfl
  · rfl
theorem idxs_mem {b : List Int} {e : Int} {j : Nat} : j ∈ idxs b b.length e ↔ b[j]? = some e := by
  unfold idxs
  rw [List.mem_filter, List.mem_range]
  constructor
  · rintro ⟨_, h⟩; simpa using h
  · intro h; exact ⟨(List.getElem?_eq_some_iff.mp h).1, by simp [h]⟩
theorem idxs_sorted (b : List Int) (n : Nat) (e : Int) : (idxs b n e).Pairwise (· < ·) := by
  unfold idxs
  exact List.Pairwise.filter _ List.pairwise_lt_range
theorem mem_take_lt {l : List Nat} (h : l.Pairwise (· < ·)) {q j : Nat} (hq : l[q]? = some j) : ∀ x, x ∈ l → x < j → x ∈ l.take q := fun x hx hlt => by
  obtain ⟨i, hi, rfl⟩ := List.mem_iff_getElem.mp hx
  obtain ⟨hq', rfl⟩ := List.getElem?_eq_some_iff.mp hq
  have : i < q := by
    rcases Nat.lt_or_ge i q with h' | h'
    · exact h'
    · rcases Nat.eq_or_lt_of_le h' with e | h''
      · subst e; (first | lia | omega)
      · have := List.pairwise_iff_getElem.mp h q i hq' hi h''; (first | lia | omega)
  rw [List.mem_take_iff_getElem]
  exact ⟨i, by (first | lia | omega), rfl⟩
theorem take_lt {l : List Nat} (h : l.Pairwise (· < ·)) {q j : Nat} (hq : l[q]? = some j) : ∀ x, x ∈ l.take q → x < j := fun x hx => by
  obtain ⟨i, hi, rfl⟩ := List.mem_take_iff_getElem.mp hx
  obtain ⟨hq', rfl⟩ := List.getElem?_eq_some_iff.mp hq
  exact List.pairwise_iff_getElem.mp h i q (by (first | lia | omega)) hq' (by (first | lia | omega))
theorem take_succ_mem {l : List Nat} {q j : Nat} (hq : l[q]? = some j) (x : Nat) : x ∈ l.take (q + 1) ↔ x ∈ l.take q ∨ x = j := by
  rw [List.take_add_one, hq]; simp
noncomputable def MP (a b : List Int) (alo blo bhi P : Nat) (M : Int → Option V) : Prop := ∀ j : Nat, j ≤ bhi → (M ((j : Int) - 1)).getD (.int 0) = .int ((if j = 0 then 0 else pv a b alo blo P (j - 1) : Nat) : Int)
noncomputable def nm (ps : List Nat) (q blo : Nat) (R : Nat → Nat) : Int → Option V := fun z => if 0 ≤ z ∧ z.toNat ∈ ps.take q ∧ blo ≤ z.toNat then some (.int (R z.toNat : Nat)) else none
theorem nm_skip {ps : List Nat} {q blo j : Nat} {R : Nat → Nat} (hq : ps[q]? = some j) (h : j < blo) : nm ps (q + 1) blo R = nm ps q blo R := by
  funext z
  unfold nm
  congr 1
  apply propext
  rw [take_succ_mem hq]
  constructor
  · rintro ⟨h1, h2 | h2, h3⟩
    · exact ⟨h1, h2, h3⟩
    · (first | lia | omega)
  · rintro ⟨h1, h2, h3⟩; exact ⟨h1, .inl h2, h3⟩
theorem nm_put {ps : List Nat} {q blo j : Nat} {R : Nat → Nat} (hq : ps[q]? = some j) (h : blo ≤ j) : mset (nm ps q blo R) (j : Int) (.int (R j : Nat)) = nm ps (q + 1) blo R := by
  funext z
  unfold mset nm
  by_cases e : z = (j : Int)
  · subst e
    rw [if_pos rfl, if_pos ⟨by (first | lia | omega), by rw [take_succ_mem hq]; simp, by simpa using h⟩]
    simp
  · rw [if_neg e]
    congr 1
    apply propext
    rw [take_succ_mem hq]
    constructor
    · rintro ⟨h1, h2, h3⟩; exact ⟨h1, .inl h2, h3⟩
    · rintro ⟨h1, h2 | h2, h3⟩
      · exact ⟨h1, h2, h3⟩
      · (first | lia | omega)
theorem MP.zero (a b : List Int) (alo blo bhi : Nat) : MP a b alo blo bhi 0 (fun _ => none) := fun j _ => by
  simp only [pv, Option.getD_none]
  split <;> rfl
/-- the new table, whole up to the bound -/
theorem MP.next {a b : List Int} {alo blo bhi P q : Nat} {e : Int} (he : a[alo + P]? = some e) (hq : ∀ j, j ∈ idxs b b.length e → j < bhi → j ∈ (idxs b b.length e).take q) : MP a b alo blo bhi (P + 1) (nm (idxs b b.length e) q blo (rl a b alo blo P)) := fun j hj => by
  rcases Nat.eq_zero_or_pos j with h0 | h0
  · subst h0; unfold nm; simp
  · rw [if_neg (by (first | lia | omega))]
    have e1 : (j : Int) - 1 = ((j - 1 : Nat) : Int) := by (first | lia | omega)
    unfold nm pv
    rw [e1]
    simp only [Int.toNat_natCast]
    by_cases hb : blo ≤ j - 1
    · rw [if_pos hb]
      by_cases hE : b[j - 1]? = some e
      · rw [if_pos ⟨by (first | lia | omega), hq _ (idxs_mem.mpr hE) (by (first | lia | omega)), hb⟩]; rfl
      · have : rl a b alo blo P (j - 1) = 0 := rl_zero fun h => hE (by rw [← h.2, he])
        rw [this, if_neg]
        · rfl
        · rintro ⟨_, h2, _⟩
          exact hE (idxs_mem.mp (List.mem_of_mem_take h2))
    · rw [if_neg hb, if_neg (by rintro ⟨_, _, h3⟩; exact hb h3)]; rfl
end Mine
end PtS6
section PtS7
open PySem PySem.W PyProof.Rows
namespace Mine
open M
theorem rngV_get {a b m : Nat} (h : a ≤ b) {u : V} (e : (rngV a b 1)[m]? = some u) : m < b - a ∧ u = .int ((a + m : Nat) : Int) := by
  unfold rngV at e
  rw [rangeSize_one] at e
  simp only [List.getElem?_map, Option.map_eq_some_iff] at e
  obtain ⟨k, hk, rfl⟩ := e
  obtain ⟨lt, rfl⟩ := List.getElem?_eq_some_iff.mp hk
  simp only [List.length_range] at lt
  simp only [List.getElem_range]
  split at lt <;> simp at lt
  refine ⟨by (first | lia | omega), ?_⟩
  simp
theorem rngV_len {a b : Nat} (h : a ≤ b) : (rngV a b 1).length = b - a := by
  unfold rngV
  rw [rangeSize_one, List.length_map, List.length_range]
  split <;> (first | lia | omega)
theorem small_rng {a b : Nat} (h : b ≤ sizeLine) (h' : a ≤ sizeLine) : Builtin.Range.small (a : Int) (b : Int) 1 = true := by
  have : sizeLine = 16777216 := rfl
  exact small_one (by (first | lia | omega)) (by (first | lia | omega)) (by (first | lia | omega)) (by (first | lia | omega))
theorem iL_get {l : List Int} {k : Nat} {i : Int} (h : k < l.length) (e : i = (k : Int)) : (l.map V.int)[i.toNat]? = some (.int l[k]) := by
  subst e; simp [h]
noncomputable def flV (a b : List Int) (m q : Addr) (alo ahi blo bhi bi bj bk : Nat) : List (Str × V) :=
  [("a", iL a), ("b", iL b), ("b2j", .ref m), ("isbjunk", .bm "set.__contains__" .eset), ("alo", .int alo), ("ahi", .int ahi), ("blo", .int blo), ("bhi", .int bhi), ("besti", .int bi), ("bestj", .int bj), ("bestsize", .int bk), ("nothing", .lst []), ("j2len", .ref q)]
noncomputable def flI (a b : List Int) (m q q' : Addr) (alo ahi blo bhi bi bj bk P : Nat) : List (Str × V) :=
  ("newj2len", .ref q') :: ("j2lenget", .bm "dict.get" (.ref q)) :: ("i", .int ((alo + P : Nat) : Int)) :: flV a b m q alo ahi blo bhi bi bj bk
theorem nL_get {l : List Nat} {k : Nat} {u : V} (h : (nL l)[k]? = some u) : ∃ j, l[k]? = some j ∧ u = .int (j : Int) := by
  simp only [nL, List.getElem?_map, Option.map_eq_some_iff] at h
  obtain ⟨j, h1, rfl⟩ := h
  exact ⟨j, h1, rfl⟩
theorem idxs_len (b : List Int) (e : Int) : (idxs b b.length e).length ≤ b.length := by
  unfold idxs
  exact Nat.le_trans (List.length_filter_le _ _) (by simp)
section
variable {prog : Program} {w : World} {mb : Str → Option Value} {top : Heap}
theorem flm_fn (T : Tp w mb top) {x d m : Addr} {f : Str → Option V} {z n : Nat} {a b : List Int} {alo ahi blo bhi : Nat} (hfa : f "a" = some (iL a)) (hfb : f "b" = some (iL b)) (hf2 : f "b2j" = some (.ref m)) (hfj : f "bjunk" = some .eset)
    (hms : (m == sysModules) = false) (za : a.length ≤ 1000) (zb : b.length ≤ 1000) (h1 : alo ≤ ahi) (h2 : ahi ≤ a.length) (h3 : blo ≤ bhi) (h4 : bhi ≤ b.length) :
    Fc prog w top 10 (.ref 196) [.ref x, .int alo, .int ahi, .int blo, .int bhi] [(x, .inst 242 d), (d, .attrs f z), (m, .map (b2jV b) n)]
      (fun u objs => ∃ i j k : Nat, u = .mat [.int i, .int j, .int k] ∧ Best a b alo ahi blo bhi i j k ∧ objs = [(x, .inst 242 d), (d, .attrs f z), (m, .map (b2jV b) n)]) := by
  refine Fc.fn (n := 9) (vars := [("self", .ref x), ("alo", .int alo), ("ahi", .int ahi), ("blo", .int blo), ("bhi", .int bhi)]) (bind := fun xs => (["self", "alo", "ahi", "blo", "bhi"] : List Str).zip xs) (T.k 196 _ (by rfl)) rfl rfl (codeRec_of T.k (by rfl)) T.lim ?_ (by decide) ?_ (by show (["self", "alo", "ahi", "blo", "bhi"] : List Str).Nodup; decide) ?_ rfl rfl rfl
  · intro s own xs ht _ r
    refine ⟨?_, Bound.zip ["self", "alo", "ahi", "blo", "bhi"] rfl r⟩
    have e : xs.length = 5 := by first | exact r.length | exact r.length.symm
    clear r; revert e; revert xs
    exact lenS fun x1 => lenS fun x2 => lenS fun x3 => lenS fun x4 => lenS fun x5 => len0 (BindsTo.of_defaults (T := 189) rfl (ht _ _ (T.k 189 _ (by rfl))) rfl rfl rfl)
  · (repeat' (first | exact List.forall_mem_nil _ | refine List.forall_mem_cons.mpr ⟨rfl, ?_⟩))
  · intro c L A hA hc
    subst hc
    have hs : sizeLine = 16777216 := rfl
    refine WS.cons (WX.expr (W.str ?_))
    refine WS.cons (WX.unpack (W.tup ?_))
    refine WL.cons (W.attr T.k (smOk _) (W.loc rfl ⟨x, d, _, _, _, rfl, .head _, .tail _ (.head _), hfa, rfl, ?_⟩))
    refine WL.cons (W.attr T.k (smOk _) (W.loc rfl ⟨x, d, _, _, _, rfl, .head _, .tail _ (.head _), hfb, rfl, ?_⟩))
    refine WL.cons (W.attr T.k (smOk _) (W.loc rfl ⟨x, d, _, _, _, rfl, .head _, .tail _ (.head _), hf2, rfl, ?_⟩))
    refine WL.cons (W.attrHas (W.attr T.k (smOk _) (W.loc rfl ⟨x, d, _, _, _, rfl, .head _, .tail _ (.head _), hfj, rfl, rfl, ?_⟩)))
    refine WL.nil ⟨Nat.le_of_ble_eq_true rfl, WF.tup hA Unp.tup ?_⟩
    refine WFs.cons (WF.name (WFs.cons (WF.name (WFs.cons (WF.name (WFs.cons (WF.name (WFs.nil ?_))))))))
    refine WS.cons (WX.ifs (WB.cmp hA (W.loc rfl (W.none ⟨_, Op.isNone (b := false) rfl, ?_⟩))))
    rw [if_neg (by decide)]
    refine WS.nil (WS.cons (WX.ifs (WB.cmp hA (W.loc rfl (W.none ⟨_, Op.isNone (b := false) rfl, ?_⟩)))))
    rw [if_neg (by decide)]
    refine WS.nil ?_
    refine WS.cons (WX.swapped ["besti", "bestj", "bestsize"] hA (W.tup ?_))
    refine WL.cons (W.loc rfl (WL.cons (W.loc rfl (WL.cons (W.int (WL.nil ⟨Nat.le_of_ble_eq_true rfl, _, Unp.tup, rfl, ?_⟩))))))
    refine WFs.cons (WF.bind (WFs.cons (WF.bind (WFs.cons (WF.bind (WFs.nil ?_))))))
    refine WS.cons (WX.assign (W.dict0 T.lim fun q₀ hq₀ hqs₀ => ?_))
    refine WS.cons (WX.assign (W.list (WL.nil ⟨Nat.zero_le _, ?_⟩)))
    refine WS.seq (fun st => ∃ bi bj bk q M nq, (q == sysModules) = false ∧ Best a b alo ahi blo bhi bi bj bk ∧ Le ⟨flV a b m q alo ahi blo bhi bi bj bk, [(q, .map M nq), (x, .inst 242 d), (d, .attrs f z), (m, .map (b2jV b) n)]⟩ st)
      (WX.for (WI.rng hA.handled (W.call hA (W.blt T ⟨_, rfl, Kpt.type, WL.cons (W.loc rfl (WL.cons (W.loc rfl (WL.nil ⟨_, Op.range2, _, _, _, rfl, small_rng (by (first | lia | omega)) (by (first | lia | omega)),
        fun P st => ∃ bi bj bk q M nq, (q == sysModules) = false ∧ Bs a b alo ahi blo bhi (fun p _ => p < P) bi bj bk ∧ MP a b alo blo bhi P M ∧ nq ≤ 1000 ∧ Le ⟨flV a b m q alo ahi blo bhi bi bj bk, [(q, .map M nq), (x, .inst 242 d), (d, .attrs f z), (m, .map (b2jV b) n)]⟩ st, ?_, ?_, ?_⟩))))⟩)))) ?_
    · exact ⟨alo, blo, 0, q₀, _, 0, hqs₀, Bs.start, MP.zero _ _ _ _ _, by (first | lia | omega), rfl, by (repeat' (first | exact List.forall_mem_nil _ | refine List.forall_mem_cons.mpr ⟨rfl, ?_⟩))⟩
    · rintro P st₂ u hu ⟨bi, bj, bk, q, M, nq, hqs, hB, hM, hnq, hle⟩
      obtain ⟨hP, rfl⟩ := rngV_get h1 hu
      refine WF.le hle (WF.name ?_)
      have ga : alo + P < a.length := by (first | lia | omega)
      have he : a[alo + P]? = some a[alo + P] := List.getElem?_eq_getElem ga
      generalize a[alo + P] = e at he
      refine WS.cons (WX.assign (W.attrGet (W.loc rfl ⟨q, _, _, rfl, .head _, ?_⟩)))
      refine WS.cons (WX.assign (W.dict0 T.lim fun q' hq' hqs' => ?_))
      refine WS.seq (fun st => ∃ bi bj bk N nn, Bs a b alo ahi blo bhi (fun p _ => p < P + 1) bi bj bk ∧ MP a b alo blo bhi (P + 1) N ∧ nn ≤ 1000 ∧ Le ⟨flI a b m q q' alo ahi blo bhi bi bj bk P, [(q', .map N nn), (q, .map M nq), (x, .inst 242 d), (d, .attrs f z), (m, .map (b2jV b) n)]⟩ st)
        (WX.for (WI.lst hA.handled (W.bmeth (W.loc rfl ⟨_, Mth.map F.slot_dict_get F.type_dict_get (.tail _ (.tail _ (.tail _ (.tail _ (.head _))))), ?_⟩)))) ?_
      · refine WL.cons (W.sub hA (W.loc rfl (W.loc rfl ⟨.int e, Sub.lst (by (first | lia | omega)) (by (first | lia | omega)) (by rw [Int.toNat_natCast, List.getElem?_map, he]; rfl), ?_⟩)))
        refine WL.cons (W.loc rfl (WL.nil (WC.get (.tail _ (.tail _ (.tail _ (.tail _ (.head _))))) hms ?_)))
        rw [b2j_get]
        have hsrt := idxs_sorted b b.length e
        refine ⟨_, rfl, fun k st => ∃ bi bj bk, Bs a b alo ahi blo bhi (fun p j => p < P ∨ (p = P ∧ j ∈ (idxs b b.length e).take k)) bi bj bk ∧ ∃ nn, nn ≤ k ∧ Le ⟨flI a b m q q' alo ahi blo bhi bi bj bk P, [(q', .map (nm (idxs b b.length e) k blo (rl a b alo blo P)) nn), (q, .map M nq), (x, .inst 242 d), (d, .attrs f z), (m, .map (b2jV b) n)]⟩ st, ?_, ?_, ?_⟩
        · refine ⟨bi, bj, bk, hB.ext (fun p j _ _ h => .inl (by simpa using h)) (fun p j h => .inl h), 0, Nat.le_refl _, ?_⟩
          rw [show nm (idxs b b.length e) 0 blo (rl a b alo blo P) = fun _ => Option.none from by funext z; simp [nm]]
          exact (Le.of rfl rfl)
        · rintro k st₃ u hu ⟨bi, bj, bk, hB, nn, hnn, hle⟩
          obtain ⟨j, hj, rfl⟩ := nL_get hu
          have hjm : b[j]? = some e := idxs_mem.mp (List.mem_of_getElem? hj)
          have hjl : j < b.length := (List.getElem?_eq_some_iff.mp hjm).1
          have hkl : k < (idxs b b.length e).length := (List.getElem?_eq_some_iff.mp hj).1
          have hkb := idxs_len b e
          have hE : E a b (alo + P) j := ⟨ga, by rw [he, hjm]⟩
          refine WF.le hle (WF.name ?_)
          refine WS.cons (WX.ifs (WB.cmp hA (W.loc rfl (W.loc rfl ⟨_, Op.lt, ?_⟩))))
          split
          · rename_i c1
            have c1 : j < blo := by simpa using c1
            refine WS.cons (WX.cont ?_)
            refine ⟨bi, bj, bk, hB.ext (fun p j' h5 h6 h => ?_) (fun p j' h => ?_), nn, by (first | lia | omega), ?_⟩
            · rcases h with h | ⟨h, h'⟩
              · exact .inl (.inl h)
              · rw [take_succ_mem hj] at h'
                rcases h' with h' | h'
                · exact .inl (.inr ⟨h, h'⟩)
                · (first | lia | omega)
            · rcases h with h | ⟨h, h'⟩
              · exact .inl h
              · exact .inr ⟨h, by rw [take_succ_mem hj]; exact .inl h'⟩
            · rw [nm_skip hj c1]
              exact (Le.of rfl rfl)
          · rename_i c1
            have c1 : blo ≤ j := by simpa using c1
            refine WS.nil (WS.cons (WX.ifs (WB.cmp hA (W.loc rfl (W.loc rfl ⟨_, Op.ge, ?_⟩)))))
            split
            · rename_i c2
              have c2 : bhi ≤ j := by simpa using c2
              refine WS.cons (WX.brk ?_)
              refine ⟨bi, bj, bk, _, nn, hB.ext (fun p j' h5 h6 h => ?_) (fun p j' h => ?_), MP.next he (q := k) (fun j' h5 h6 => mem_take_lt hsrt hj j' h5 (by (first | lia | omega))), by (first | lia | omega), (Le.of rfl rfl)⟩
              · rcases Nat.lt_or_ge p P with h7 | h7
                · exact .inl (.inl h7)
                · have : p = P := by (first | lia | omega)
                  subst this
                  by_cases h8 : b[j']? = some e
                  · exact .inl (.inr ⟨rfl, mem_take_lt hsrt hj j' (idxs_mem.mpr h8) (by (first | lia | omega))⟩)
                  · exact .inr (rl_zero fun h9 => h8 (by rw [← h9.2, he]))
              · rcases h with h | ⟨h, h'⟩ <;> (first | lia | omega)
            · rename_i c2
              have c2 : j < bhi := by simpa using c2
              refine WS.nil ?_
              have hR : rl a b alo blo P j = (if j = 0 then 0 else pv a b alo blo P (j - 1)) + 1 := by rw [rl_eq, if_pos hE]
              have hRi : (((if j = 0 then 0 else pv a b alo blo P (j - 1) : Nat) : Int)) + 1 = ((rl a b alo blo P j : Nat) : Int) := by rw [hR]; rfl
              obtain ⟨hr1, hr2, _⟩ := (rl_spec (a := a) (b := b) (alo := alo) P j _ c1).mp (Nat.le_refl _)
              have hS : ∀ p j', (p < P ∨ (p = P ∧ j' ∈ (idxs b b.length e).take (k + 1))) ↔ (p < P ∨ (p = P ∧ j' ∈ (idxs b b.length e).take k)) ∨ (p = P ∧ j' = j) := fun p j' => by
                rw [take_succ_mem hj]
                constructor
                · rintro (h | ⟨h, h' | h'⟩)
                  · exact .inl (.inl h)
                  · exact .inl (.inr ⟨h, h'⟩)
                  · exact .inr ⟨h, h'⟩
                · rintro ((h | ⟨h, h'⟩) | ⟨h, h'⟩)
                  · exact .inl h
                  · exact .inr ⟨h, .inl h'⟩
                  · exact .inr ⟨h, .inr h'⟩
              have hlt : ∀ p j', (p < P ∨ (p = P ∧ j' ∈ (idxs b b.length e).take k)) → p < P ∨ (p = P ∧ j' < j) := fun p j' h => by
                rcases h with h | ⟨h, h'⟩
                · exact .inl h
                · exact .inr ⟨h, take_lt hsrt hj j' h'⟩
              refine WS.cons (WX.assign2 (W.bin hA (W.callGet (W.loc rfl ⟨q, rfl, hqs, ?_⟩))))
              refine WL.cons (W.bin hA (W.loc rfl (W.int ⟨_, Op.sub, ?_⟩)))
              refine WL.cons (W.int (WL.nil ⟨M, nq, _, _, rfl, .tail _ (.head _), ?_⟩))
              rw [hM j (by (first | lia | omega))]
              refine W.int ⟨_, Op.add, ?_⟩
              rw [hRi]
              refine WF.name (WF.item (W.loc rfl (W.loc rfl ⟨q', _, _, _, _, rfl, rfl, .head, by (first | lia | omega), ?_⟩)))
              rw [nm_put hj c1]
              refine WS.cons (WX.ifs (WB.cmp hA (W.loc rfl (W.loc rfl ⟨_, Op.gt, ?_⟩))))
              split
              · rename_i c3
                have c3 : bk < rl a b alo blo P j := by simpa using c3
                refine WS.cons (WX.swapped ["besti", "bestj", "bestsize"] hA (W.tup ?_))
                refine WL.cons (W.bin hA (W.bin hA (W.loc rfl (W.loc rfl ⟨_, Op.sub, W.int ⟨_, Op.add, ?_⟩⟩))))
                refine WL.cons (W.bin hA (W.bin hA (W.loc rfl (W.loc rfl ⟨_, Op.sub, W.int ⟨_, Op.add, ?_⟩⟩))))
                refine WL.cons (W.loc rfl (WL.nil ⟨Nat.le_of_ble_eq_true rfl, _, Unp.tup, rfl, ?_⟩))
                refine WFs.cons (WF.bind (WFs.cons (WF.bind (WFs.cons (WF.bind (WFs.nil ?_))))))
                refine WS.nil (WS.nil ?_)
                refine ⟨alo + P + 1 - rl a b alo blo P j, j + 1 - rl a b alo blo P j, _, hB.up hS (by (first | lia | omega)) c1 c2 c3 (by (first | lia | omega)) (by (first | lia | omega)), nn + 1, by (first | lia | omega), ?_⟩
                refine ⟨rfl, ?_⟩
                (repeat' (first | exact List.forall_mem_nil _ | refine List.forall_mem_cons.mpr ⟨rfl, ?_⟩ | refine List.forall_mem_cons.mpr ⟨congrArg (fun z => some (V.int z)) (by (first | lia | omega)), ?_⟩))
              · rename_i c3
                have c3 : rl a b alo blo P j ≤ bk := by simpa using c3
                refine WS.nil (WS.nil ?_)
                exact ⟨bi, bj, bk, hB.keep hS hlt c3, nn + 1, by (first | lia | omega), rfl, by (repeat' (first | exact List.forall_mem_nil _ | refine List.forall_mem_cons.mpr ⟨rfl, ?_⟩))⟩
        · rintro st₃ ⟨bi, bj, bk, hB, nn, hnn, hle⟩
          have hlen : (nL (idxs b b.length e)).length = (idxs b b.length e).length := by simp [nL]
          have hkb := idxs_len b e
          rw [hlen] at hB hle hnn
          refine ⟨bi, bj, bk, _, nn, hB.ext (fun p j' h5 h6 h => ?_) (fun p j' h => ?_), MP.next he (q := (idxs b b.length e).length) (fun j' h5 h6 => by rw [List.take_length]; exact h5), by (first | lia | omega), hle⟩
          · rcases Nat.lt_or_ge p P with h7 | h7
            · exact .inl (.inl h7)
            · have : p = P := by (first | lia | omega)
              subst this
              by_cases h8 : b[j']? = some e
              · exact .inl (.inr ⟨rfl, by rw [List.take_length]; exact idxs_mem.mpr h8⟩)
              · exact .inr (rl_zero fun h9 => h8 (by rw [← h9.2, he]))
          · rcases h with h | ⟨h, h'⟩ <;> (first | lia | omega)
      · rintro st₃ ⟨bi, bj, bk, N, nn, hB, hN, hnn, hle⟩
        refine WS.le hle (WS.cons (WX.assign (W.loc rfl ?_)))
        refine WS.frz (a := ⟨flV a b m q' alo ahi blo bhi bi bj bk, [(q', .map N nn), (x, .inst 242 d), (d, .attrs f z), (m, .map (b2jV b) n)]⟩) (ls := [(q, .map M nq)]) ⟨⟨_, ?_, Prel.refl _ _⟩, ?_⟩ ?_
        · exact .cons _ Perm.drop1
        · (repeat' (first | exact List.forall_mem_nil _ | refine List.forall_mem_cons.mpr ⟨⟨_, rfl, .inl rfl⟩, ?_⟩))
        · exact WS.nil ⟨bi, bj, bk, q', N, nn, hqs', hB, hN, hnn, rfl, by (repeat' (first | exact List.forall_mem_nil _ | refine List.forall_mem_cons.mpr ⟨rfl, ?_⟩))⟩
    · rintro st₃ ⟨bi, bj, bk, q, M, nq, hqs, hB, hM, hnq, hle⟩
      rw [rngV_len h1] at hB
      exact ⟨bi, bj, bk, q, M, nq, hqs, hB.best h1 h3, hle⟩
    · rintro st₃ ⟨bi, bj, bk, q, M, nq, hqs, hB, hle⟩
      refine WS.le hle ?_
      obtain ⟨r1, r2, r3, r4, r5⟩ := hB.run
      refine WS.seq (fun st => Le ⟨flV a b m q alo ahi blo bhi bi bj bk, [(q, .map M nq), (x, .inst 242 d), (d, .attrs f z), (m, .map (b2jV b) n)]⟩ st) (WX.while (fun _ st => Le ⟨flV a b m q alo ahi blo bhi bi bj bk, [(q, .map M nq), (x, .inst 242 d), (d, .attrs f z), (m, .map (b2jV b) n)]⟩ st) 0 (Le.of rfl rfl) ?_) ?_
      · rintro _ st₄ hl
        refine WB.le hl (WB.and (WB.cmp hA (W.loc rfl (W.loc rfl ⟨_, Op.gt, ?_⟩))))
        split
        · rename_i c1
          have c1 := of_decide_eq_true c1
          refine WB.and (WB.cmp hA (W.loc rfl (W.loc rfl ⟨_, Op.gt, ?_⟩)))
          split
          · rename_i c2
            have c2 := of_decide_eq_true c2
            have ga : bi - 1 < a.length := by (first | lia | omega)
            have gb : bj - 1 < b.length := by (first | lia | omega)
            refine WB.and (WB.not (WB.val (W.callHas (W.loc rfl ⟨rfl, WL.cons (W.sub hA (W.loc rfl (W.bin hA (W.loc rfl (W.int ⟨_, Op.sub, _, Sub.lst (v := .int b[bj - 1]) (by (first | lia | omega)) (by (first | lia | omega)) (iL_get gb (by (first | lia | omega))), WL.nil ⟨_, rfl, _, Tru.bool, ?_⟩⟩)))))⟩))))
            rw [if_pos (by decide)]
            refine WB.and (WB.cmp hA (W.sub hA (W.loc rfl (W.bin hA (W.loc rfl (W.int ⟨_, Op.sub, _, Sub.lst (v := .int a[bi - 1]) (by (first | lia | omega)) (by (first | lia | omega)) (iL_get ga (by (first | lia | omega))), ?_⟩))))))
            refine W.sub hA (W.loc rfl (W.bin hA (W.loc rfl (W.int ⟨_, Op.sub, _, Sub.lst (v := .int b[bj - 1]) (by (first | lia | omega)) (by (first | lia | omega)) (iL_get gb (by (first | lia | omega))), _, Op.eq, ?_⟩))))
            rw [if_neg]
            · rw [if_neg (by decide)]
              exact (Le.of rfl rfl)
            · intro c3
              have c3 : a[bi - 1] = b[bj - 1] := by simpa using c3
              exact hB.left (by (first | lia | omega)) (by (first | lia | omega)) ⟨ga, by rw [List.getElem?_eq_getElem ga, List.getElem?_eq_getElem gb, c3]⟩
          · rw [if_neg (by decide)]
            exact (Le.of rfl rfl)
        · rw [if_neg (by decide)]
          exact (Le.of rfl rfl)
      rintro st₄ hl
      refine WS.le hl ?_
      refine WS.seq (fun st => Le ⟨flV a b m q alo ahi blo bhi bi bj bk, [(q, .map M nq), (x, .inst 242 d), (d, .attrs f z), (m, .map (b2jV b) n)]⟩ st) (WX.while (fun _ st => Le ⟨flV a b m q alo ahi blo bhi bi bj bk, [(q, .map M nq), (x, .inst 242 d), (d, .attrs f z), (m, .map (b2jV b) n)]⟩ st) 0 (Le.of rfl rfl) ?_) ?_
      · rintro _ st₄ hl
        refine WB.le hl (WB.and (WB.cmp hA (W.bin hA (W.loc rfl (W.loc rfl ⟨_, Op.add, W.loc rfl ⟨_, Op.lt, ?_⟩⟩)))))
        split
        · rename_i c1
          have c1 := of_decide_eq_true c1
          refine WB.and (WB.cmp hA (W.bin hA (W.loc rfl (W.loc rfl ⟨_, Op.add, W.loc rfl ⟨_, Op.lt, ?_⟩⟩))))
          split
          · rename_i c2
            have c2 := of_decide_eq_true c2
            have ga : bi + bk < a.length := by (first | lia | omega)
            have gb : bj + bk < b.length := by (first | lia | omega)
            refine WB.and (WB.not (WB.val (W.callHas (W.loc rfl ⟨rfl, WL.cons (W.sub hA (W.loc rfl (W.bin hA (W.loc rfl (W.loc rfl ⟨_, Op.add, _, Sub.lst (v := .int b[bj + bk]) (by (first | lia | omega)) (by (first | lia | omega)) (iL_get gb (by (first | lia | omega))), WL.nil ⟨_, rfl, _, Tru.bool, ?_⟩⟩)))))⟩))))
            rw [if_pos (by decide)]
            refine WB.and (WB.cmp hA (W.sub hA (W.loc rfl (W.bin hA (W.loc rfl (W.loc rfl ⟨_, Op.add, _, Sub.lst (v := .int a[bi + bk]) (by (first | lia | omega)) (by (first | lia | omega)) (iL_get ga (by (first | lia | omega))), ?_⟩))))))
            refine W.sub hA (W.loc rfl (W.bin hA (W.loc rfl (W.loc rfl ⟨_, Op.add, _, Sub.lst (v := .int b[bj + bk]) (by (first | lia | omega)) (by (first | lia | omega)) (iL_get gb (by (first | lia | omega))), _, Op.eq, ?_⟩))))
            rw [if_neg]
            · rw [if_neg (by decide)]
              exact (Le.of rfl rfl)
            · intro c3
              have c3 : a[bi + bk] = b[bj + bk] := by simpa using c3
              exact hB.right (by (first | lia | omega)) (by (first | lia | omega)) ⟨ga, by rw [List.getElem?_eq_getElem ga, List.getElem?_eq_getElem gb, c3]⟩
          · rw [if_neg (by decide)]
            exact (Le.of rfl rfl)
        · rw [if_neg (by decide)]
          exact (Le.of rfl rfl)
      rintro st₄ hl
      refine WS.le hl ?_
      refine WS.seq (fun st => Le ⟨flV a b m q alo ahi blo bhi bi bj bk, [(q, .map M nq), (x, .inst 242 d), (d, .attrs f z), (m, .map (b2jV b) n)]⟩ st) (WX.while (fun _ st => Le ⟨flV a b m q alo ahi blo bhi bi bj bk, [(q, .map M nq), (x, .inst 242 d), (d, .attrs f z), (m, .map (b2jV b) n)]⟩ st) 0 (Le.of rfl rfl) ?_) ?_
      · rintro _ st₄ hl
        refine WB.le hl (WB.and (WB.cmp hA (W.loc rfl (W.loc rfl ⟨_, Op.gt, ?_⟩))))
        split
        · rename_i c1
          have c1 := of_decide_eq_true c1
          refine WB.and (WB.cmp hA (W.loc rfl (W.loc rfl ⟨_, Op.gt, ?_⟩)))
          split
          · rename_i c2
            have c2 := of_decide_eq_true c2
            have ga : bi - 1 < a.length := by (first | lia | omega)
            have gb : bj - 1 < b.length := by (first | lia | omega)
            refine WB.and (WB.val (W.callHas (W.loc rfl ⟨rfl, WL.cons (W.sub hA (W.loc rfl (W.bin hA (W.loc rfl (W.int ⟨_, Op.sub, _, Sub.lst (v := .int b[bj - 1]) (by (first | lia | omega)) (by (first | lia | omega)) (iL_get gb (by (first | lia | omega))), WL.nil ⟨_, rfl, _, Tru.bool, ?_⟩⟩)))))⟩)))
            rw [if_neg (by decide), if_neg (by decide)]
            exact (Le.of rfl rfl)
          · rw [if_neg (by decide)]
            exact (Le.of rfl rfl)
        · rw [if_neg (by decide)]
          exact (Le.of rfl rfl)
      rintro st₄ hl
      refine WS.le hl ?_
      refine WS.seq (fun st => Le ⟨flV a b m q alo ahi blo bhi bi bj bk, [(q, .map M nq), (x, .inst 242 d), (d, .attrs f z), (m, .map (b2jV b) n)]⟩ st) (WX.while (fun _ st => Le ⟨flV a b m q alo ahi blo bhi bi bj bk, [(q, .map M nq), (x, .inst 242 d), (d, .attrs f z), (m, .map (b2jV b) n)]⟩ st) 0 (Le.of rfl rfl) ?_) ?_
      · rintro _ st₄ hl
        refine WB.le hl (WB.and (WB.cmp hA (W.bin hA (W.loc rfl (W.loc rfl ⟨_, Op.add, W.loc rfl ⟨_, Op.lt, ?_⟩⟩)))))
        split
        · rename_i c1
          have c1 := of_decide_eq_true c1
          refine WB.and (WB.cmp hA (W.bin hA (W.loc rfl (W.loc rfl ⟨_, Op.add, W.loc rfl ⟨_, Op.lt, ?_⟩⟩))))
          split
          · rename_i c2
            have c2 := of_decide_eq_true c2
            have ga : bi + bk < a.length := by (first | lia | omega)
            have gb : bj + bk < b.length := by (first | lia | omega)
            refine WB.and (WB.val (W.callHas (W.loc rfl ⟨rfl, WL.cons (W.sub hA (W.loc rfl (W.bin hA (W.loc rfl (W.loc rfl ⟨_, Op.add, _, Sub.lst (v := .int b[bj + bk]) (by (first | lia | omega)) (by (first | lia | omega)) (iL_get gb (by (first | lia | omega))), WL.nil ⟨_, rfl, _, Tru.bool, ?_⟩⟩)))))⟩)))
            rw [if_neg (by decide), if_neg (by decide)]
            exact (Le.of rfl rfl)
          · rw [if_neg (by decide)]
            exact (Le.of rfl rfl)
        · rw [if_neg (by decide)]
          exact (Le.of rfl rfl)
      rintro st₄ hl
      refine WS.le hl ?_
      refine WS.frz (a := ⟨flV a b m q alo ahi blo bhi bi bj bk, [(x, .inst 242 d), (d, .attrs f z), (m, .map (b2jV b) n)]⟩) (ls := [(q, .map M nq)]) ⟨⟨_, Perm.drop1, Prel.refl _ _⟩, ?_⟩ ?_
      · (repeat' (first | exact List.forall_mem_nil _ | refine List.forall_mem_cons.mpr ⟨⟨_, rfl, .inl rfl⟩, ?_⟩))
      refine WS.cons (WX.ret (W.callF (n := 6) (hA.less (by decide)) (W.own T ⟨_, rfl, Kpt.cls T.k (T.k 135 _ (by rfl)) (by rfl), ?_⟩)))
      refine WL.cons (W.loc rfl (WL.cons (W.loc rfl (WL.cons (W.loc rfl (WL.nil ⟨[], _, _, List.Perm.refl _, (match_fn T).toFn, ?_⟩))))))
      rintro u objs' ⟨rfl, rfl⟩
      exact ⟨bi, bj, bk, rfl, hB, rfl⟩
end
end Mine
end PtS7
section PtMs
open PySem PySem.W PyProof.Rows
namespace Mine.Ms
/-- the sort's tree of questions, when the items have keys that are all different -/
structure Ky (N : Nat) (key : Nat → Int) : Prop where
  inj : ∀ i j, i < N → j < N → key i = key j → i = j
noncomputable def Gd (N : Nat) (p : Array Nat) : Prop := p.toList.Perm (List.range N)
noncomputable def K (key : Nat → Int) (p : Array Nat) (i : Nat) : Int := key (p.getD i 0)
noncomputable def So (key : Nat → Int) (p : Array Nat) (k : Nat) : Prop := ∀ i j, i < j → j < k → K key p i < K key p j
noncomputable def De (key : Nat → Int) (p : Array Nat) (k : Nat) : Prop := ∀ i j, i < j → j < k → K key p j < K key p i
section
variable {N : Nat} {key : Nat → Int} {p : Array Nat}
theorem Gd.size (h : Gd N p) : p.size = N := by have := h.length_eq; simpa using this
theorem Gd.lt (h : Gd N p) {i : Nat} (hi : i < N) : p.getD i 0 < N := by
  have hz := h.size
  have : p.getD i 0 = p[i] := by simp [Array.getD, hz, hi]
  rw [this]
  have hm : p[i] ∈ p.toList := by simp
  simpa using h.mem_iff.mp hm
theorem Gd.inj (h : Gd N p) (y : Ky N key) {i j : Nat} (hi : i < N) (hj : j < N) (e : K key p i = K key p j) : i = j := by
  have hz := h.size
  have e' := y.inj _ _ (h.lt hi) (h.lt hj) e
  have e1 : p.getD i 0 = p.toList[i]'(by simp; (first | lia | omega)) := by simp [Array.getD, hz, hi]
  have e2 : p.getD j 0 = p.toList[j]'(by simp; (first | lia | omega)) := by simp [Array.getD, hz, hj]
  have nd : p.toList.Nodup := h.nodup_iff.mpr List.nodup_range
  rw [e1, e2] at e'
  rcases Nat.lt_trichotomy i j with h1 | h1 | h1
  · exact absurd e' (List.pairwise_iff_getElem.mp nd i j _ _ h1)
  · exact h1
  · exact absurd e'.symm (List.pairwise_iff_getElem.mp nd j i _ _ h1)
theorem getD_eq {xs ys : Array Nat} {i j : Nat} (h : xs[i]? = ys[j]?) : xs.getD i 0 = ys.getD j 0 := by
  rw [Array.getD_eq_getD_getElem?, Array.getD_eq_getD_getElem?, h]
theorem K_eq {xs ys : Array Nat} {i j : Nat} (h : xs[i]? = ys[j]?) : K key xs i = K key ys j := by unfold K; rw [getD_eq h]
variable {cmp : Nat → Nat → (Bool → Shared → Prop) → Shared → Prop} {s : Shared}
theorem asc_wp (hc : ∀ i j (C : Bool → Shared → Prop), i < N → j < N → C (decide (key i < key j)) s → cmp i j C s) (y : Ky N key) (g : Gd N p) : ∀ (f n : Nat) {Q : Nat → Shared → Prop}, 1 ≤ n → n + f ≤ N → So key p n →
    (∀ m, n ≤ m → m ≤ n + f → So key p m → (m < n + f → K key p m < K key p (m - 1)) → Q m s) → (kas_asc p f n).kasWp cmp Q s
  | 0, n, Q, h1, h2, h3, h => h n (Nat.le_refl _) (Nat.le_refl _) h3 (fun q => by (first | lia | omega))
  | f + 1, n, Q, h1, h2, h3, h => by
    refine hc _ _ _ (g.lt (by (first | lia | omega))) (g.lt (by (first | lia | omega))) ?_
    by_cases q : key (p.getD n 0) < key (p.getD (n - 1) 0)
    · rw [decide_eq_true q]
      exact h n (Nat.le_refl _) (by (first | lia | omega)) h3 fun _ => q
    · rw [decide_eq_false q]
      have hlt : K key p (n - 1) < K key p n := by
        have hne : K key p (n - 1) ≠ K key p n := fun e => by have := g.inj y (by (first | lia | omega)) (by (first | lia | omega)) e; (first | lia | omega)
        have q' : ¬ K key p n < K key p (n - 1) := q
        (first | lia | omega)
      refine asc_wp hc y g f (n + 1) (by (first | lia | omega)) (by (first | lia | omega)) (fun i j hij hj => ?_) fun m k1 k2 k3 k4 => h m (by (first | lia | omega)) (by (first | lia | omega)) k3 fun z => k4 (by (first | lia | omega))
      rcases Nat.lt_or_ge j n with hj' | hj'
      · exact h3 i j hij hj'
      · have : j = n := by (first | lia | omega)
        subst this
        rcases Nat.lt_or_ge i (j - 1) with hi | hi
        · exact Int.lt_trans (h3 i (j - 1) hi (by (first | lia | omega))) hlt
        · rw [show i = j - 1 by (first | lia | omega)]; exact hlt
theorem desc_wp (hc : ∀ i j (C : Bool → Shared → Prop), i < N → j < N → C (decide (key i < key j)) s → cmp i j C s) (y : Ky N key) (g : Gd N p) : ∀ (f n : Nat) {Q : Array Nat × Nat × Nat → Shared → Prop}, 1 ≤ n → n + f ≤ N → De key p n →
    (∀ m, n ≤ m → m ≤ n + f → De key p m → Q (p, m, 0) s) → (kas_desc f p n 0).kasWp cmp Q s
  | 0, n, Q, h1, h2, h3, h => h n (Nat.le_refl _) (Nat.le_refl _) h3
  | f + 1, n, Q, h1, h2, h3, h => by
    refine hc _ _ _ (g.lt (by (first | lia | omega))) (g.lt (by (first | lia | omega))) ?_
    by_cases q : key (p.getD n 0) < key (p.getD (n - 1) 0)
    · rw [decide_eq_true q]
      refine desc_wp hc y g f (n + 1) (by (first | lia | omega)) (by (first | lia | omega)) (fun i j hij hj => ?_) fun m k1 k2 k3 => h m (by (first | lia | omega)) (by (first | lia | omega)) k3
      have q' : K key p n < K key p (n - 1) := q
      rcases Nat.lt_or_ge j n with hj' | hj'
      · exact h3 i j hij hj'
      · have : j = n := by (first | lia | omega)
        subst this
        rcases Nat.lt_or_ge i (j - 1) with hi | hi
        · exact Int.lt_trans q' (h3 i (j - 1) hi (by (first | lia | omega)))
        · rw [show i = j - 1 by (first | lia | omega)]; exact q'
    · rw [decide_eq_false q]
      refine hc _ _ _ (g.lt (by (first | lia | omega))) (g.lt (by (first | lia | omega))) ?_
      have hlt : key (p.getD (n - 1) 0) < key (p.getD n 0) := by
        have hne : K key p (n - 1) ≠ K key p n := fun e => by have := g.inj y (by (first | lia | omega)) (by (first | lia | omega)) e; (first | lia | omega)
        unfold K at hne
        (first | lia | omega)
      rw [decide_eq_true hlt]
      exact h n (Nat.le_refl _) (by (first | lia | omega)) h3
theorem Gd.rev (g : Gd N p) (i j : Nat) : Gd N (kas_rev p i j) := (Array.perm_iff_toList_perm.mp (mirror_perm p i j _)).trans g
theorem rev_so {m : Nat} (g : Gd N p) (hm : m ≤ N) (d : De key p m) : So key (kas_rev p 0 m) m := fun i j hij hj => by
  have e : ∀ k, k < m → K key (kas_rev p 0 m) k = K key p (m - 1 - k) := fun k hk => by
    apply K_eq
    unfold kas_rev
    rw [getElem?_mirror_all (by rw [g.size]; exact hm), if_pos ⟨Nat.zero_le _, hk⟩]
    simp
  rw [e i (by (first | lia | omega)), e j hj]
  exact d _ _ (by (first | lia | omega)) (by (first | lia | omega))
theorem count_wp (hc : ∀ i j (C : Bool → Shared → Prop), i < N → j < N → C (decide (key i < key j)) s → cmp i j C s) (y : Ky N key) (g : Gd N p) (hN : 1 ≤ N) {Q : Nat × Array Nat → Shared → Prop}
    (h : ∀ m p', Gd N p' → 1 ≤ m → m ≤ N → So key p' m → Q (m, p') s) : (kas_count N p).kasWp cmp Q s := by
  unfold kas_count
  rw [KasT.kasWp_bind]
  refine asc_wp hc y g (N - 1) 1 (Nat.le_refl _) (by (first | lia | omega)) (fun i j hij hj => by (first | lia | omega)) fun m k1 k2 k3 k4 => ?_
  have hz := g.size
  by_cases e : m = N
  · subst e
    rw [if_pos (by simp)]
    exact h _ p g k1 (Nat.le_refl _) k3
  · rw [if_neg (by simpa using e)]
    by_cases h1 : m > 1
    · rw [if_pos h1]
      refine hc _ _ _ (g.lt (by (first | lia | omega))) (g.lt (by (first | lia | omega))) ?_
      have q : key (p.getD 0 0) < key (p.getD (m - 1) 0) := k3 0 (m - 1) (by (first | lia | omega)) (by (first | lia | omega))
      rw [decide_eq_true q]
      exact h _ p g k1 (by (first | lia | omega)) k3
    · rw [if_neg h1]
      have hm1 : m = 1 := by (first | lia | omega)
      subst hm1
      unfold kas_descPart
      rw [KasT.kasWp_bind]
      have q := k4 (by (first | lia | omega))
      refine desc_wp hc y g (N - 2) 2 (by (first | lia | omega)) (by (first | lia | omega)) (fun i j hij hj => ?_) fun m' l1 l2 l3 => ?_
      · rw [show i = 0 by (first | lia | omega), show j = 1 by (first | lia | omega)]; exact q
      · dsimp only
        rw [if_neg (by (first | lia | omega))]
        unfold kas_tail3
        rw [KasT.kasWp_bind]
        refine asc_wp hc y (g.rev 0 m') (N - m') m' (by (first | lia | omega)) (by (first | lia | omega)) (rev_so g (by (first | lia | omega)) l3) fun m'' n1 n2 n3 n4 => ?_
        exact h _ _ (g.rev 0 m') (by (first | lia | omega)) (by (first | lia | omega)) n3
theorem place_wp (hc : ∀ i j (C : Bool → Shared → Prop), i < N → j < N → C (decide (key i < key j)) s → cmp i j C s) (y : Ky N key) (g : Gd N p) {k : Nat} (hk : k < N) (so : So key p k) : ∀ (f l r : Nat) {Q : Nat → Shared → Prop}, l ≤ r → r ≤ k → r - l ≤ f →
    (∀ i, i < l → K key p i < K key p k) → (∀ i, r ≤ i → i < k → K key p k < K key p i) →
    (∀ m, m ≤ k → (∀ i, i < m → K key p i < K key p k) → (∀ i, m ≤ i → i < k → K key p k < K key p i) → Q m s) → (kas_place p k f l r).kasWp cmp Q s
  | 0, l, r, Q, h1, h2, h3, h4, h5, h => h l (by (first | lia | omega)) h4 fun i a b => h5 i (by (first | lia | omega)) b
  | f + 1, l, r, Q, h1, h2, h3, h4, h5, h => by
    unfold kas_place
    by_cases e : l ≥ r
    · rw [if_pos e]
      exact h l (by (first | lia | omega)) h4 fun i a b => h5 i (by (first | lia | omega)) b
    · rw [if_neg e]
      have hm : (l + r) / 2 < r := by (first | lia | omega)
      have hm' : l ≤ (l + r) / 2 := by (first | lia | omega)
      refine hc _ _ _ (g.lt (by (first | lia | omega))) (g.lt (by (first | lia | omega))) ?_
      by_cases q : key (p.getD k 0) < key (p.getD ((l + r) / 2) 0)
      · rw [decide_eq_true q]
        have q' : K key p k < K key p ((l + r) / 2) := q
        refine place_wp hc y g hk so f l ((l + r) / 2) hm' (by (first | lia | omega)) (by (first | lia | omega)) h4 (fun i a b => ?_) h
        rcases Nat.eq_or_lt_of_le a with c | c
        · rw [← c]; exact q'
        · exact Int.lt_trans q' (so _ _ c b)
      · rw [decide_eq_false q]
        have q' : K key p ((l + r) / 2) < K key p k := by
          have hne : K key p ((l + r) / 2) ≠ K key p k := fun e => by have := g.inj y (by (first | lia | omega)) (by (first | lia | omega)) e; (first | lia | omega)
          have q'' : ¬ K key p k < K key p ((l + r) / 2) := q
          (first | lia | omega)
        refine place_wp hc y g hk so f ((l + r) / 2 + 1) r (by (first | lia | omega)) h2 (by (first | lia | omega)) (fun i a => ?_) h5 h
        rcases Nat.eq_or_lt_of_le (Nat.le_of_lt_succ a) with c | c
        · rw [c]; exact q'
        · exact Int.lt_trans (so _ _ c (by (first | lia | omega))) q'
theorem Gd.bub (g : Gd N p) (i j : Nat) : Gd N (bubble p i j) := (Array.perm_iff_toList_perm.mp (bubble_perm p i j)).trans g
theorem bub_so {k m : Nat} (g : Gd N p) (hk : k < N) (hm : m ≤ k) (so : So key p k) (h1 : ∀ i, i < m → K key p i < K key p k) (h2 : ∀ i, m ≤ i → i < k → K key p k < K key p i) : So key (bubble p k (k - m)) (k + 1) := by
  have e : ∀ i, K key (bubble p k (k - m)) i = if i = m then K key p k else if m < i ∧ i ≤ k then K key p (i - 1) else K key p i := fun i => by
    have b := getElem?_bubble (xs := p) (src := k) (by rw [g.size]; exact hk) (k - m) (by (first | lia | omega)) i
    rw [show k - (k - m) = m by (first | lia | omega)] at b
    by_cases c1 : i = m
    · rw [if_pos c1] at b ⊢; exact K_eq b
    · rw [if_neg c1] at b ⊢
      by_cases c2 : m < i ∧ i ≤ k
      · rw [if_pos c2] at b ⊢; exact K_eq b
      · rw [if_neg c2] at b ⊢; exact K_eq b
  intro i j hij hj
  rw [e i, e j]
  by_cases ci : i = m
  · rw [if_pos ci, if_neg (by (first | lia | omega)), if_pos (by (first | lia | omega))]
    exact h2 _ (by (first | lia | omega)) (by (first | lia | omega))
  · rw [if_neg ci]
    by_cases ci2 : m < i ∧ i ≤ k
    · rw [if_pos ci2, if_neg (by (first | lia | omega)), if_pos (by (first | lia | omega))]
      exact so _ _ (by (first | lia | omega)) (by (first | lia | omega))
    · rw [if_neg ci2]
      by_cases cj : j = m
      · rw [if_pos cj]; exact h1 _ (by (first | lia | omega))
      · rw [if_neg cj]
        by_cases cj2 : m < j ∧ j ≤ k
        · rw [if_pos cj2]
          rcases Nat.lt_or_ge i (j - 1) with z | z
          · exact so _ _ z (by (first | lia | omega))
          · (first | lia | omega)
        · rw [if_neg cj2]; exact so _ _ hij (by (first | lia | omega))
theorem bin_wp (hc : ∀ i j (C : Bool → Shared → Prop), i < N → j < N → C (decide (key i < key j)) s → cmp i j C s) (y : Ky N key) : ∀ (f k : Nat) (p : Array Nat) {Q : Array Nat → Shared → Prop}, k + f = N → 1 ≤ k → Gd N p → So key p k →
    (∀ p', Gd N p' → So key p' N → Q p' s) → (kas_bin f p k).kasWp cmp Q s
  | 0, k, p, Q, h1, h2, g, so, h => h p g (by rwa [show k = N by (first | lia | omega)] at so)
  | f + 1, k, p, Q, h1, h2, g, so, h => by
    unfold kas_bin
    rw [KasT.kasWp_bind]
    refine place_wp hc y g (by (first | lia | omega)) so k 0 k (Nat.zero_le _) (Nat.le_refl _) (by (first | lia | omega)) (fun i hi => by (first | lia | omega)) (fun i a b => by (first | lia | omega)) fun m k1 k2 k3 => ?_
    exact bin_wp hc y f (k + 1) _ (by (first | lia | omega)) (by (first | lia | omega)) (g.bub _ _) (bub_so g (by (first | lia | omega)) k1 so k2 k3) h
/-- the sort's answer: the items in order -/
theorem sort_wp (hc : ∀ i j (C : Bool → Shared → Prop), i < N → j < N → C (decide (key i < key j)) s → cmp i j C s) (y : Ky N key) (hN : 1 ≤ N) {Q : Array Nat → Shared → Prop} (h : ∀ p', Gd N p' → So key p' N → Q p' s) : (kas_sort N).kasWp cmp Q s := by
  unfold kas_sort
  rw [KasT.kasWp_bind]
  refine count_wp hc y (p := List.toArray (List.range N)) (by unfold Gd; simp) hN fun m p' g k1 k2 k3 => ?_
  dsimp only
  by_cases e : m < N
  · rw [if_pos e, show max m 1 = m by (first | lia | omega)]
    exact bin_wp hc y (N - m) m p' (by (first | lia | omega)) k1 g k3 h
  · rw [if_neg e]
    exact h p' g (by rwa [show m = N by (first | lia | omega)] at k3)
end
end Mine.Ms
end PtMs
section PtLg37
open PySem PySem.W PyProof.Rows
namespace Mine
open Ms
section
variable {prog : Program} {w : World} {A : Around} {E : Value → Shared → Prop} {s : Shared}
theorem sort_tree {a : Addr} {vs : List Value} {n : Nat} {T : Value} {key : Nat → Int} {P : PySem.Fin → Shared → Prop} (ho : s.heap.get? a = some (seqObj "list" vs.toArray n)) (h64 : vs.length < 64) (y : Ky vs.length key)
    (hT : ∀ h : Heap, (∀ b o, b ≠ a → s.heap.get? b = some o → h.get? b = some o) → ∀ v ∈ vs, Looks (model prog w) h (typeOf v) T) (hT1 : (T != Value.type "tuple") = true) (hT2 : (T == T) = true)
    (hc : ∀ s' : Shared, (∀ b o, b ≠ a → s.heap.get? b = some o → s'.heap.get? b = some o) → ∀ i j (C : Bool → Shared → Prop), i < vs.length → j < vs.length → C (decide (key i < key j)) s' → wpAny (model prog w) A (keyLt' oneType' (vs.getD i .none) (vs.getD j .none)) C (fun _ _ => False) s')
    (h : ∀ p h' c, Gd vs.length p → So key p vs.length → h'.get? a = some (seqObj "list" (p.toList.map fun i => vs.getD i Value.none).toArray c) → Heap.ExtBut a s.heap h' → P (.done (.ret .none)) { s with heap := h' }) :
    wpAny (model prog w) A (Builtin.«list.sort» ⟨[.ref a], []⟩) P E s := by
  have ha : a < s.heap.objs.size := Heap.lt_size ho
  have s1 := Heap.SameBut.update s.heap a (Obj.mapSeq fun _ => (#[] : Array Value))
  obtain ⟨e1, ho1⟩ : ∃ e1, (s.heap.update a (Obj.mapSeq fun _ => (#[] : Array Value))).get? a = some (seqObj "list" #[] e1) := ⟨_, get?_update_seq ho fun _ => #[]⟩
  have k3 : ∀ b o, b ≠ a → s.heap.get? b = some o → (((s.heap.update a (Obj.mapSeq fun _ => (#[] : Array Value))).push (seqObj "tuple" vs.toArray 0)).push (seqObj "list" #[] 0)).get? b = some o := fun b o nb e => Heap.get?_push_of_some _ (Heap.get?_push_of_some _ ((s1.2 b nb).trans e))
  have ho3 : (((s.heap.update a (Obj.mapSeq fun _ => (#[] : Array Value))).push (seqObj "tuple" vs.toArray 0)).push (seqObj "list" #[] 0)).get? a = some (seqObj "list" #[] e1) := Heap.get?_push_of_some _ (Heap.get?_push_of_some _ ho1)
  rw [list_sort_plain]
  refine wpAny_bind (listItems_at ho rfl ?_)
  refine wpAny_bind (listUpdate_at ho rfl ?_ (by rw [List.size_toArray, sizeLine_eq]; (first | lia | omega)) (Nat.zero_le _))
  refine wpAny_bind (seqEpoch_at ho1 rfl ?_)
  refine wpAny_bind (wpAny_newTuple ?_ (by show vs.length ≤ _; rw [sizeLine_eq]; (first | lia | omega)))
  refine wpAny_bind (wpAny_newList ?_ (Nat.zero_le _))
  refine wpAny_holding ?_
  show wpAny (model prog w) A _ P E { s with heap := ((s.heap.update a (Obj.mapSeq fun _ => (#[] : Array Value))).push (seqObj "tuple" vs.toArray 0)).push (seqObj "list" #[] 0) }
  dsimp only
  generalize ((s.heap.update a (Obj.mapSeq fun _ => (#[] : Array Value))).push (seqObj "tuple" vs.toArray 0)).push (seqObj "list" #[] 0) = h3 at k3 ho3
  have fin : ∀ (st' : SortSt) (p : Array Nat), Gd vs.length p → So key p vs.length → (arrOf st').map (·.2) = (p.toList.map fun i => vs.getD i Value.none).toArray → failedOf st' = none → wpAny (model prog w) A (do
      let touched := (← seqEpoch a) != e1
      Builtin.List.listUpdate (.ref a) fun _ => (arrOf st').map (·.2)
      if let some e := failedOf st' then rule "list.sort.comparison-raised"; throw e
      if touched then rule "list.sort.modified"; raiseError "ValueError" "list modified during sort"
      ret .none) P E { s with heap := h3 } := fun st' p g so hout hf => by
    rw [hout]
    have hsz : (p.toList.map fun i => vs.getD i Value.none).toArray.size = vs.length := by rw [List.size_toArray, List.length_map, Array.length_toList, g.size]
    have s2 := Heap.SameBut.update h3 a (Obj.mapSeq fun _ => (p.toList.map fun i => vs.getD i Value.none).toArray)
    obtain ⟨c2, hc2⟩ : ∃ c2, (h3.update a (Obj.mapSeq fun _ => (p.toList.map fun i => vs.getD i Value.none).toArray)).get? a = some (seqObj "list" (p.toList.map fun i => vs.getD i Value.none).toArray c2) := ⟨_, get?_update_seq ho3 fun _ => (p.toList.map fun i => vs.getD i Value.none).toArray⟩
    refine wpAny_bind (seqEpoch_at ho3 rfl ?_)
    refine wpAny_bind (listUpdate_at ho3 rfl ?_ (Nat.zero_le _) (Nat.le_trans (Nat.le_of_eq hsz) (by rw [sizeLine_eq]; (first | lia | omega))))
    rw [hf]
    simp only [bne_self_eq_false, Bool.false_eq_true, if_false]
    exact wpAny_pure (h p _ c2 g so hc2 fun b o nb e => (s2.2 b nb).trans (k3 b o nb e))
  by_cases h2 : vs.toArray.size < 2
  · rw [if_pos h2, if_pos h2]
    refine wpAny_bind (wpAny_pure ?_)
    rw [StateT.run_pure]
    refine wpAny_bind (wpAny_pure ?_)
    refine fin (SortSt.mk' general' (vs.toArray.zip vs.toArray) #[] 7 none) (List.range vs.length).toArray (by unfold Gd; simp) (fun i j hij hj => ?_) ?_ rfl
    · simp at h2; (first | lia | omega)
    · show (vs.toArray.zip vs.toArray).map (·.2) = _
      apply Array.toList_inj.mp
      simp only [Array.toList_map, Array.toList_zip, List.toList_toArray]
      apply List.ext_getElem
      · simp
      · intro i q1 q2
        simp at q1
        simp [q1]
  · rw [if_neg h2, if_neg h2]
    have h2' : 2 ≤ vs.length := by simp at h2; (first | lia | omega)
    refine wpAny_bind (kas_kind h2' (hT h3 k3) hT1 hT2 ?_)
    have est : SortSt.mk' oneType' (vs.toArray.zip vs.toArray) #[] 7 none = kas_st oneType' (pairsOf vs) (List.toArray (List.range vs.length)) := by
      have e := kas_range (pairsOf vs)
      rw [pairsOf_size] at e
      show SortSt.mk' oneType' (pairsOf vs) #[] 7 none = SortSt.mk' oneType' ((List.toArray (List.range vs.length)).map (kas_item (pairsOf vs))) #[] 7 none
      rw [e]
    have ask : (kas_sort vs.length).kasWp (kas_ask prog w A oneType' vs) (fun p s' => s' = { s with heap := h3 } ∧ Gd vs.length p ∧ So key p vs.length) { s with heap := h3 } :=
      sort_wp (hc { s with heap := h3 } k3) y (by (first | lia | omega)) fun p g so => ⟨rfl, g, so⟩
    rw [kas_ask_eq] at ask
    have run := kas_runs (E := E) (Q := fun _ st' s' => ∃ p : Array Nat, arrOf st' = p.map (kas_item (pairsOf vs)) ∧ failedOf st' = none ∧ s' = { s with heap := h3 } ∧ Gd vs.length p ∧ So key p vs.length)
      h2' h64 (fun p' st' s' a1 a2 a3 a4 => ⟨p', a2, a3, a4⟩) ask
    rw [← est] at run
    refine wpAny_bind (wpAny_mono run ?_ fun _ _ e => e)
    rintro ⟨⟨⟩, st'⟩ s' ⟨p, har, hf, rfl, g, so⟩
    refine fin st' p g so ?_ hf
    apply Array.toList_inj.mp
    rw [har, Array.map_map, Array.toList_map]
    exact List.map_congr_left fun i _ => by show (kas_item (pairsOf vs) i).2 = _; rw [kas_item_eq]
end
end Mine
end PtLg37
section PtLg38
open PySem PySem.W PyProof.Rows
namespace Mine
open Ms
theorem tlt_eq (x y : Addr) : Builtin.«tuple.__lt__» ⟨[.ref x, .ref y], []⟩ = (do
    if !(← isInstance (.ref y) (.type "tuple")) then return ← ret .notImplemented
    let xs ← Builtin.Tuple.tupleItemsOf (.ref x)
    let ys ← Builtin.Tuple.tupleItemsOf (.ref y)
    for (p, q) in xs.toList.zip ys.toList do
      if !(← eqBool p q) then
        rule "tuple.compare.by-the-first-pair-that-differs"; return ← ret (← richCompare .Lt p q)
    ret (Builtin.Tuple.tupleCompareSizes .Lt xs.size ys.size)) := rfl
noncomputable def lex3 (a b : Int × Int × Int) : Bool := if a.1 == b.1 then (if a.2.1 == b.2.1 then (if a.2.2 == b.2.2 then false else decide (a.2.2 < b.2.2)) else decide (a.2.1 < b.2.1)) else decide (a.1 < b.1)
section
variable {prog : Program} {w : World} {A : Around} {E : Value → Shared → Prop} {s : Shared}
theorem sq_items {t : Addr} {items : Array Value} {Q : Array Value → Shared → Prop} (ht : IsSq s.heap t items) (h : Q items s) : wpAny (model prog w) A (Builtin.Tuple.tupleItemsOf (.ref t)) Q E s := by
  obtain ⟨o, n, e, d⟩ := ht
  unfold Builtin.Tuple.tupleItemsOf
  exact wpAny_bind (wpAny_seqItems e d (wpAny_pure h))
theorem tlt_mat {x y : Addr} {a₁ a₂ a₃ b₁ b₂ b₃ : Int} {t₁ t₂ t₃ u₁ u₂ u₃ : Tok} {P : PySem.Fin → Shared → Prop} (X : MatOk (model prog w) s.heap) (hx : IsMat s.heap x #[.int a₁ t₁, .int a₂ t₂, .int a₃ t₃]) (hy : IsMat s.heap y #[.int b₁ u₁, .int b₂ u₂, .int b₃ u₃])
    (h : P (.done (.ret (.bool (lex3 (a₁, a₂, a₃) (b₁, b₂, b₃))))) s) : wpAny (model prog w) A (Builtin.«tuple.__lt__» ⟨[.ref x, .ref y], []⟩) P E s := by
  rw [tlt_eq]
  refine wpAny_bind (((IsMat.type hy).andThen X.sub : Looks (model prog w) s.heap (isInstance (.ref y) (.type "tuple")) true).here ?_)
  simp only [Bool.not_true, Bool.false_eq_true, if_false]
  refine wpAny_bind (sq_items hx.sq (wpAny_bind (sq_items hy.sq ?_)))
  show wpAny _ _ (forIn [((Value.int a₁ t₁), (Value.int b₁ u₁)), ((Value.int a₂ t₂), (Value.int b₂ u₂)), ((Value.int a₃ t₃), (Value.int b₃ u₃))] _ _ >>= _) _ _ _
  unfold lex3 at h
  dsimp only at h
  refine wpAny_bind ?_
  rw [List.forIn_cons]
  refine wpAny_bind (wpAny_bind (wpAny_eqBool_int ?_))
  cases e1 : a₁ == b₁ with
  | false =>
    rw [e1, if_neg (by decide)] at h
    simp only [Bool.not_false, if_true]
    refine wpAny_bind (wpAny_rule (wpAny_bind (lt_int ?_)))
    exact wpAny_bind (wpAny_pure (wpAny_pure (wpAny_pure (wpAny_pure h))))
  | true =>
    rw [e1, if_pos rfl] at h
    simp only [Bool.not_true, Bool.false_eq_true, if_false]
    refine wpAny_pure ?_
    dsimp only
    rw [List.forIn_cons]
    refine wpAny_bind (wpAny_bind (wpAny_eqBool_int ?_))
    cases e2 : a₂ == b₂ with
    | false =>
      rw [e2, if_neg (by decide)] at h
      simp only [Bool.not_false, if_true]
      refine wpAny_bind (wpAny_rule (wpAny_bind (lt_int ?_)))
      exact wpAny_bind (wpAny_pure (wpAny_pure (wpAny_pure (wpAny_pure h))))
    | true =>
      rw [e2, if_pos rfl] at h
      simp only [Bool.not_true, Bool.false_eq_true, if_false]
      refine wpAny_pure ?_
      dsimp only
      rw [List.forIn_cons]
      refine wpAny_bind (wpAny_bind (wpAny_eqBool_int ?_))
      cases e3 : a₃ == b₃ with
      | false =>
        rw [e3, if_neg (by decide)] at h
        simp only [Bool.not_false, if_true]
        refine wpAny_bind (wpAny_rule (wpAny_bind (lt_int ?_)))
        exact wpAny_bind (wpAny_pure (wpAny_pure (wpAny_pure (wpAny_pure h))))
      | true =>
        rw [e3, if_pos rfl] at h
        simp only [Bool.not_true, Bool.false_eq_true, if_false]
        refine wpAny_pure ?_
        dsimp only
        rw [List.forIn_nil]
        exact wpAny_pure (wpAny_pure h)
theorem tl_kind : builtinKind "tuple.__lt__" = some .slot := by decide +kernel
theorem tl_split : splitId "tuple.__lt__" = some ("tuple", "__lt__") := by decide +kernel
/-- two Matches of ints, as the sort compares them -/
theorem mat_lt {x y : Addr} {a₁ a₂ a₃ b₁ b₂ b₃ : Int} {t₁ t₂ t₃ u₁ u₂ u₃ : Tok} {C : Bool → Shared → Prop} (hu : A.units < cLine) (X : MatOk (model prog w) s.heap) (hl : Looks (model prog w) s.heap (typeLookup (.ref matchAt) "__lt__") (some (.builtin "tuple.__lt__"))) (hx : IsMat s.heap x #[.int a₁ t₁, .int a₂ t₂, .int a₃ t₃]) (hy : IsMat s.heap y #[.int b₁ u₁, .int b₂ u₂, .int b₃ u₃])
    (h : C (lex3 (a₁, a₂, a₃) (b₁, b₂, b₃)) s) : wpAny (model prog w) A (keyLt' oneType' (.ref x) (.ref y)) C E s := by
  rw [keyLt'_oneType, oneLt'_eq, if_pos rfl]
  refine wpAny_bind (wpAny_cRoomFor hu (wpAny_bind ?_))
  have L0 : Looks (model prog w) s.heap (specialOf (.ref x) "__lt__") (some (.builtin "tuple.__lt__")) := (IsMat.type hx).andThen hl
  simp only [callSpecialIfBound?, bindSpecialIfBound?]
  refine wpAny_holding (wpAny_bind (wpAny_bind (L0.here ?_)))
  have hb : bindSpecial (.builtin "tuple.__lt__") (.ref x) = pure (.builtin "tuple.__lt__", [.ref x]) := PySem.F.slot_tuple_lt.bind _
  simp only [hb]
  refine wpAny_bind (wpAny_askSetting (wpAny_ite ?_))
  have cl : wpAny (model prog w) A (call (.builtin "tuple.__lt__") [.ref x, .ref y]) (fun v s' => v = .bool (lex3 (a₁, a₂, a₃) (b₁, b₂, b₃)) ∧ s' = s) E s :=
    call_matSlot X hx tl_kind tl_split (PySem.F.args_tuple_lt_2 _ _) PySem.F.slot_tuple_lt.plain PySem.F.entry_tuple_lt (tlt_mat X hx hy ⟨rfl, rfl⟩)
  have fin : wpAny (model prog w) A (call (.builtin "tuple.__lt__") ([.ref x] ++ [.ref y]) >>= fun v => pure (some v)) (fun a s' => wpAny (model prog w) A (match a with
      | some .notImplemented => do
        rule "list.sort.lt-declined"
        let v ← richCompare .Lt (.ref x) (.ref y)
        truthOfDropped v
      | none => do
        rule "list.sort.lt-declined"
        let v ← richCompare .Lt (.ref x) (.ref y)
        truthOfDropped v
      | some r => truthOfDropped r) C E s') E s := by
    refine wpAny_bind (wpAny_mono cl (fun v s' p => ?_) fun _ _ e => e)
    obtain ⟨rfl, rfl⟩ := p
    exact wpAny_pure (wpAny_truthy_bool h)
  split
  · exact wpAny_bind (wpAny_pure (wpAny_pure fin))
  · exact wpAny_tryCatch (wpAny_bind (wpAny_pure (wpAny_pure fin)))
end
end Mine
end PtLg38
section PtLg39
open PySem PySem.W PyProof.Rows
namespace Mine
open Ms
section
variable {prog : Program} {w : World} {c : Cx} {env : Env} {A : Around} {st st' : St} {s s' : Shared} {Q : V → St → Prop}
/-- an owned object changed, others made -/
theorem At.updE (a : At prog w c env st s) {x : Addr} {o o' : O} {own' : List (Addr × O)} (u : Upd x o o' st.own own') {h' : Heap} {t : Nat} (k : ∀ b ob, b ≠ x → s.heap.get? b = some ob → h'.get? b = some ob) (ho : OAt prog w h' (c.adr st) x o') :
    At prog w c env ⟨st.vars, own'⟩ { s with heap := h', toks := t } ∧ Fol env.locals (c.adr st) s.heap (c.adr ⟨st.vars, own'⟩) h' := by
  have e : c.adr ⟨st.vars, own'⟩ = c.adr st := by unfold Cx.adr; rw [u.adr]
  have hx : x ∈ c.adr st := List.mem_append_left _ (List.mem_map_of_mem (f := (·.1)) u.mem)
  have F : Fol env.locals (c.adr st) s.heap (c.adr st) h' := fun b ob eb nb nl => ⟨k b ob (fun q => nb (q ▸ hx)) eb, nb⟩
  have S : Seqs (c.adr st) s.heap (c.adr st) h' := fun b ob eb nb _ => ⟨k b ob (fun q => nb (q ▸ hx)) eb, nb⟩
  refine ⟨⟨?_, fun b ob eb nb => ?_, fun p hp => ?_, ?_, ?_, fun p hp => ?_, fun b ob eb => ?_, a.low, fun b hb => ?_, a.above, a.gens, a.os⟩, by rw [e]; exact F⟩
  · obtain ⟨m, ⟨o, es, ep, en, y⟩, r⟩ := a.vars
    refine ⟨m, ⟨o, es, ep, k _ _ (fun q => a.off (q ▸ hx)) en, y⟩, fun y v q => ?_⟩
    obtain ⟨val, h1, h2⟩ := r y v q
    rw [e]; exact ⟨val, h1, Rep.seqs S _ _ h2⟩
  · refine k b ob (fun q => ?_) (a.keep b ob eb nb)
    subst q
    rcases (a.fresh _ u.mem).2 with h | h
    · exact nb h
    · rw [h] at eb; cases eb
  · rw [e]
    rcases u.cases a.nodup p hp with rfl | ⟨hm, hne⟩
    · exact ho
    · exact (a.own p hm).move (fun o e => k _ o hne e) S
  · show (own'.map (·.1)).Nodup
    rw [u.adr]; exact a.nodup
  · rw [e]; exact a.off
  · have : p.1 ∈ st.own.map (·.1) := u.adr ▸ List.mem_map_of_mem (f := (·.1)) hp
    obtain ⟨q, hq, e⟩ := List.mem_map.mp this
    rw [← e]; exact a.fresh q hq
  · refine k b ob (fun q => ?_) (a.top b ob eb)
    subst q
    rw [(a.fresh _ u.mem).1] at eb; cases eb
  · show _ ∧ b ∉ own'.map (·.1) ∧ _
    rw [u.adr]; exact a.hid b hb
end
theorem gD {α : Type} {l : List α} {i : Nat} {d : α} (h : i < l.length) : l.getD i d = l[i] := by rw [List.getD_eq_getElem?_getD, List.getElem?_eq_getElem h]; rfl
noncomputable abbrev T3 := Nat × Nat × Nat
noncomputable def m3 (t : T3) : V := .mat [.int (t.1 : Nat), .int (t.2.1 : Nat), .int (t.2.2 : Nat)]
noncomputable def t3 (t : T3) : V := .tup [.int (t.1 : Nat), .int (t.2.1 : Nat), .int (t.2.2 : Nat)]
noncomputable def key3 (t : T3) : Int := (t.1 : Int) * 100000000 + (t.2.1 : Int) * 10000 + (t.2.2 : Int)
noncomputable def Small (t : T3) : Prop := t.1 < 10000 ∧ t.2.1 < 10000 ∧ t.2.2 < 10000
theorem key3_inj {t u : T3} (h : Small t) (h' : Small u) (e : key3 t = key3 u) : t = u := by
  obtain ⟨a, b, c⟩ := t; obtain ⟨a', b', c'⟩ := u
  unfold Small at h h'; unfold key3 at e
  dsimp only at h h' e
  have : a = a' ∧ b = b' ∧ c = c' := by (first | lia | omega)
  obtain ⟨rfl, rfl, rfl⟩ := this; rfl
theorem key3_lex {t u : T3} (h : Small t) (h' : Small u) : lex3 ((t.1 : Int), (t.2.1 : Int), (t.2.2 : Int)) ((u.1 : Int), (u.2.1 : Int), (u.2.2 : Int)) = decide (key3 t < key3 u) := by
  obtain ⟨a, b, c⟩ := t; obtain ⟨a', b', c'⟩ := u
  unfold Small at h h'; unfold key3 lex3
  dsimp only at h h' ⊢
  by_cases h1 : (a : Int) = a'
  · rw [if_pos (by simpa using h1)]
    by_cases h2 : (b : Int) = b'
    · rw [if_pos (by simpa using h2)]
      by_cases h3 : (c : Int) = c'
      · rw [if_pos (by simpa using h3)]; symm; simp; (first | lia | omega)
      · rw [if_neg (by simpa using h3)]; congr 1; apply propext; (first | lia | omega)
    · rw [if_neg (by simpa using h2)]; congr 1; apply propext; (first | lia | omega)
  · rw [if_neg (by simpa using h1)]; congr 1; apply propext; (first | lia | omega)
theorem m3_rep {h : Heap} {own : List Addr} {t : T3} {x : Value} (r : Rep h own (m3 t) x) : ∃ a t₁ t₂ t₃, x = .ref a ∧ a ∉ own ∧ IsMat h a #[.int (t.1 : Nat) t₁, .int (t.2.1 : Nat) t₂, .int (t.2.2 : Nat) t₃] := by
  obtain ⟨a, items, rfl, n, hm, ⟨x1, r1, e1, ⟨t1, rfl⟩, x2, r2, e2, ⟨t2, rfl⟩, x3, r3, e3, ⟨t3, rfl⟩, e4⟩⟩ := r
  subst e4 e3 e2
  refine ⟨a, t1, t2, t3, rfl, n, ?_⟩
  have : items = #[.int (t.1 : Nat) t1, .int (t.2.1 : Nat) t2, .int (t.2.2 : Nat) t3] := by
    apply Array.toList_inj.mp; rw [e1]
  rw [← this]; exact hm
section
variable {prog : Program} {w : World} {c : Cx} {env : Env} {A : Around} {st st' : St} {s s' : Shared} {Q : V → St → Prop}
/-- sort() of an owned list of Matches, all different -/
theorem WC.sortMat {a : Addr} {ts : List T3} {own' : List V → List (Addr × O)} {n : Nat} (hA : AOk n A) (hX : ∀ h : Heap, (∀ b o, c.top.get? b = some o → h.get? b = some o) → MatOk (model prog w) h ∧ Looks (model prog w) h (typeLookup (.ref matchAt) "__lt__") (some (.builtin "tuple.__lt__")))
    (hu : ∀ vs', Upd a (.list (ts.map m3)) (.list vs') st.own (own' vs')) (h64 : ts.length < 64) (hn : ts.Nodup) (hsm : ∀ t ∈ ts, Small t)
    (h : ∀ ts' : List T3, ts'.Perm ts → ts'.Pairwise (fun t u => key3 t < key3 u) → Q .none ⟨st.vars, own' (ts'.map m3)⟩) : WC prog w c env A (.builtin "list.sort") [.ref a] st Q := fun s xs at' r => by
  obtain ⟨x, r', rfl, rx, rfl⟩ := r
  cases rx
  obtain ⟨items, ⟨n', ho⟩, rs⟩ := at'.own _ (hu []).mem
  have hlen : ts.length = items.toList.length := by have := rs.length; simpa using this
  have hin : a ∈ c.adr st := List.mem_append_left _ (List.mem_map_of_mem (f := (·.1)) (hu []).mem)
  have getR : ∀ i, i < items.toList.length → ∃ t x m t₁ t₂ t₃, ts[i]? = some t ∧ items.toList.getD i .none = x ∧ x = .ref m ∧ m ≠ a ∧ IsMat s.heap m #[.int (t.1 : Nat) t₁, .int (t.2.1 : Nat) t₂, .int (t.2.2 : Nat) t₃] := fun i hi => by
    obtain ⟨u, e1, e2⟩ := rs.get (x := items.toList[i]) _ _ i (List.getElem?_eq_getElem hi)
    rw [List.getElem?_map] at e1
    obtain ⟨t, e3, rfl⟩ := Option.map_eq_some_iff.mp e1
    obtain ⟨m, t1, t2, t3, e4, nm, hm⟩ := m3_rep e2
    exact ⟨t, _, m, t1, t2, t3, e3, gD hi, e4, fun q => nm (q ▸ hin), hm⟩
  have matK : ∀ {h : Heap} {m : Addr} {its : Array Value}, (∀ b o, b ≠ a → s.heap.get? b = some o → h.get? b = some o) → m ≠ a → IsMat s.heap m its → IsMat h m its := fun k ne hm => by
    obtain ⟨k1, dd, e⟩ := hm; exact ⟨k1, dd, k _ _ ne e⟩
  have topK : ∀ {h : Heap}, (∀ b o, b ≠ a → s.heap.get? b = some o → h.get? b = some o) → ∀ b o, c.top.get? b = some o → h.get? b = some o := fun k b o e => k b o (fun q => by
    have := (at'.fresh _ (hu []).mem).1
    rw [q, this] at e; cases e) (at'.top b o e)
  have ki : ∀ i, i < items.toList.length → key3 (ts.getD i (0, 0, 0)) = key3 (ts.getD i (0, 0, 0)) := fun _ _ => rfl
  have y : Ky items.toList.length (fun i => key3 (ts.getD i (0, 0, 0))) := ⟨fun i j hi hj e => by
    rw [← hlen] at hi hj
    rw [gD hi, gD hj] at e
    have := key3_inj (hsm _ (List.getElem_mem hi)) (hsm _ (List.getElem_mem hj)) e
    rcases Nat.lt_trichotomy i j with h1 | h1 | h1
    · exact absurd this (List.pairwise_iff_getElem.mp hn i j hi hj h1)
    · exact h1
    · exact absurd this.symm (List.pairwise_iff_getElem.mp hn j i hj hi h1)⟩
  have hitems : items = items.toList.toArray := by simp
  rw [hitems] at ho
  refine wpAny_call_entry slot_list_sort ⟨_, ho, rfl⟩ entry_list_sort (sort_tree (T := .ref matchAt) ho (by rw [← hlen]; exact h64) y (fun h k v hv => ?_) rfl rfl (fun s' k i j C hi hj hC => ?_) fun p h' c' g so hl hk => ⟨_, rfl, ?_⟩) (args_list_sort _)
  · obtain ⟨i, hi, rfl⟩ := List.mem_iff_getElem.mp hv
    obtain ⟨t, x, m, t1, t2, t3, e1, e2, e3, ne, hm⟩ := getR i hi
    have : items.toList[i] = .ref m := by rw [← e3, ← e2, gD hi]
    rw [this]
    exact IsMat.type (matK k ne hm)
  · obtain ⟨t, x, m, t1, t2, t3, e1, e2, e3, ne, hm⟩ := getR i hi
    obtain ⟨t', x', m', t1', t2', t3', e1', e2', e3', ne', hm'⟩ := getR j hj
    obtain ⟨MO, lt⟩ := hX s'.heap (topK k)
    rw [e2, e3, e2', e3']
    refine mat_lt ?_ MO lt (matK k ne hm) (matK k ne' hm') ?_
    · have := hA.units; show A.units + 1 < 9900; (first | lia | omega)
    · have f1 : ts.getD i (0, 0, 0) = t := by rw [List.getD_eq_getElem?_getD, e1]; rfl
      have f2 : ts.getD j (0, 0, 0) = t' := by rw [List.getD_eq_getElem?_getD, e1']; rfl
      rw [f1, f2] at hC
      rw [key3_lex (hsm t (List.mem_of_getElem? e1)) (hsm t' (List.mem_of_getElem? e1'))]
      exact hC
  · have gl : ∀ i ∈ p.toList, i < ts.length := fun i hi => by rw [hlen]; simpa using g.mem_iff.mp hi
    have S : Seqs (c.adr st) s.heap (c.adr st) h' := fun b ob eb nb _ => ⟨hk b ob (fun q => nb (q ▸ hin)) eb, nb⟩
    have rs' : Reps h' (c.adr st) ((p.toList.map fun i => ts.getD i (0, 0, 0)).map m3) (p.toList.map fun i => items.toList.getD i .none) := by
      have rh := Reps.seqs S _ _ rs
      generalize p.toList = l at gl
      induction l with
      | nil => rfl
      | cons i l ih =>
        have hi := gl i (.head _)
        obtain ⟨x, e, rx⟩ := rh.at (i := i) (u := m3 (ts.getD i (0, 0, 0))) (by simp [hi])
        refine ⟨x, _, ?_, rx, ih fun j hj => gl j (.tail _ hj)⟩
        show items.toList.getD i .none :: _ = x :: _
        rw [List.getD_eq_getElem?_getD, e]; rfl
    obtain ⟨a', F⟩ := at'.updE (hu ((p.toList.map fun i => ts.getD i (0, 0, 0)).map m3)) (t := s.toks) hk ⟨_, ⟨_, hl⟩, by simpa using rs'⟩
    refine ⟨_, a', F, .none, rfl, h _ ?_ ?_⟩
    · have pm : (p.toList.map fun i => ts.getD i (0, 0, 0)).Perm ((List.range items.toList.length).map fun i => ts.getD i (0, 0, 0)) := g.map _
      refine pm.trans ?_
      rw [← hlen]
      have : ((List.range ts.length).map fun i => ts.getD i (0, 0, 0)) = ts := by
        apply List.ext_getElem
        · simp
        · intro i q1 q2; simp at q1; simp [q1]
      rw [this]
    · rw [List.pairwise_map, List.pairwise_iff_getElem]
      intro i j hi hj hij
      have z := g.size
      have := so i j hij (by rw [← z]; simpa using hj)
      have e1 : p.getD i 0 = p.toList[i] := by simp [Array.getD, show i < p.size by simpa using hi]
      have e2 : p.getD j 0 = p.toList[j] := by simp [Array.getD, show j < p.size by simpa using hj]
      unfold Ms.K at this
      rw [e1, e2] at this
      exact this
end
end Mine
end PtLg39
section PtLg40
open PySem PySem.W PyProof.Rows
namespace Mine
namespace Mp
theorem slot_iter : Slot "map" "__iter__" "map.__iter__" := .of (owner := "map") (n := "__iter__") (by rw [typeLookup_type, builtinLookup_eq_fast]; kernel_rfl) (by decide +kernel) (by decide +kernel) (by decide +kernel) (.inl (by decide +kernel)) (by rw [isSubtype_type]; kernel_rfl)
theorem slot_next : Slot "map" "__next__" "map.__next__" := .of (owner := "map") (n := "__next__") (by rw [typeLookup_type, builtinLookup_eq_fast]; kernel_rfl) (by decide +kernel) (by decide +kernel) (by decide +kernel) (.inl (by decide +kernel)) (by rw [isSubtype_type]; kernel_rfl)
theorem slot_init : Slot "map" "__init__" "object.__init__" := .of (owner := "object") (n := "__init__") (by rw [typeLookup_type, builtinLookup_eq_fast]; kernel_rfl) (by decide +kernel) (by decide +kernel) (by decide +kernel) (.inl (by decide +kernel)) (by rw [isSubtype_type]; kernel_rfl)
theorem entry_iter : entryFor table "map.__iter__" = some Builtin.«dict_keyiterator.__iter__» :=
  entryFor_alias (id' := "dict_keyiterator.__iter__") (by kernel_rfl) (by first | rfl | decide +kernel) (by decide +kernel) (by kernel_rfl)
theorem entry_next : entryFor table "map.__next__" = some Builtin.«map.__next__» := entryFor_of_tree (by kernel_rfl)
theorem args_iter (a : Value) : argsOk "map.__iter__" ⟨[a], []⟩ := by unfold argsOk; kernel_rfl
theorem args_next (a : Value) : argsOk "map.__next__" ⟨[a], []⟩ := by unfold argsOk; kernel_rfl
theorem mro : mroOf (.type "map") = pure [.type "map", .type "object"] := by rw [mroOf_type]; kernel_rfl
theorem lookup_new : typeLookup (.type "map") "__new__" = pure (some (.builtin "map.__new__")) := by rw [typeLookup_type, builtinLookup_eq_fast]; kernel_rfl
theorem called : TypeCalled "map" "map.__new__" "object.__init__" :=
  ⟨by decide +kernel, by decide +kernel, ⟨_, _, mro⟩, madeBy_type mro lookup_new (by decide +kernel), by decide +kernel, by rw [isSubtype_type]; kernel_rfl, slot_init⟩
theorem typeCall (a b : Value) : checkTypeCall "map" ⟨[a, b], []⟩ = pure () := by kernel_rfl
theorem newCall (a b : Value) : checkBuiltinCall "map.__new__" ⟨[.type "map", a, b], []⟩ = pure () := by kernel_rfl
theorem entry_new : entryFor table "map.__new__" = some Builtin.«map.__new__» := entryFor_of_tree (by kernel_rfl)
theorem no_len : typeLookup (.type "map") "__len__" = pure none := by rw [typeLookup_type, builtinLookup_eq_fast]; kernel_rfl
theorem no_hint : typeLookup (.type "map") "__length_hint__" = pure none := by rw [typeLookup_type, builtinLookup_eq_fast]; kernel_rfl
theorem sub_map : isSubtype (.type "map") (.type "map") = pure true := by rw [isSubtype_type]; kernel_rfl
end Mp
noncomputable abbrev IsMapObj (h : Heap) (z TI : Addr) (f : Value) : Prop := h.get? z = some { cls := .type "map", dict := none, data := .fields #[.ref TI, f], slots := #[] }
noncomputable abbrev IsOne (h : Heap) (T : Addr) (a : Value) : Prop := h.get? T = some { cls := .type "tuple", data := .seq #[a] }
theorem meets_map_new (f : Value) (l : Addr) (xs : Array Value) :
    Meets (Builtin.«map.__new__» ⟨[.type "map", f, .ref l], []⟩) (fun _ R s => s.heap.IsList l xs ∧
      R (.ok (.ret (.ref (s.heap.objs.size + 2)))) { s with heap := ((s.heap.push { cls := .type "list_iterator", data := .fields #[.ref l, .int 0 0] }).push { cls := .type "tuple", data := .seq #[.ref s.heap.objs.size] }).push { cls := .type "map", data := .fields #[.ref (s.heap.objs.size + 1), f] } }) :=
  .of_wp fun prog w A R s h => by
    obtain ⟨hp, g, d, tk, os⟩ := s; obtain ⟨hl1, h⟩ := h
    have hsub := Mp.sub_map
    have hL1 : Heap.IsList (Shared.heap ⟨hp, g, d, tk, os⟩) l xs := hl1
    have z1 : (hp.push { cls := .type "list_iterator", data := .fields #[.ref l, .int 0 0] }).objs.size = hp.objs.size + 1 := Heap.size_push ..
    have z2 : ((hp.push { cls := .type "list_iterator", data := .fields #[.ref l, .int 0 0] }).push { cls := .type "tuple", data := .seq #[.ref hp.objs.size] }).objs.size = hp.objs.size + 2 := by rw [Heap.size_push, z1]
    wp_walk using wpAny_pyIter_list hL1
    rw [z1]
    refine ⟨_, rfl, ?_⟩
    show R (.ok (.ret (.ref ((hp.push { cls := .type "list_iterator", data := .fields #[.ref l, .int 0 0] }).push { cls := .type "tuple", data := .seq #[.ref hp.objs.size] }).objs.size))) _
    rw [z2]
    exact h
section
variable {prog : Program} {w : World} {A : Around} {E : Value → Shared → Prop} {s : Shared}
theorem call_map {f : Value} {l : Addr} {xs : Array Value} {Q : Value → Shared → Prop} (hl : s.heap.IsList l xs)
    (h : ∀ h', IsMapObj h' (s.heap.objs.size + 2) (s.heap.objs.size + 1) f → IsOne h' (s.heap.objs.size + 1) (.ref s.heap.objs.size) → h'.IsListIter s.heap.objs.size l 0 → h'.objs.size = s.heap.objs.size + 3 →
      (∀ c o, s.heap.get? c = some o → h'.get? c = some o) → Q (.ref (s.heap.objs.size + 2)) { s with heap := h' }) : wpAny (model prog w) A (call (.type "map") [f, .ref l]) Q E s := by
  refine callType_new Mp.called (by decide) (Mp.typeCall _ _) (Mp.newCall _ _) (fun obj => F.args_object_init_3 obj _ _) Mp.entry_new (meets_map_new f l xs) ⟨hl, ?_⟩
  have z1 : (s.heap.push { cls := .type "list_iterator", data := .fields #[.ref l, .int 0 0] }).objs.size = s.heap.objs.size + 1 := Heap.size_push ..
  have z2 : ((s.heap.push { cls := .type "list_iterator", data := .fields #[.ref l, .int 0 0] }).push { cls := .type "tuple", data := .seq #[.ref s.heap.objs.size] }).objs.size = s.heap.objs.size + 2 := by rw [Heap.size_push, z1]
  have z3 : (((s.heap.push { cls := .type "list_iterator", data := .fields #[.ref l, .int 0 0] }).push { cls := .type "tuple", data := .seq #[.ref s.heap.objs.size] }).push { cls := .type "map", data := .fields #[.ref (s.heap.objs.size + 1), f] }).objs.size = s.heap.objs.size + 3 := by rw [Heap.size_push, z2]
  have g3 := Heap.get?_push_size ((s.heap.push { cls := .type "list_iterator", data := .fields #[.ref l, .int 0 0] }).push { cls := .type "tuple", data := .seq #[.ref s.heap.objs.size] }) (o := { cls := .type "map", data := .fields #[.ref (s.heap.objs.size + 1), f] }) rfl
  rw [z2] at g3
  have g2 := Heap.get?_push_of_some { cls := .type "map", data := .fields #[.ref (s.heap.objs.size + 1), f] } (Heap.get?_push_size (s.heap.push { cls := .type "list_iterator", data := .fields #[.ref l, .int 0 0] }) (o := { cls := .type "tuple", data := .seq #[.ref s.heap.objs.size] }) rfl)
  rw [z1] at g2
  exact ⟨⟨_, g3, rfl⟩, h _ g3 g2 ⟨_, Heap.get?_push_of_some _ (Heap.get?_push_of_some _ (Heap.get?_push_size _ rfl)), rfl, rfl⟩ z3 fun c o x => Heap.get?_push_of_some _ (Heap.get?_push_of_some _ (Heap.get?_push_of_some _ x))⟩
theorem iter_map {z TI : Addr} {f : Value} {Q : Value → Shared → Prop} (hz : IsMapObj s.heap z TI f) (h : Q (.ref z) s) : wpAny (model prog w) A (pyIter (.ref z)) Q E s := by
  have hT : s.TypeIs (.ref z) "map" := ⟨_, hz, rfl⟩
  refine wpAny_pyIter_slot hT Mp.slot_iter (wpAny_call_entry Mp.slot_iter hT Mp.entry_iter ?_ (Mp.args_iter _))
  show wpAny _ _ (ret (.ref z)) _ _ s
  exact wpAny_pure ⟨_, rfl, "map", _, hT, Mp.slot_next.lookup, h⟩
theorem hint_map {z TI : Addr} {f : Value} {Q : Bool → Shared → Prop} (hz : IsMapObj s.heap z TI f) (h : Q true s) : wpAny (model prog w) A (Builtin.List.listLengthHint (.ref z)) Q E s := by
  have hT : s.TypeIs (.ref z) "map" := ⟨_, hz, rfl⟩
  unfold Builtin.List.listLengthHint
  refine wpAny_bind (wpAny_specialOf hT Mp.no_len ?_)
  dsimp only
  rw [if_neg (by decide), if_neg (by decide)]
  refine wpAny_bind (wpAny_specialOf hT Mp.no_hint ?_)
  exact wpAny_pure h
/-- one item through a map -/
theorem next_map_item {z TI I l : Addr} {f x : Value} {i : Nat} {items : Array Value} {Q : Option Value → Shared → Prop} (hz : IsMapObj s.heap z TI f) (hTI : IsOne s.heap TI (.ref I)) (hit : s.heap.IsListIter I l i) (hl : s.heap.IsList l items) (hx : items[i]? = some x) (hIz : I ≠ z)
    (h : ∀ h', h'.IsListIter I l (i + 1) → Heap.SameBut I s.heap h' → wpAny (model prog w) A.in1 (call f [x]) (fun y s' => Q (some y) s') (fun _ _ => False) { s with heap := h' }) : wpAny (model prog w) A (pyNext (.ref z)) Q E s := by
  have hT : s.TypeIs (.ref z) "map" := ⟨_, hz, rfl⟩
  unfold pyNext
  refine wpAny_bind (wpAny_attempt (wpAny_callSpecial?_slot (name := Str.ofString "__next__") hT Mp.slot_next (wpAny_call_entry Mp.slot_next hT Mp.entry_next ?_ (Mp.args_next _))))
  show wpAny _ _ (field (.ref z) 0 >>= fun t => seqItems? t >>= _) _ _ s
  refine wpAny_bind (wpAny_field hz rfl (x := .ref TI) rfl (wpAny_bind (wpAny_seqItems hTI rfl ?_)))
  dsimp only
  rw [← Array.forIn_toList]
  show wpAny _ _ (forIn [Value.ref I] _ _ >>= _) _ _ _
  rw [List.forIn_cons]
  refine wpAny_bind (wpAny_bind (wpAny_bind (wpAny_holding (wpAny_nextOf_list_item hit hl hx fun h' hit' hs' => wpAny_pure ?_))))
  dsimp only
  rw [List.forIn_nil]
  refine wpAny_pure ?_
  have hz' : IsMapObj h' z TI f := (hs'.2 z hIz.symm).trans hz
  refine wpAny_bind (wpAny_field (s := { s with heap := h' }) hz' rfl (x := f) rfl ?_)
  show wpAny _ _ (holding [x] (call f [x]) >>= fun result => letGo [x] [result] >>= fun _ => ret result) _ _ _
  refine wpAny_bind (wpAny_holding (wpAny_mono (h h' hit' hs') (fun y s' q => wpAny_bind (wpAny_letGo (wpAny_pure ⟨_, rfl, wpAny_pure q⟩))) fun _ _ e => e.elim))
theorem next_map_end {z TI I l : Addr} {f : Value} {i : Nat} {items : Array Value} {Q : Option Value → Shared → Prop} (hh : A.handled = Option.none) (hz : IsMapObj s.heap z TI f) (hTI : IsOne s.heap TI (.ref I)) (hit : s.heap.IsListIter I l i) (hl : s.heap.IsList l items) (hx : items[i]? = none)
    (h : ∀ h', Heap.ExtBut I s.heap h' → Q none { s with heap := h' }) : wpAny (model prog w) A (pyNext (.ref z)) Q E s := by
  have hT : s.TypeIs (.ref z) "map" := ⟨_, hz, rfl⟩
  unfold pyNext
  refine wpAny_bind (wpAny_attempt (wpAny_callSpecial?_slot (name := Str.ofString "__next__") hT Mp.slot_next (wpAny_call_entry Mp.slot_next hT Mp.entry_next ?_ (Mp.args_next _))))
  show wpAny _ _ (field (.ref z) 0 >>= fun t => seqItems? t >>= _) _ _ s
  refine wpAny_bind (wpAny_field hz rfl (x := .ref TI) rfl (wpAny_bind (wpAny_seqItems hTI rfl ?_)))
  dsimp only
  rw [← Array.forIn_toList]
  show wpAny _ _ (forIn [Value.ref I] _ _ >>= _) _ _ _
  rw [List.forIn_cons]
  refine wpAny_bind (wpAny_bind (wpAny_bind (wpAny_holding (wpAny_nextOf_list_end hh hit hl hx fun h' e hs' he => ?_))))
  obtain ⟨o, ho, hc⟩ := he
  refine wpAny_bind (wpAny_isInstance (T := "StopIteration") (b := true) ⟨o, ho, hc⟩ isSubtype_stop ?_)
  exact wpAny_pure (h h' hs')
end
end Mine
end PtLg40
section PtLg41
open PySem PySem.W PyProof.Rows
namespace Mine
section
variable {prog : Program} {w : World} {c : Cx} {env : Env} {A : Around} {st st' : St} {s s' : Shared} {Q : V → St → Prop} {top : Heap} {n : Nat}
theorem AOk.in1 {n : Nat} {A : Around} (a : AOk (n + 1) A) : AOk n A.in1 := ⟨a.handled, by have := a.depth; show A.depth + n ≤ 990; (first | lia | omega), by have := a.units; show A.units + 1 + 20 * n ≤ 9000; (first | lia | omega)⟩
/-- a method object, called -/
theorem call_mobj {M : Addr} {g sv : Value} {self : V} {args : List V} {r : V} {xs : List Value} {own : List Addr} (hF : Fc prog w top n g (self :: args) [] (fun v _ => v = r)) (hM : s.heap.get? M = some (methodObj g sv)) (hA : AOk n A) (ht : ∀ b o, top.get? b = some o → s.heap.get? b = some o) (hsz : top.objs.size ≤ s.heap.objs.size)
    (ho : ∀ a ∈ own, a < s.heap.objs.size ∧ top.get? a = Option.none) (rs : Rep s.heap own self sv) (ra : Reps s.heap own args xs) : wpAny (model prog w) A (PySem.call (.ref M) xs) (fun y s' => Rep s'.heap own r y ∧ Quiet s s') (fun _ _ => False) s := by
  refine wpAny_call (method_call hM (codeAny_mono (hF A s own (sv :: xs) hA ht hsz ⟨(fun p hp => nomatch hp), rfl, List.nodup_nil, fun a _ => List.not_mem_nil, ho⟩ ⟨_, _, rfl, rs, ra⟩) fun r' s' p => ?_))
  obtain ⟨x, rfl, v, objs', rv, L1, fr, kp, hg, hos, rfl⟩ := p
  exact ⟨rv.less fun a ha => List.mem_append_right _ ha, fun b o e => kp b o e List.not_mem_nil, hg, hos⟩
/-- the list that is filled from a map -/
theorem map_loop {S z TI I l M : Addr} {items : Array Value} {vs : List V} {F : V → V} {g sv : Value} {self : V} {vars : List (Str × V)} {own : List (Addr × O)} {res : Value} {R : Result → Shared → Prop} {s₀ : Shared} {st₀ : St}
    (hF : ∀ u ∈ vs, Fc prog w c.top n g [self, u] [] (fun v _ => v = F u)) (hA : AOk (n + 2) A) (hz : vs.length ≤ sizeLine) (a₀ : At prog w c env st₀ s₀)
    (hnI : s₀.heap.objs.size ≤ I) (hne : z ≠ I ∧ TI ≠ I ∧ l ≠ I ∧ M ≠ I)
    (done : ∀ s', At prog w c env ⟨vars, (S, .list (vs.map F)) :: own⟩ s' → Fol env.locals (c.adr st₀) s₀.heap (c.adr ⟨vars, (S, .list (vs.map F)) :: own⟩) s'.heap → R (.ok (.ret res)) s') :
    ∀ (k i : Nat) (s : Shared), vs.length - i = k → i ≤ vs.length → At prog w c env ⟨vars, (S, .list ((vs.take i).map F)) :: own⟩ s → Fol env.locals (c.adr st₀) s₀.heap (c.adr ⟨vars, (S, .list ((vs.take i).map F)) :: own⟩) s.heap →
      IsMapObj s.heap z TI (.ref M) → IsOne s.heap TI (.ref I) → s.heap.IsListIter I l i → s.heap.IsList l items → s.heap.get? M = some (methodObj g sv) → Reps s.heap (c.adr ⟨vars, (S, .list ((vs.take i).map F)) :: own⟩) vs items.toList → Rep s.heap (c.adr ⟨vars, (S, .list ((vs.take i).map F)) :: own⟩) self sv →
      (∀ b ∈ [z, TI, I, l, M], b ∉ c.adr ⟨vars, (S, .list ((vs.take i).map F)) :: own⟩) →
      codeAny (model prog w) A (.builtin "list.extend.loop" ⟨[.ref S, .ref z, res], []⟩) R s := by
  obtain ⟨nz, nT, nl, nM⟩ := hne
  have nIw : c.h₀.get? I = Option.none ∧ c.top.get? I = Option.none ∧ s₀.heap.get? I = Option.none := ⟨none_above (Nat.le_trans (Nat.le_of_lt a₀.size) hnI), none_above (Nat.le_trans (Nat.le_trans a₀.low (Nat.le_of_lt a₀.size)) hnI), none_above hnI⟩
  intro k
  induction k with
  | zero =>
    intro i s hk hi a F₀ hmap hone hit hl hM rs rself off
    have hin : i = vs.length := by (first | lia | omega)
    subst hin
    refine codeAny_builtin PySem.F.entry_extend_loop ?_
    rw [Around.under_plainId PySem.F.plain_extend_loop _]
    show wpAny _ A.in1 (pyNext (.ref z) >>= _) _ _ s
    have hlen : vs.length = items.size := by have := rs.length; simpa using this
    have nr : ∀ b ∈ [I], ¬ Rd s.heap b := fun b hb => by
      rw [List.mem_singleton.mp hb]
      obtain ⟨o, e, hc, hd⟩ := hit
      exact notRd e hc hd (by decide) (by decide) (by decide) (fun _ _ q => by simp at q)
    have nL : I ≠ env.locals := fun q => by
      obtain ⟨m, ⟨o, es, ep, e, d, _⟩, _⟩ := a.vars
      obtain ⟨o', e', hc, hd⟩ := hit
      rw [q, e] at e'; cases e'; rw [d] at hd; cases hd
    refine wpAny_bind (next_map_end hA.handled hmap hone hit hl (by rw [hlen]; simp) fun h' he => ?_)
    have kk : ∀ b o, b ∉ [I] → s.heap.get? b = some o → h'.get? b = some o := fun b o nb e => he b o (fun q => nb (by simp [q])) e
    have a' : At prog w c env ⟨vars, (S, .list ((vs.take vs.length).map F)) :: own⟩ { s with heap := h' } := a.but kk nr (fun b hb => by
      rw [List.mem_singleton.mp hb]; exact ⟨off I (by simp), nL, nIw.1, nIw.2.1⟩) rfl rfl
    rw [List.take_length] at a' F₀
    exact wpAny_pure (done _ a' fun b o e nb nl => ⟨kk b o (fun q => by rw [List.mem_singleton.mp q, nIw.2.2] at e; cases e) (F₀ b o e nb nl).1, (F₀ b o e nb nl).2⟩)
  | succ k ih =>
    intro i s hk hi a F₀ hmap hone hit hl hM rs rself off
    have hlt : i < vs.length := by (first | lia | omega)
    have hlen : vs.length = items.size := by have := rs.length; simpa using this
    refine codeAny_builtin PySem.F.entry_extend_loop ?_
    rw [Around.under_plainId PySem.F.plain_extend_loop _]
    show wpAny _ A.in1 (pyNext (.ref z) >>= _) _ _ s
    have nr : ∀ b ∈ [I], ¬ Rd s.heap b := fun b hb => by
      rw [List.mem_singleton.mp hb]
      obtain ⟨o, e, hc, hd⟩ := hit
      exact notRd e hc hd (by decide) (by decide) (by decide) (fun _ _ q => by simp at q)
    have nL : I ≠ env.locals := fun q => by
      obtain ⟨m, ⟨o, es, ep, e, d, _⟩, _⟩ := a.vars
      obtain ⟨o', e', hc, hd⟩ := hit
      rw [q, e] at e'; cases e'; rw [d] at hd; cases hd
    have hx : items[i]? = some items[i] := Array.getElem?_eq_getElem (by (first | lia | omega))
    refine wpAny_bind (next_map_item hmap hone hit hl hx nz.symm fun h' hit' hs' => ?_)
    have kk : ∀ b o, b ∉ [I] → s.heap.get? b = some o → h'.get? b = some o := fun b o nb e => hs'.extBut b o (fun q => nb (by simp [q])) e
    have a₁ : At prog w c env ⟨vars, (S, .list ((vs.take i).map F)) :: own⟩ { s with heap := h' } := a.but kk nr (fun b hb => by
      rw [List.mem_singleton.mp hb]; exact ⟨off I (by simp), nL, nIw.1, nIw.2.1⟩) rfl rfl
    have rs₁ : Reps h' _ vs items.toList := Reps.but kk nr _ _ rs
    have rself₁ : Rep h' _ self sv := Rep.but kk nr _ _ rself
    have hu : vs[i]? = some vs[i] := List.getElem?_eq_getElem hlt
    obtain ⟨y, ey, ry⟩ := rs₁.at hu
    have ey' : y = items[i] := by
      have : items.toList[i]? = some items[i] := by simp
      rw [this] at ey; cases ey; rfl
    subst ey'
    have at1 : ∀ b, b ≠ I → ∀ o, s.heap.get? b = some o → h'.get? b = some o := fun b nb o e => hs'.extBut b o nb e
    refine wpAny_mono (call_mobj (hF vs[i] (List.getElem_mem hlt)) (at1 M nM _ hM) (AOk.in1 (AOk.in1 hA)) a₁.top (Nat.le_trans a₁.low (Nat.le_of_lt a₁.size)) a₁.lt rself₁ (Reps.one ry)) (fun v s₂ p => ?_) fun _ _ e => e.elim
    obtain ⟨rv, qq⟩ := p
    have a₂ := a₁.quiet qq
    obtain ⟨its, ⟨cn, hS⟩, rS⟩ := a₂.own _ (.head _)
    have hSz : its.size ≤ sizeLine := by
      have := rS.length; simp at this; (first | lia | omega)
    show wpAny _ A.in1 (updateSeq S (·.push v) >>= _) _ _ _
    refine wpAny_bind (wpAny_updateSeq hS rfl ?_ (by exact hSz) (by show (its.push v).size ≤ sizeLine + 1; rw [Array.size_push]; (first | lia | omega)))
    have hS' := Heap.get?_update_self (Obj.mapSeq (·.push v)) hS rfl
    have sb := Heap.SameBut.update s₂.heap S (Obj.mapSeq (·.push v))
    have hin : S ∈ c.adr ⟨vars, (S, O.list ((vs.take i).map F)) :: own⟩ := List.mem_append_left _ (.head _)
    have Sq : Seqs (c.adr ⟨vars, (S, O.list ((vs.take i).map F)) :: own⟩) s₂.heap (c.adr ⟨vars, (S, O.list ((vs.take i).map F)) :: own⟩) (s₂.heap.update S (Obj.mapSeq (·.push v))) := fun b ob eb nb _ => ⟨(sb.2 b fun q => nb (q ▸ hin)).trans eb, nb⟩
    have etake : (vs.take (i + 1)).map F = (vs.take i).map F ++ [F vs[i]] := by rw [List.take_add_one, hu, List.map_append]; rfl
    obtain ⟨a₃, F₃⟩ := a₂.upd (x := S) (o := .list ((vs.take i).map F)) (o' := .list ((vs.take (i + 1)).map F)) (own' := (S, .list ((vs.take (i + 1)).map F)) :: own) .head (t := s₂.toks) sb ⟨its.push v, ⟨_, hS'⟩, by
      rw [Array.toList_push, etake]
      exact Reps.reverse.app (Reps.seqs Sq _ _ rS) (Reps.one (Rep.seqs Sq _ _ rv))⟩
    have kp : ∀ b, b ∈ [z, TI, I, l, M] → ∀ o, s₂.heap.get? b = some o → (s₂.heap.update S (Obj.mapSeq (·.push v))).get? b = some o := fun b hb o e => (sb.2 b fun q => off b hb (q ▸ hin)).trans e
    refine wpAny_pure ⟨plainId_quiet PySem.F.plain_extend_loop _, ih (i + 1) _ (by (first | lia | omega)) hlt a₃ ?_ ?_ ?_ ?_ ?_ ?_ ?_ ?_ ?_⟩
    · refine Fol.trans (fun b o e nb nl => ?_) F₃
      have := F₀ b o e nb nl
      exact ⟨qq.keep b o (at1 b (fun q => by rw [q, nIw.2.2] at e; cases e) o this.1), this.2⟩
    · exact kp z (by simp) _ (qq.keep _ _ (at1 z nz _ hmap))
    · exact kp TI (by simp) _ (qq.keep _ _ (at1 TI nT _ hone))
    · obtain ⟨o, e, r⟩ := hit'; exact ⟨o, kp I (by simp) _ (qq.keep _ _ e), r⟩
    · obtain ⟨o, e, r⟩ := hl; exact ⟨o, kp l (by simp) _ (qq.keep _ _ (at1 l nl _ e)), r⟩
    · exact kp M (by simp) _ (qq.keep _ _ (at1 M nM _ hM))
    · exact Reps.seqs Sq _ _ (rs₁.quiet qq)
    · exact Rep.seqs Sq _ _ (rself₁.quiet qq)
    · exact off
end
end Mine
end PtLg41
section PtLg42
open PySem PySem.W PyProof.Rows
namespace Mine
section
variable {prog : Program} {w : World} {c : Cx} {env : Env} {A : Around} {st st' : St} {s s' : Shared} {Q : V → St → Prop} {n : Nat} {K : Frag}
theorem list_init_map {z TI : Addr} {f : Value} {S : Addr} {R : Result → Shared → Prop} (hz : IsMapObj s.heap z TI f) (hS : s.heap.get? S = some { cls := .type "list", data := .seq #[] }) (hne : S ≠ z)
    (h : ∀ h' cn, h'.get? S = some { cls := .type "list", data := .seq #[] cn } → Heap.SameBut S s.heap h' → codeAny (model prog w) A (.builtin "list.extend.loop" ⟨[.ref S, .ref z, .none], []⟩) R { s with heap := h' }) :
    wpAny (model prog w) A.in1 (Builtin.«list.__init__» ⟨[.ref S, .ref z], []⟩) (fun fin s' => match fin with | .done f => R (.ok f) s' | .again c' => c'.quiet = true ∧ codeAny (model prog w) A c' R s') (fun e s' => R (.error e) s') s := by
  show wpAny _ _ (do let old ← Builtin.List.listItems (.ref S); Builtin.List.listUpdate (.ref S) (fun _ => #[]); letGo old.toList.reverse; Builtin.List.listExtendWith (.ref S) (.ref z) .none) _ _ s
  refine wpAny_bind ?_
  unfold Builtin.List.listItems
  refine wpAny_bind (wpAny_seqItems hS rfl (wpAny_pure ?_))
  show wpAny _ _ (updateSeq S (fun _ => #[]) >>= fun _ => letGo (#[] : Array Value).toList.reverse >>= fun _ => Builtin.List.listExtendWith (.ref S) (.ref z) .none) _ _ s
  refine wpAny_bind (wpAny_updateSeq hS rfl ?_)
  have hS₂ := Heap.get?_update_self (Obj.mapSeq (fun _ => (#[] : Array Value))) hS rfl
  have sb₂ := Heap.SameBut.update s.heap S (Obj.mapSeq (fun _ => (#[] : Array Value)))
  refine wpAny_bind (wpAny_letGo ?_)
  unfold Builtin.List.listExtendWith
  have hz₂ : IsMapObj (s.heap.update S (Obj.mapSeq (fun _ => (#[] : Array Value)))) z TI f := (sb₂.2 z hne.symm).trans hz
  refine wpAny_bind (wpAny_typeOf (T := "map") ⟨_, hz₂, rfl⟩ ?_)
  have h1 : Builtin.List.listSameRef (.ref S) (.ref z) = false := by simp [Builtin.List.listSameRef, hne]
  have h2 : (Value.type "map" == Value.type "list") = false := by decide
  have h3 : (Value.type "map" == Value.type "tuple") = false := by decide
  simp only [h1, h2, h3, Bool.or_false, Bool.false_eq_true, if_false]
  refine wpAny_bind (iter_map hz₂ (wpAny_bind (wpAny_holding (hint_map hz₂ ?_))))
  simp only [Bool.true_or, if_true]
  refine wpAny_bind (wpAny_rule (wpAny_bind ?_))
  show wpAny _ _ (updateSeq S (·.push .none) >>= fun _ => updateSeq S (·.pop)) _ _ _
  refine wpAny_bind (wpAny_updateSeq hS₂ rfl ?_)
  have hS₃ := Heap.get?_update_self (Obj.mapSeq (·.push Value.none)) hS₂ rfl
  refine wpAny_updateSeq (hz := by seq_fits) hS₃ rfl ?_
  have hS₄ := Heap.get?_update_self (Obj.mapSeq (·.pop)) hS₃ rfl
  refine wpAny_pure ⟨plainId_quiet PySem.F.plain_extend_loop _, h _ _ hS₄ ?_⟩
  exact (sb₂.trans (Heap.SameBut.update ..)).trans (Heap.SameBut.update ..)
theorem At.tailDrop {p : Addr × O} {vars : List (Str × V)} {own : List (Addr × O)} (x : At prog w c env ⟨vars, p :: own⟩ s) : At prog w c env ⟨vars, own⟩ s := by
  have less : ∀ y ∈ c.adr ⟨vars, own⟩, y ∈ c.adr ⟨vars, p :: own⟩ := fun y hy => .tail _ hy
  refine ⟨?_, x.keep, fun q hq => ?_, (List.nodup_cons.mp x.nodup).2, fun q => x.off (less _ q), fun q hq => x.fresh q (.tail _ hq), x.top, x.low, fun y hy => ⟨(x.hid y hy).1, fun q => (x.hid y hy).2.1 (.tail _ q), (x.hid y hy).2.2⟩, x.above, x.gens, x.os⟩
  · obtain ⟨m, n, r⟩ := x.vars
    refine ⟨m, n, fun y v q => ?_⟩
    obtain ⟨val, h1, h2⟩ := r y v q
    exact ⟨val, h1, h2.less less⟩
  · exact (x.own q (.tail _ hq)).move (fun _ e => e) fun b o e nb _ => ⟨e, fun z => nb (less b z)⟩
/-- list(map(Match._make, e)) -/
theorem W.listMake {fl fm fM e : Expr} {apos pos pos' : Pos} {g cm : Addr} {F : V → V} {rest : List Value} (X : K.In c.top) (hA : AOk (n + 4) A)
    (hr : readsIn K matchAt (.type "type") = true) (hf : findCls K (.ref matchAt) (.type "type") "_make" = some (.get (.builtin "classmethod.__get__") (.ref cm) .none (.ref matchAt))) (hcm : recIn K cm "classmethod" = some (.ref g :: rest))
    (h : W prog w c env A fl st (fun v st₁ => v = .con (.type "list") ∧ W prog w c env A fm st₁ (fun v st₂ => v = .con (.type "map") ∧ W prog w c env A fM st₂ (fun v st₃ => v = .con (.ref matchAt) ∧ W prog w c env A e st₃ (fun v st₄ =>
      ∃ vs, v = .lst vs ∧ vs.length ≤ sizeLine ∧ (∀ u ∈ vs, Fc prog w c.top n (.ref g) [.con (.ref matchAt), u] [] (fun v _ => v = F u)) ∧ Q (.lst (vs.map F)) st₄)))))
    (hl : plainArg e = true := by rfl)
    (he : eval (.Call fl [.Call fm [.Attribute fM "_make" apos, e] [] pos'] [] pos) env = (do callWith pos (← eval fl env) [] (backTo pos (starEach [.Call fm [.Attribute fM "_make" apos, e] [] pos'] env)) []) := by rfl)
    (he' : backTo pos (starEach [.Call fm [.Attribute fM "_make" apos, e] [] pos'] env) = [(false, eval (.Call fm [.Attribute fM "_make" apos, e] [] pos') env)] := by rfl)
    (hi : eval (.Call fm [.Attribute fM "_make" apos, e] [] pos') env = (do callWith pos' (← eval fm env) [] (backTo pos' (starEach [.Attribute fM "_make" apos, e] env)) []) := by rfl)
    (hi' : backTo pos' (starEach [.Attribute fM "_make" apos, e] env) = [(false, eval (.Attribute fM "_make" apos) env), (false, eval e env)] := by rfl)
    (ha : eval (.Attribute fM "_make" apos) env = (do
      let o ← eval fM env
      standAt apos.atName
      let r ← holding [o] (getAttr o "_make" true)
      letTemporaryGo fM o r
      pure r) := by rfl) : W prog w c env A (.Call fl [.Call fm [.Attribute fM "_make" apos, e] [] pos'] [] pos) st Q := fun s a => by
  rw [he]
  refine wpAny_bind (wpAny_mono (h s a) (fun x s₁ p => ?_) fun _ _ e => e)
  obtain ⟨st₁, a₁, F₁, v, rv, rfl, h₁⟩ := p
  cases rv
  refine callWith_any (plain_each (by rfl)) ?_
  rw [he']
  refine Calls.spliced_cons ?_
  rw [hi]
  refine wpAny_bind (wpAny_mono (h₁ s₁ a₁) (fun x s₂ p => ?_) fun _ _ e => e)
  obtain ⟨st₂, a₂, F₂, v, rv, rfl, h₂⟩ := p
  cases rv
  refine callWith_any (plain_each (by show (true && (plainArg e && true)) = true; rw [hl]; rfl)) ?_
  rw [hi']
  refine Calls.spliced_cons (Attribute_any_ (wpAny_mono (h₂ s₂ a₂) (fun x s₃ p => ?_) fun _ _ e => e) ha)
  obtain ⟨st₃, a₃, F₃, v, rv, rfl, h₃⟩ := p
  cases rv
  have XX := X.keeps a₃.top
  refine cls_bind XX hr hf (wpAny_call (cm_get (s := { s₃ with toks := s₃.toks + 1 }) XX hcm (handed_on rfl ?_)))
  have q₃ : Quiet s₃ { s₃ with heap := s₃.heap.push (methodObj (.ref g) (.ref matchAt)), toks := s₃.toks + 1 } := Quiet.push _ _ _
  have a₃' := a₃.quiet q₃
  obtain ⟨z1, z2, z3, z4⟩ := a₃.new
  have hM₃ : (s₃.heap.push (methodObj (.ref g) (.ref matchAt))).get? s₃.heap.objs.size = some (methodObj (.ref g) (.ref matchAt)) := Heap.get?_push_size _ rfl
  refine Calls.spliced_cons (wpAny_mono (h₃ _ a₃') (fun x s₄ p => ?_) fun _ _ e => e)
  obtain ⟨st₄, a₄, F₄, v, rv, vs, rfl, hz, hF, q⟩ := p
  obtain ⟨l, items, rfl, nl, hL', rs⟩ := rv
  have hL := hL'.isList
  have nLoc : s₃.heap.objs.size ≠ env.locals := fun q => by
    obtain ⟨m, n, _⟩ := a₃.vars; exact absurd n.lt (q ▸ Nat.lt_irrefl _)
  obtain ⟨hM₄, nM₄⟩ := F₄ _ _ hM₃ z4 nLoc
  refine Calls.spliced_nil ⟨Kpt.type (top := c.top) A s₄ a₄.top, ?_⟩
  refine call_map hL fun h' hmap hone hit hsz kk => ?_
  have q₄ : Quiet s₄ { s₄ with heap := h' } := ⟨kk, rfl, rfl⟩
  have a₅ := a₄.quiet q₄
  refine Calls.spliced_nil ⟨Kpt.type (top := c.top) A _ a₅.top, ?_⟩
  have FF : Fol env.locals (c.adr st) s.heap (c.adr st₄) s₄.heap := (F₁.trans F₂).trans ((F₃.trans (Fol.quiet q₃ _ _)).trans F₄)
  refine callType_codes (Q₁ := fun obj s₁ => obj = .ref h'.objs.size ∧ s₁ = { s₄ with heap := h'.push { cls := .type "list", data := .seq #[] } }) PySem.F.called_list (PySem.F.typeCall_list_1 _) PySem.F.entry_list_init
    (code_list_new _ ⟨rfl, rfl⟩) fun obj s₁ h₁ => ?_
  obtain ⟨rfl, rfl⟩ := h₁
  have hS : (h'.push { cls := .type "list", data := .seq #[] }).get? h'.objs.size = some { cls := .type "list", data := .seq #[] } := Heap.get?_push_size _ rfl
  have hlt : ∀ {b o}, h'.get? b = some o → b ≠ h'.objs.size := fun e => Nat.ne_of_lt (Heap.lt_size e)
  refine ⟨⟨_, hS, rfl⟩, PySem.F.args_list_init_2 _ _, list_init_map (A := A.in1) (Heap.get?_push_of_some _ hmap) hS (hlt hmap).symm fun h₆ cn hS₆ sb₆ => ?_⟩
  have up : ∀ b, s₄.heap.objs.size ≤ b → b ∉ c.adr st₄ := fun b hb q => absurd (a₄.lt b q).1 (Nat.not_lt.mpr hb)
  obtain ⟨a₆, F₆, ne₆⟩ := At.allocR a₅ (o := { cls := .type "list", data := .seq #[] cn }) (ob := .list []) (t := s₄.toks) rfl ⟨#[], ⟨_, Heap.get?_push_size _ rfl⟩, rfl⟩
  have same : ∀ b o, (h'.push { cls := .type "list", data := .seq #[] cn }).get? b = some o → h₆.get? b = some o := fun b o e => by
    by_cases q : b = h'.objs.size
    · subst q
      rw [Heap.get?_push_size _ rfl] at e; cases e
      exact hS₆
    · rw [sb₆.2 b q]
      rw [Heap.get?_push_ne _ _ _ q] at e ⊢
      exact e
  have q₆ : Quiet { s₄ with heap := h'.push { cls := .type "list", data := .seq #[] cn } } { s₄ with heap := h₆ } := ⟨same, rfl, rfl⟩
  have a₇ : At prog w c env ⟨st₄.vars, (h'.objs.size, .list []) :: st₄.own⟩ { s₄ with heap := h₆ } := At.quiet (s := { s₄ with heap := h'.push { cls := .type "list", data := .seq #[] cn } }) a₆ q₆
  have F₇ : Fol env.locals (c.adr st₄) s₄.heap (c.adr ⟨st₄.vars, (h'.objs.size, O.list []) :: st₄.own⟩) h₆ := (Fol.quiet q₄ _ _).trans (F₆.trans (Fol.quiet q₆ _ _))
  have k₇ : ∀ b o, h'.get? b = some o → h₆.get? b = some o := fun b o e => same b o (Heap.get?_push_of_some _ e)
  have hMlt : s₃.heap.objs.size < s₄.heap.objs.size := Heap.lt_size hM₄
  have hllt : l < s₄.heap.objs.size := by obtain ⟨o, e, _⟩ := hL; exact Heap.lt_size e
  have offs : ∀ b, b ≠ h'.objs.size → b ∉ c.adr st₄ → b ∉ c.adr ⟨st₄.vars, (h'.objs.size, O.list []) :: st₄.own⟩ := fun b h1 h2 q => by
    rcases List.mem_cons.mp q with q | q
    · exact h1 q
    · exact h2 q
  have S₇ := a₄.seqs F₇
  refine map_loop (n := n) (z := s₄.heap.objs.size + 2) (TI := s₄.heap.objs.size + 1) (I := s₄.heap.objs.size) (c := c) (env := env) (st₀ := st₄) (s₀ := s₄) (S := h'.objs.size) (F := F) (g := .ref g) (sv := .ref matchAt) (self := .con (.ref matchAt)) (M := s₃.heap.objs.size) (l := l) (items := items) (vars := st₄.vars) (own := st₄.own) hF (AOk.in1 (hA.less (by (first | lia | omega)))) hz a₄ (Nat.le_refl _)
    ⟨Nat.ne_of_gt (Nat.lt_add_of_pos_right (by decide)), Nat.ne_of_gt (Nat.lt_add_of_pos_right (by decide)), Nat.ne_of_lt hllt, Nat.ne_of_lt hMlt⟩ (fun s' a' F' => ?_) vs.length 0 { s₄ with heap := h₆ } (by (first | lia | omega)) (Nat.zero_le _) a₇ F₇ (k₇ _ _ hmap) (k₇ _ _ hone) ?_ ?_ (k₇ _ _ (kk _ _ hM₄)) (Reps.seqs S₇ _ _ rs) rfl ?_
  · refine ⟨rfl, ?_⟩
    obtain ⟨its, hpl, rsl⟩ := a'.own _ (.head _)
    have less : ∀ x ∈ c.adr st₄, x ∈ c.adr ⟨st₄.vars, (h'.objs.size, O.list (vs.map F)) :: st₄.own⟩ := fun x hx => .tail _ hx
    have a'' : At prog w c env st₄ s' := At.tailDrop a'
    refine ⟨st₄, a'', FF.trans fun b o e nb nl => ⟨(F' b o e nb nl).1, fun q => (F' b o e nb nl).2 (less b q)⟩, .lst (vs.map F), ⟨_, its, rfl, ?_, hpl, rsl.less less⟩, q⟩
    exact up _ (by rw [hsz]; exact Nat.le_add_right _ _)
  · obtain ⟨o, e, r⟩ := hit; exact ⟨o, k₇ _ _ e, r⟩
  · obtain ⟨o, e, r⟩ := hL; exact ⟨o, k₇ _ _ (kk _ _ e), r⟩
  · intro b hb
    simp only [List.mem_cons, List.not_mem_nil, or_false] at hb
    rcases hb with rfl | rfl | rfl | rfl | rfl
    · exact offs _ (by (first | lia | omega)) (up _ (by (first | lia | omega)))
    · exact offs _ (by (first | lia | omega)) (up _ (by (first | lia | omega)))
    · exact offs _ (by (first | lia | omega)) (up _ (Nat.le_refl _))
    · exact offs _ (by rw [hsz]; exact Nat.ne_of_lt (Nat.lt_of_lt_of_le hllt (Nat.le_add_right _ _))) nl
    · exact offs _ (by (first | lia | omega)) nM₄
end
end Mine
end PtLg42
section PtLg43
open PySem PySem.W PyProof.Rows
namespace Mine
theorem tlen_kind : builtinKind "tuple.__len__" = some .slot := by decide +kernel
theorem tlen_split : splitId "tuple.__len__" = some ("tuple", "__len__") := by decide +kernel
section
variable {prog : Program} {w : World} {c : Cx} {env : Env} {A : Around} {st st' : St} {s s' : Shared} {Q : V → St → Prop} {top : Heap} {n : Nat}
theorem len_mat {E : Value → Shared → Prop} {x : Addr} {items : Array Value} {Q : Value → Shared → Prop} (X : MatOk (model prog w) s.heap) (hx : IsMat s.heap x items) (hz : items.size ≤ sizeLine)
    (h : Q (.int items.size (s.toks + 1)) { s with toks := s.toks + 1 + 1 }) : wpAny (model prog w) A (PySem.call (.builtin "len") [.ref x]) Q E s := by
  have hs : sizeLine = 16777216 := rfl
  refine Calls.call_function_entry kind_len plain_len entry_len (args_len1 _) ?_
  unfold Builtin.«len»
  refine wpAny_bind (m := oneArg "len" _) (wpAny_pure ?_)
  have L0 : Looks (model prog w) s.heap (specialOf (.ref x) "__len__") (some (.builtin "tuple.__len__")) := (IsMat.type hx).andThen X.len
  have hb : bindSpecial (.builtin "tuple.__len__") (.ref x) = pure (.builtin "tuple.__len__", [.ref x]) := PySem.F.slot_tuple_len.bind _
  have cl : wpAny (model prog w) A.in1 (PySem.call (.builtin "tuple.__len__") [.ref x]) (fun v s' => v = .int items.size s.toks ∧ s' = { s with toks := s.toks + 1 }) (fun _ _ => False) s := by
    refine call_matSlot X hx tlen_kind tlen_split (PySem.F.args_tuple_len_1 _) PySem.F.slot_tuple_len.plain PySem.F.entry_tuple_len ?_
    show wpAny _ _ (Builtin.Tuple.tupleItemsOf (.ref x) >>= fun xs => retInt xs.size) _ _ s
    exact wpAny_bind (sq_items hx.sq (wpAny_bind (wpAny_mkInt (wpAny_pure ⟨rfl, rfl⟩))))
  refine wpAny_bind ?_
  unfold callSpecial?
  refine wpAny_bind (L0.here (wpAny_holding (wpAny_bind ?_)))
  rw [hb]
  refine wpAny_pure (wpAny_bind (wpAny_mono cl (fun v s' p => ?_) fun _ _ e => e.elim))
  obtain ⟨rfl, rfl⟩ := p
  refine wpAny_pure ?_
  refine wpAny_bind (wpAny_holding (wpAny_pure ?_))
  refine wpAny_bind (wpAny_letGo ?_)
  show wpAny _ _ (if (items.size : Int) < 0 then _ else _) _ _ _
  rw [if_neg (by (first | lia | omega))]
  show wpAny _ _ (if (items.size : Int) ≥ 2 ^ 63 then _ else _) _ _ _
  rw [if_neg (by (first | lia | omega))]
  exact wpAny_bind (wpAny_mkInt (wpAny_pure ⟨_, rfl, h⟩))
theorem Op.lenMat {vs : List V} (hX : ∀ h : Heap, (∀ b o, top.get? b = some o → h.get? b = some o) → MatOk (model prog w) h) (hz : vs.length ≤ sizeLine) : Op prog w top n (fun xs => PySem.call (.builtin "len") xs) [.mat vs] (.int vs.length) := by
  rintro A s own xs _ ht _ hown ⟨x, r, rfl, ⟨a, items, rfl, na, hM, rs⟩, rfl⟩
  have e : items.size = vs.length := by rw [rs.length]; simp
  refine len_mat (hX _ ht) hM (by rw [e]; exact hz) ⟨?_, ⟨fun _ _ e => e, rfl, rfl⟩⟩
  rw [e]
  exact ⟨_, rfl⟩
theorem At.repOf {st' : St} (a : At prog w c env st' s) {v : V} {x : Value} (r : Rep s.heap (c.adr st) v x) (e : c.adr st' = c.adr st) : Rep s.heap (c.adr st') v x := by rw [e]; exact r
/-- pop() of an owned list -/
theorem WC.pop {a : Addr} {vs : List V} {v : V} {own' : List (Addr × O)} (hu : Upd a (.list (vs ++ [v])) (.list vs) st.own own') (hz : vs.length < sizeLine) (h : Q v ⟨st.vars, own'⟩) : WC prog w c env A (.builtin "list.pop") [.ref a] st Q := fun s xs at' r => by
  obtain ⟨x, r', rfl, rx, rfl⟩ := r
  cases rx
  obtain ⟨items, ⟨n', ho⟩, rs⟩ := at'.own _ hu.mem
  have hlen : items.size = vs.length + 1 := by have := rs.length; simpa using this.symm
  obtain ⟨y, ey, ry⟩ := rs.at (i := vs.length) (u := v) (by simp)
  have hy : items[items.size - 1]? = some y := by rw [hlen]; simpa using ey
  refine call_meets PySem.F.slot_list_pop ⟨_, ho, rfl⟩ PySem.F.entry_list_pop (PySem.F.args_list_pop_1 _) (MeetsSeq.list_pop_last a items n' y hy (by rw [hlen]; exact hz)) ⟨ho, ?_⟩
  have hin : a ∈ c.adr st := List.mem_append_left _ (List.mem_map_of_mem (f := (·.1)) hu.mem)
  have sb := Heap.SameBut.update s.heap a (Obj.mapSeq fun xs => xs.eraseIdxIfInBounds (items.size - 1))
  have S : Seqs (c.adr st) s.heap (c.adr st) (s.heap.update a (Obj.mapSeq fun xs => xs.eraseIdxIfInBounds (items.size - 1))) := fun b ob eb nb _ => ⟨(sb.2 b fun q => nb (q ▸ hin)).trans eb, nb⟩
  have g := Heap.get?_update_self (Obj.mapSeq fun xs => xs.eraseIdxIfInBounds (items.size - 1)) ho rfl
  have el : (items.eraseIdxIfInBounds (items.size - 1)).toList = items.toList.dropLast := by
    rw [Array.toList_eraseIdxIfInBounds, List.eraseIdx_eq_dropLast]
    simp; (first | lia | omega)
  have rd : Reps s.heap (c.adr st) vs items.toList.dropLast := by
    have key : ∀ {us : List V} {u : V} {l : List Value}, Reps s.heap (c.adr st) (us ++ [u]) l → Reps s.heap (c.adr st) us l.dropLast := fun {us} => by
      induction us with
      | nil => rintro u l ⟨x, r, rfl, _, rfl⟩; rfl
      | cons v us ih =>
        rintro u l ⟨x, r, rfl, r1, r2⟩
        have hne : r ≠ [] := fun q => by
          have := r2.length
          rw [q] at this; simp at this
        rw [List.dropLast_cons_of_ne_nil hne]
        exact ⟨x, _, rfl, r1, ih r2⟩
    exact key rs
  obtain ⟨a', F⟩ := at'.upd hu (t := s.toks) sb ⟨_, ⟨_, g⟩, by rw [el]; exact Reps.seqs S _ _ rd⟩
  exact ⟨_, a', F, v, a'.repOf (Rep.seqs S _ _ ry) (by unfold Cx.adr; rw [hu.adr]), h⟩
end
end Mine
end PtLg43
section PtS8
open PySem PySem.W PyProof.Rows
namespace Mine
open M
section
variable {prog : Program} {w : World} {mb : Str → Option Value} {top : Heap}
theorem make_op (T : Tp w mb top) {v₁ v₂ v₃ : V} : Fc prog w top 5 (.ref 89) [.con (.ref matchAt), .tup [v₁, v₂, v₃]] [] (fun u _ => u = .mat [v₁, v₂, v₃]) := by
  refine Fc.fn0 (n := 4) ["cls", "iterable"] (T.k 89 _ (by rfl)) rfl rfl (codeRec_of T.k (by rfl)) T.lim rfl ?_ (by decide) (by decide) (by decide) ?_ rfl rfl rfl
  · exact lenS fun a => lenS fun b => len0 rfl
  · intro c L A hA hc
    subst hc
    refine WS.cons (WX.expr (W.str ?_))
    refine WS.cons (WX.assign (W.tnew T.k (matOk T) (W.blt T ⟨rfl, W.loc rfl ⟨rfl, W.loc rfl ⟨_, .inl rfl, Nat.le_of_ble_eq_true rfl, ?_⟩⟩⟩)))
    refine WS.cons (WX.ifs (WB.cmp hA (W.call hA (W.blt T ⟨_, rfl, Kpt.builtin, WL.cons (W.loc rfl (WL.nil ⟨_, Op.lenMat (matOk T) (Nat.le_of_ble_eq_true rfl), W.int ⟨_, Op.ne, ?_⟩⟩))⟩))))
    rw [if_neg (by simp)]
    refine WS.nil (WS.cons (WX.ret (W.loc rfl ?_)))
    rfl
end
end Mine
end PtS8
section PtMb
namespace Mine.M
noncomputable abbrev T3 := Nat × Nat × Nat
/-- the blocks of a region, in order -/
inductive Blk (a b : List Int) : Nat → Nat → Nat → Nat → List T3 → Prop where
  | none {alo ahi blo bhi i j : Nat} : Best a b alo ahi blo bhi i j 0 → Blk a b alo ahi blo bhi []
  | some {alo ahi blo bhi i j k : Nat} {L₁ L₂ : List T3} : Best a b alo ahi blo bhi i j k → 0 < k → (alo < i ∧ blo < j → Blk a b alo i blo j L₁) → (¬ (alo < i ∧ blo < j) → L₁ = []) →
      (i + k < ahi ∧ j + k < bhi → Blk a b (i + k) ahi (j + k) bhi L₂) → (¬ (i + k < ahi ∧ j + k < bhi) → L₂ = []) → Blk a b alo ahi blo bhi (L₁ ++ (i, j, k) :: L₂)
variable {a b : List Int}
/-- t ends ahead of u -/
noncomputable def Ahead (t u : T3) : Prop := t.1 + t.2.2 ≤ u.1 ∧ t.2.1 + t.2.2 ≤ u.2.1
noncomputable def Inside (alo ahi blo bhi : Nat) (t : T3) : Prop := alo ≤ t.1 ∧ t.1 + t.2.2 ≤ ahi ∧ blo ≤ t.2.1 ∧ t.2.1 + t.2.2 ≤ bhi ∧ 0 < t.2.2
theorem Blk.inside {alo ahi blo bhi : Nat} {L : List T3} (h : Blk a b alo ahi blo bhi L) : ∀ t ∈ L, Inside alo ahi blo bhi t := by
  induction h with
  | none _ => intro t ht; cases ht
  | @some alo ahi blo bhi i j k L₁ L₂ B hk h1 h1' h2 h2' ih1 ih2 =>
    obtain ⟨r1, r2, r3, r4, r5⟩ := B.run
    intro t ht
    rcases List.mem_append.mp ht with ht | ht
    · by_cases c : alo < i ∧ blo < j
      · obtain ⟨q1, q2, q3, q4, q5⟩ := ih1 c t ht
        exact ⟨q1, by (first | lia | omega), q3, by (first | lia | omega), q5⟩
      · rw [h1' c] at ht; cases ht
    · rcases List.mem_cons.mp ht with rfl | ht
      · exact ⟨r1, r2, r3, r4, hk⟩
      · by_cases c : i + k < ahi ∧ j + k < bhi
        · obtain ⟨q1, q2, q3, q4, q5⟩ := ih2 c t ht
          exact ⟨by (first | lia | omega), q2, by (first | lia | omega), q4, q5⟩
        · rw [h2' c] at ht; cases ht
/-- each block is a common run -/
theorem Blk.runs {alo ahi blo bhi : Nat} {L : List T3} (h : Blk a b alo ahi blo bhi L) : ∀ t ∈ L, Run a b alo ahi blo bhi t.1 t.2.1 t.2.2 := by
  induction h with
  | none _ => intro t ht; cases ht
  | @some alo ahi blo bhi i j k L₁ L₂ B hk h1 h1' h2 h2' ih1 ih2 =>
    obtain ⟨r1, r2, r3, r4, r5⟩ := B.run
    intro t ht
    rcases List.mem_append.mp ht with ht | ht
    · by_cases c : alo < i ∧ blo < j
      · obtain ⟨q1, q2, q3, q4, q5⟩ := ih1 c t ht
        exact ⟨q1, by (first | lia | omega), q3, by (first | lia | omega), q5⟩
      · rw [h1' c] at ht; cases ht
    · rcases List.mem_cons.mp ht with rfl | ht
      · exact B.run
      · by_cases c : i + k < ahi ∧ j + k < bhi
        · obtain ⟨q1, q2, q3, q4, q5⟩ := ih2 c t ht
          exact ⟨by (first | lia | omega), q2, by (first | lia | omega), q4, q5⟩
        · rw [h2' c] at ht; cases ht
theorem Blk.ahead {alo ahi blo bhi : Nat} {L : List T3} (h : Blk a b alo ahi blo bhi L) : L.Pairwise Ahead := by
  induction h with
  | none _ => exact .nil
  | @some alo ahi blo bhi i j k L₁ L₂ B hk h1 h1' h2 h2' ih1 ih2 =>
    have i1 : ∀ t ∈ L₁, Inside alo i blo j t := fun t ht => by
      by_cases c : alo < i ∧ blo < j
      · exact (h1 c).inside t ht
      · rw [h1' c] at ht; cases ht
    have i2 : ∀ t ∈ L₂, Inside (i + k) ahi (j + k) bhi t := fun t ht => by
      by_cases c : i + k < ahi ∧ j + k < bhi
      · exact (h2 c).inside t ht
      · rw [h2' c] at ht; cases ht
    refine List.pairwise_append.mpr ⟨?_, List.pairwise_cons.mpr ⟨fun u hu => ?_, ?_⟩, fun t ht u hu => ?_⟩
    · by_cases c : alo < i ∧ blo < j
      · exact ih1 c
      · rw [h1' c]; exact .nil
    · have := i2 u hu; exact ⟨this.1, this.2.2.1⟩
    · by_cases c : i + k < ahi ∧ j + k < bhi
      · exact ih2 c
      · rw [h2' c]; exact .nil
    · obtain ⟨q1, q2, q3, q4, q5⟩ := i1 t ht
      rcases List.mem_cons.mp hu with rfl | hu
      · exact ⟨q2, q4⟩
      · obtain ⟨p1, p2, p3, p4, p5⟩ := i2 u hu
        exact ⟨by (first | lia | omega), by (first | lia | omega)⟩
/-- no two touch -/
theorem Blk.apart {alo ahi blo bhi : Nat} {L : List T3} (h : Blk a b alo ahi blo bhi L) : L.Pairwise (fun t u => ¬ (t.1 + t.2.2 = u.1 ∧ t.2.1 + t.2.2 = u.2.1)) := by
  induction h with
  | none _ => exact .nil
  | @some alo ahi blo bhi i j k L₁ L₂ B hk h1 h1' h2 h2' ih1 ih2 =>
    have i1 : ∀ t ∈ L₁, Run a b alo i blo j t.1 t.2.1 t.2.2 ∧ 0 < t.2.2 := fun t ht => by
      by_cases c : alo < i ∧ blo < j
      · exact ⟨(h1 c).runs t ht, ((h1 c).inside t ht).2.2.2.2⟩
      · rw [h1' c] at ht; cases ht
    have i2 : ∀ t ∈ L₂, Run a b (i + k) ahi (j + k) bhi t.1 t.2.1 t.2.2 ∧ 0 < t.2.2 := fun t ht => by
      by_cases c : i + k < ahi ∧ j + k < bhi
      · exact ⟨(h2 c).runs t ht, ((h2 c).inside t ht).2.2.2.2⟩
      · rw [h2' c] at ht; cases ht
    obtain ⟨r1, r2, r3, r4, r5⟩ := B.run
    refine List.pairwise_append.mpr ⟨?_, List.pairwise_cons.mpr ⟨fun u hu => ?_, ?_⟩, fun t ht u hu => ?_⟩
    · by_cases c : alo < i ∧ blo < j
      · exact ih1 c
      · rw [h1' c]; exact .nil
    · rintro ⟨e1, e2⟩
      obtain ⟨⟨p1, p2, p3, p4, p5⟩, p6⟩ := i2 u hu
      dsimp only at e1 e2
      have := B.most i j (k + u.2.2) ⟨r1, by (first | lia | omega), r3, by (first | lia | omega), fun t ht => by
        rcases Nat.lt_or_ge t k with q | q
        · exact r5 t q
        · have := p5 (t - k) (by (first | lia | omega))
          rwa [← e1, ← e2, show i + k + (t - k) = i + t by (first | lia | omega), show j + k + (t - k) = j + t by (first | lia | omega)] at this⟩ (by (first | lia | omega))
      (first | lia | omega)
    · by_cases c : i + k < ahi ∧ j + k < bhi
      · exact ih2 c
      · rw [h2' c]; exact .nil
    · obtain ⟨⟨p1, p2, p3, p4, p5⟩, p6⟩ := i1 t ht
      rcases List.mem_cons.mp hu with rfl | hu
      · rintro ⟨e1, e2⟩
        dsimp only at e1 e2
        have := B.most t.1 t.2.1 (t.2.2 + k) ⟨p1, by (first | lia | omega), p3, by (first | lia | omega), fun z hz => by
          rcases Nat.lt_or_ge z t.2.2 with q | q
          · exact p5 z q
          · have := r5 (z - t.2.2) (by (first | lia | omega))
            rwa [← e1, ← e2, show t.1 + t.2.2 + (z - t.2.2) = t.1 + z by (first | lia | omega), show t.2.1 + t.2.2 + (z - t.2.2) = t.2.1 + z by (first | lia | omega)] at this⟩ (by (first | lia | omega))
        (first | lia | omega)
      · obtain ⟨⟨s1, s2, s3, s4, s5⟩, s6⟩ := i2 u hu
        rintro ⟨e1, e2⟩
        (first | lia | omega)
theorem ahead_len {L : List T3} {alo ahi : Nat} (h : L.Pairwise Ahead) (hi : ∀ t ∈ L, alo ≤ t.1 ∧ t.1 + t.2.2 ≤ ahi ∧ 0 < t.2.2) (hle : alo ≤ ahi) : L.length ≤ ahi - alo := by
  induction L generalizing alo with
  | nil => simp
  | cons t L ih =>
    obtain ⟨h1, h2⟩ := List.pairwise_cons.mp h
    obtain ⟨q1, q2, q3⟩ := hi t (.head _)
    have := ih (alo := t.1 + t.2.2) h2 (fun u hu => ⟨(h1 u hu).1, (hi u (.tail _ hu)).2⟩) q2
    simp only [List.length_cons]; (first | lia | omega)
theorem Blk.len {alo ahi blo bhi : Nat} {L : List T3} (h : Blk a b alo ahi blo bhi L) (hle : alo ≤ ahi) : L.length ≤ ahi - alo :=
  ahead_len h.ahead (fun t ht => let ⟨q1, q2, _, _, q5⟩ := h.inside t ht; ⟨q1, q2, q5⟩) hle
/-- two lists in order that hold the same are the same -/
theorem sorted_uniq {α : Type} {k : α → Int} : ∀ {l r : List α}, l.Perm r → l.Pairwise (fun x y => k x < k y) → r.Pairwise (fun x y => k x < k y) → l = r
  | [], r, p, _, _ => p.nil_eq
  | x :: l, r, p, hl, hr => by
    cases r with
    | nil => exact absurd p.length_eq (by simp)
    | cons y r =>
      have hx : x ∈ y :: r := p.mem_iff.mp (.head _)
      have hy : y ∈ x :: l := p.mem_iff.mpr (.head _)
      have e : x = y := by
        rcases List.mem_cons.mp hx with h | h
        · exact h
        · rcases List.mem_cons.mp hy with h' | h'
          · exact h'.symm
          · have a1 := (List.pairwise_cons.mp hl).1 y h'
            have a2 := (List.pairwise_cons.mp hr).1 x h
            (first | lia | omega)
      subst e
      rw [sorted_uniq (List.perm_cons x |>.mp p) (List.pairwise_cons.mp hl).2 (List.pairwise_cons.mp hr).2]
end Mine.M
end PtMb
section PtS9
open PySem PySem.W PyProof.Rows
namespace Mine
open M (Best Blk Run Ahead Inside)
noncomputable abbrev R4 := Nat × Nat × Nat × Nat
noncomputable def r4 (r : R4) : V := .tup [.int (r.1 : Nat), .int (r.2.1 : Nat), .int (r.2.2.1 : Nat), .int (r.2.2.2 : Nat)]
noncomputable def qL (sk : List R4) : List V := sk.reverse.map r4
theorem qL_cons (r : R4) (sk : List R4) : qL (r :: sk) = qL sk ++ [r4 r] := by simp [qL]
noncomputable def Dn (a b : List Int) : List R4 → List T3 → Prop
  | [], R => R = []
  | r :: sk, R => ∃ R0 L, Dn a b sk R0 ∧ Blk a b r.1 r.2.1 r.2.2.1 r.2.2.2 L ∧ R = R0 ++ L
noncomputable def Cont (a b : List Int) (sk : List R4) (ms : List T3) : Prop := ∀ R, Dn a b sk R → ∃ L, Blk a b 0 a.length 0 b.length L ∧ L.Perm (ms ++ R)
noncomputable def Vld (a b : List Int) (r : R4) : Prop := r.1 ≤ r.2.1 ∧ r.2.1 ≤ a.length ∧ r.2.2.1 ≤ r.2.2.2 ∧ r.2.2.2 ≤ b.length
noncomputable def msr : List R4 → Nat
  | [] => 0
  | r :: sk => 2 * (r.2.1 - r.1) + 1 + msr sk
theorem Cont.start (a b : List Int) : Cont a b [(0, a.length, 0, b.length)] [] := by
  rintro R ⟨R0, L, h0, hL, rfl⟩
  cases h0
  exact ⟨L, hL, by simp⟩
theorem Cont.skip {a b : List Int} {r : R4} {sk : List R4} {ms : List T3} {i j : Nat} (h : Cont a b (r :: sk) ms) (B : Best a b r.1 r.2.1 r.2.2.1 r.2.2.2 i j 0) : Cont a b sk ms := fun R hR => by
  obtain ⟨L, h1, h2⟩ := h (R ++ []) ⟨R, [], hR, .none B, rfl⟩
  exact ⟨L, h1, by simpa using h2⟩
noncomputable def sub1 (r : R4) (i j : Nat) : List R4 := if r.1 < i ∧ r.2.2.1 < j then [(r.1, i, r.2.2.1, j)] else []
noncomputable def sub2 (r : R4) (i j k : Nat) : List R4 := if i + k < r.2.1 ∧ j + k < r.2.2.2 then [(i + k, r.2.1, j + k, r.2.2.2)] else []
theorem Cont.step {a b : List Int} {r : R4} {sk : List R4} {ms : List T3} {i j k : Nat} (h : Cont a b (r :: sk) ms) (B : Best a b r.1 r.2.1 r.2.2.1 r.2.2.2 i j k) (hk : 0 < k) : Cont a b (sub2 r i j k ++ (sub1 r i j ++ sk)) (ms ++ [(i, j, k)]) := fun R hR => by
  have inv2 : ∀ R, Dn a b (sub2 r i j k ++ (sub1 r i j ++ sk)) R → ∃ R0 L₂, Dn a b (sub1 r i j ++ sk) R0 ∧ R = R0 ++ L₂ ∧ (i + k < r.2.1 ∧ j + k < r.2.2.2 → Blk a b (i + k) r.2.1 (j + k) r.2.2.2 L₂) ∧ (¬ (i + k < r.2.1 ∧ j + k < r.2.2.2) → L₂ = []) := fun R hR => by
    unfold sub2 at hR
    split at hR
    · rename_i c
      obtain ⟨R0, L, h0, hL, rfl⟩ := hR
      exact ⟨R0, L, h0, rfl, fun _ => hL, fun c' => absurd c c'⟩
    · rename_i c
      exact ⟨R, [], hR, by simp, fun c' => absurd c' c, fun _ => rfl⟩
  have inv1 : ∀ R, Dn a b (sub1 r i j ++ sk) R → ∃ R0 L₁, Dn a b sk R0 ∧ R = R0 ++ L₁ ∧ (r.1 < i ∧ r.2.2.1 < j → Blk a b r.1 i r.2.2.1 j L₁) ∧ (¬ (r.1 < i ∧ r.2.2.1 < j) → L₁ = []) := fun R hR => by
    unfold sub1 at hR
    split at hR
    · rename_i c
      obtain ⟨R0, L, h0, hL, rfl⟩ := hR
      exact ⟨R0, L, h0, rfl, fun _ => hL, fun c' => absurd c c'⟩
    · rename_i c
      exact ⟨R, [], hR, by simp, fun c' => absurd c' c, fun _ => rfl⟩
  obtain ⟨R', L₂, h2, rfl, h3, h4⟩ := inv2 R hR
  obtain ⟨R0, L₁, h0, rfl, h5, h6⟩ := inv1 R' h2
  obtain ⟨L, hL, hp⟩ := h (R0 ++ (L₁ ++ (i, j, k) :: L₂)) ⟨R0, _, h0, .some B hk h5 h6 h3 h4, rfl⟩
  refine ⟨L, hL, hp.trans ?_⟩
  rw [List.append_assoc, List.append_assoc]
  refine List.Perm.append_left ms ?_
  have : (R0 ++ (L₁ ++ (i, j, k) :: L₂)).Perm ((i, j, k) :: (R0 ++ (L₁ ++ L₂))) := by
    have e1 : (L₁ ++ (i, j, k) :: L₂).Perm ((i, j, k) :: (L₁ ++ L₂)) := List.perm_middle
    exact (List.Perm.append_left R0 e1).trans List.perm_middle
  simpa using this
theorem msr_step {r : R4} {sk : List R4} {i j k : Nat} (h1 : r.1 ≤ i) (h2 : i + k ≤ r.2.1) (hk : 0 < k) : msr (sub2 r i j k ++ (sub1 r i j ++ sk)) < msr (r :: sk) := by
  have e1 : msr (sub1 r i j ++ sk) ≤ 2 * (i - r.1) + 1 + msr sk := by unfold sub1; split <;> simp [msr]
  have e2 : msr (sub2 r i j k ++ (sub1 r i j ++ sk)) ≤ 2 * (r.2.1 - (i + k)) + 1 + msr (sub1 r i j ++ sk) := by unfold sub2; split <;> simp [msr]
  show _ < 2 * (r.2.1 - r.1) + 1 + msr sk
  (first | lia | omega)
theorem vld_step {a b : List Int} {r : R4} {sk : List R4} {i j k : Nat} (hv : ∀ q ∈ r :: sk, Vld a b q) (h1 : r.1 ≤ i) (h2 : i + k ≤ r.2.1) (h3 : r.2.2.1 ≤ j) (h4 : j + k ≤ r.2.2.2) : ∀ q ∈ sub2 r i j k ++ (sub1 r i j ++ sk), Vld a b q := by
  obtain ⟨v1, v2, v3, v4⟩ := hv r (.head _)
  intro q hq
  rcases List.mem_append.mp hq with hq | hq
  · unfold sub2 at hq
    split at hq
    · rw [List.mem_singleton.mp hq]; exact ⟨by dsimp only; (first | lia | omega), by dsimp only; (first | lia | omega), by dsimp only; (first | lia | omega), by dsimp only; (first | lia | omega)⟩
    · cases hq
  · rcases List.mem_append.mp hq with hq | hq
    · unfold sub1 at hq
      split at hq
      · rw [List.mem_singleton.mp hq]; exact ⟨by dsimp only; (first | lia | omega), by dsimp only; (first | lia | omega), by dsimp only; (first | lia | omega), by dsimp only; (first | lia | omega)⟩
      · cases hq
    · exact hv q (.tail _ hq)
noncomputable def wid : List R4 → Nat
  | [] => 0
  | r :: sk => (r.2.1 - r.1) + wid sk
theorem wid_step {r : R4} {sk : List R4} {i j k : Nat} (h1 : r.1 ≤ i) (h2 : i + k ≤ r.2.1) : wid (sub2 r i j k ++ (sub1 r i j ++ sk)) + k ≤ wid (r :: sk) := by
  have e1 : wid (sub1 r i j ++ sk) ≤ (i - r.1) + wid sk := by unfold sub1; split <;> simp [wid]
  have e2 : wid (sub2 r i j k ++ (sub1 r i j ++ sk)) ≤ (r.2.1 - (i + k)) + wid (sub1 r i j ++ sk) := by unfold sub2; split <;> simp [wid]
  show _ ≤ (r.2.1 - r.1) + wid sk
  (first | lia | omega)
theorem small_of {a b : List Int} (za : a.length ≤ 63) (zb : b.length ≤ 63) {i j k : Nat} (h : i + k ≤ a.length) (h' : j + k ≤ b.length) : Small (i, j, k) := ⟨by dsimp only; (first | lia | omega), by dsimp only; (first | lia | omega), by dsimp only; (first | lia | omega)⟩
theorem key_ahead {L : List T3} (h : L.Pairwise Ahead) (hk : ∀ t ∈ L, 0 < t.2.2) (hs : ∀ t ∈ L, Small t) : L.Pairwise (fun t u => key3 t < key3 u) := by
  rw [List.pairwise_iff_getElem] at h ⊢
  intro i j hi hj hij
  have h1 := h i j hi hj hij
  have h2 := hk _ (List.getElem_mem hi)
  have h3 := hs _ (List.getElem_mem hi)
  have h4 := hs _ (List.getElem_mem hj)
  unfold key3
  unfold Ahead at h1
  unfold Small at h3 h4
  (first | lia | omega)
end Mine
end PtS9
section PtS10
open PySem PySem.W PyProof.Rows
namespace Mine
open M (Best Blk Run Ahead Inside)
theorem matOk2 {prog : Program} {w : World} {mb : Str → Option Value} {top : Heap} (T : Tp w mb top) : ∀ h : Heap, (∀ b o, top.get? b = some o → h.get? b = some o) → MatOk (model prog w) h ∧ Looks (model prog w) h (typeLookup (.ref matchAt) "__lt__") (some (.builtin "tuple.__lt__")) := fun h k =>
  ⟨matOk T h k, looks_findIn (T.k.keeps k) (by rfl)⟩
theorem len_msr : ∀ sk : List R4, sk.length ≤ msr sk
  | [] => Nat.le_refl _
  | r :: sk => by have := len_msr sk; show sk.length + 1 ≤ 2 * (r.2.1 - r.1) + 1 + msr sk; (first | lia | omega)
theorem qL_len (sk : List R4) : (qL sk).length = sk.length := by simp [qL]
noncomputable def cur (L : List T3) (q : Nat) : T3 := if q = 0 then (0, 0, 0) else L.getD (q - 1) (0, 0, 0)
theorem cur_succ {L : List T3} {q : Nat} {t : T3} (h : L[q]? = some t) : cur L (q + 1) = t := by
  unfold cur; rw [if_neg (by (first | lia | omega)), Nat.add_sub_cancel, List.getD_eq_getElem?_getD, h]; rfl
noncomputable def unT : V → V
  | .tup vs => .mat vs
  | v => v
section
variable {prog : Program} {w : World} {mb : Str → Option Value} {top : Heap}
/-- get_matching_blocks, asked for the first time -/
theorem gmb_fn (T : Tp w mb top) {x d m : Addr} {f : Str → Option V} {z n : Nat} {a b : List Int} (hfa : f "a" = some (iL a)) (hfb : f "b" = some (iL b)) (hf2 : f "b2j" = some (.ref m)) (hfj : f "bjunk" = some .eset)
    (hfm : f "matching_blocks" = some .none) (hff : f "find_longest_match" = Option.none) (hms : (m == sysModules) = false) (za : a.length ≤ 63) (zb : b.length ≤ 63) (hz : z ≤ 1000) :
    Fc prog w top 14 (.ref 203) [.ref x] [(x, .inst 242 d), (d, .attrs f z), (m, .map (b2jV b) n)]
      (fun u objs => ∃ L : List T3, Blk a b 0 a.length 0 b.length L ∧ u = .lst ((L ++ [(a.length, b.length, 0)]).map m3) ∧ objs = [(x, .inst 242 d), (d, .attrs (fset f "matching_blocks" (.lst ((L ++ [(a.length, b.length, 0)]).map m3))) z), (m, .map (b2jV b) n)]) := by
  refine Fc.fn0 (n := 13) ["self"] (T.k 203 _ (by rfl)) rfl rfl (codeRec_of T.k (by rfl)) T.lim rfl ?_ (by decide) (by decide) (by decide) ?_ rfl rfl rfl
  · exact lenS fun a => len0 rfl
  · intro c L A hA hc
    subst hc
    have hs : sizeLine = 16777216 := rfl
    refine WS.cons (WX.expr (W.str ?_))
    refine WS.cons (WX.ifs (WB.cmp hA (W.attr T.k (smOk _) (W.loc rfl ⟨x, d, _, _, _, rfl, .head _, .tail _ (.head _), hfm, rfl, W.none ⟨_, Op.isntNone (b := true) rfl, ?_⟩⟩))))
    rw [if_neg (by decide)]
    refine WS.nil ?_
    refine WS.cons (WX.swapped ["la", "lb"] hA (W.tup ?_))
    refine WL.cons (W.call hA (W.blt T ⟨_, rfl, Kpt.builtin, ?_⟩))
    refine WL.cons (W.attr T.k (smOk _) (W.loc rfl ⟨x, d, _, _, _, rfl, .head _, .tail _ (.head _), hfa, rfl, WL.nil ⟨_, Op.len (by simp; (first | lia | omega)), ?_⟩⟩))
    refine WL.cons (W.call hA (W.blt T ⟨_, rfl, Kpt.builtin, ?_⟩))
    refine WL.cons (W.attr T.k (smOk _) (W.loc rfl ⟨x, d, _, _, _, rfl, .head _, .tail _ (.head _), hfb, rfl, WL.nil ⟨_, Op.len (by simp; (first | lia | omega)), ?_⟩⟩))
    refine WL.nil ⟨Nat.le_of_ble_eq_true rfl, _, Unp.tup, rfl, WFs.cons (WF.bind (WFs.cons (WF.bind (WFs.nil ?_))))⟩
    rw [List.length_map, List.length_map]
    refine WS.cons (WX.assign (W.listO ?_))
    refine WL.cons (W.tup ?_)
    refine WL.cons (W.int (WL.cons (W.loc rfl ?_)))
    refine WL.cons (W.int (WL.cons (W.loc rfl ?_)))
    refine WL.nil ⟨Nat.le_of_ble_eq_true rfl, ?_⟩
    refine WL.nil ⟨Nat.le_of_ble_eq_true rfl, fun qa hqa => ?_⟩
    refine WS.cons (WX.assign (W.listO (WL.nil ⟨Nat.zero_le _, fun ma hma => ?_⟩)))
    refine WS.frz (a := ⟨[("self", .ref x), ("la", .int a.length), ("lb", .int b.length), ("queue", .ref qa), ("matching_blocks", .ref ma)], [(x, .inst 242 d), (d, .attrs f z), (m, .map (b2jV b) n), (ma, .list (([] : List T3).map m3)), (qa, .list (qL [(0, a.length, 0, b.length)]))]⟩) (ls := []) ⟨⟨_, ?_, Prel.refl _ _⟩, ?_⟩ ?_
    · rw [List.append_nil]
      exact List.perm_append_comm (l₁ := [(ma, O.list []), (qa, O.list [.tup [.int 0, .int a.length, .int 0, .int b.length]])]) (l₂ := [(x, O.inst 242 d), (d, O.attrs f z), (m, O.map (b2jV b) n)])
    · (repeat' (first | exact List.forall_mem_nil _ | refine List.forall_mem_cons.mpr ⟨⟨_, rfl, .inl rfl⟩, ?_⟩))
    refine WS.seq (fun st => ∃ L ms : List T3, Blk a b 0 a.length 0 b.length L ∧ L.Perm ms ∧ Le ⟨[("self", .ref x), ("la", .int a.length), ("lb", .int b.length), ("matching_blocks", .ref ma)], [(x, .inst 242 d), (d, .attrs f z), (m, .map (b2jV b) n), (ma, .list (ms.map m3)), (qa, .list [])]⟩ st)
      (WX.while (fun k st => ∃ sk ms, k = msr sk ∧ (∀ q ∈ sk, Vld a b q) ∧ Cont a b sk ms ∧ ms.length + wid sk ≤ a.length ∧ msr sk ≤ 2 * a.length + 1 ∧ Le ⟨[("self", .ref x), ("la", .int a.length), ("lb", .int b.length), ("queue", .ref qa), ("matching_blocks", .ref ma)], [(x, .inst 242 d), (d, .attrs f z), (m, .map (b2jV b) n), (ma, .list (ms.map m3)), (qa, .list (qL sk))]⟩ st) (msr [(0, a.length, 0, b.length)]) ⟨[(0, a.length, 0, b.length)], [], rfl, ?_, Cont.start a b, ?_, ?_, rfl, ?_⟩ ?_) ?_
    · intro q hq; rw [List.mem_singleton.mp hq]; exact ⟨Nat.zero_le _, Nat.le_refl _, Nat.zero_le _, Nat.le_refl _⟩
    · simp [wid]
    · simp [msr]
    · (repeat' (first | exact List.forall_mem_nil _ | refine List.forall_mem_cons.mpr ⟨rfl, ?_⟩))
    · rintro k st₁ ⟨sk, ms, rfl, hv, hC, hw, hm2, hle⟩
      have hlsk := len_msr sk
      refine WB.le hle (WB.val (W.loc rfl ⟨_, Tru.list (.tail _ (.tail _ (.tail _ (.tail _ (.head _))))) (by rw [qL_len]; (first | lia | omega)), ?_⟩))
      cases sk with
      | nil =>
        rw [if_neg (by decide)]
        obtain ⟨L, hL, hp⟩ := hC [] rfl
        rw [List.append_nil] at hp
        exact ⟨L, ms, hL, hp, (Le.of rfl rfl)⟩
      | cons r sk =>
        rw [qL_cons]
        rw [if_pos (by simp)]
        obtain ⟨v1, v2, v3, v4⟩ := hv r (.head _)
        refine WS.cons (WX.unpack (W.bmeth (W.loc rfl ⟨_, Mth.list F.slot_list_pop F.type_list_pop (.tail _ (.tail _ (.tail _ (.tail _ (.head _))))), WL.nil (WC.pop (.tail (.tail (.tail (.tail .head)))) (by rw [qL_len]; simp only [List.length_cons] at hlsk; (first | lia | omega)) ?_)⟩)))
        refine WF.tup hA Unp.tup (WFs.cons (WF.name (WFs.cons (WF.name (WFs.cons (WF.name (WFs.cons (WF.name (WFs.nil ?_)))))))))
        refine WS.cons (WX.assign2 (W.meth (f := 196) T.k (smOk _) (hA.less (by decide : 10 ≤ 13)) (Kpt.fn (T.k 196 _ (by rfl)) rfl) (W.loc rfl ⟨x, d, f, z, rfl, .head _, .tail _ (.head _), hff, ?_⟩)))
        refine WL.cons (W.loc rfl (WL.cons (W.loc rfl (WL.cons (W.loc rfl (WL.cons (W.loc rfl ?_)))))))
        refine WL.nil ⟨[(x, .inst 242 d), (d, .attrs f z), (m, .map (b2jV b) n)], [(ma, .list (ms.map m3)), (qa, .list (qL sk))], _, List.Perm.refl _, (flm_fn T hfa hfb hf2 hfj hms (by (first | lia | omega)) (by (first | lia | omega)) v1 v2 v3 v4).toFn, ?_⟩
        rintro u objs' ⟨i, j, k, rfl, hB, rfl⟩
        obtain ⟨r1, r2, r3, r4', r5⟩ := hB.run
        refine WF.tup hA (Unp.mat (matOk T)) (WFs.cons (WF.name (WFs.cons (WF.name (WFs.cons (WF.name (WFs.nil (WF.name ?_))))))))
        refine WS.cons (WX.ifs (WB.val (W.loc rfl ⟨_, Tru.int, ?_⟩)))
        have hms' : msr (r :: sk) = 2 * (r.2.1 - r.1) + 1 + msr sk := rfl
        have hwd' : wid (r :: sk) = (r.2.1 - r.1) + wid sk := rfl
        split
        · rename_i c1
          have hk : 0 < k := by
            have : (k : Int) ≠ 0 := by simpa using c1
            (first | lia | omega)
          have st1 := msr_step (sk := sk) (j := j) r1 r2 hk
          have st2 := wid_step (sk := sk) (j := j) r1 r2
          refine WS.cons (WX.expr (W.bmeth (W.loc rfl ⟨_, Mth.list F.slot_list_append F.type_list_append (.tail _ (.tail _ (.tail _ (.head _)))), WL.cons (W.loc rfl (WL.nil (WC.append (.tail (.tail (.tail .head))) (by rw [List.length_map]; (first | lia | omega)) ?_)))⟩)))
          have hmap : ms.map m3 ++ [.mat [.int i, .int j, .int k]] = (ms ++ [(i, j, k)]).map m3 := by rw [List.map_append]; rfl
          refine WS.seq (fun st => Le ⟨[("self", .ref x), ("la", .int a.length), ("lb", .int b.length), ("queue", .ref qa), ("matching_blocks", .ref ma), ("alo", .int (r.1 : Nat)), ("ahi", .int (r.2.1 : Nat)), ("blo", .int (r.2.2.1 : Nat)), ("bhi", .int (r.2.2.2 : Nat)), ("i", .int (i : Nat)), ("j", .int (j : Nat)), ("k", .int (k : Nat))], [(x, .inst 242 d), (d, .attrs f z), (m, .map (b2jV b) n), (ma, .list ((ms ++ [(i, j, k)]).map m3)), (qa, .list (qL (sub1 r i j ++ sk)))]⟩ st) (WX.ifs (WB.and (WB.cmp hA (W.loc rfl (W.loc rfl ⟨_, Op.lt, ?_⟩))))) ?_
          · split
            · rename_i c2
              have c2 := of_decide_eq_true c2
              refine WB.and (WB.cmp hA (W.loc rfl (W.loc rfl ⟨_, Op.lt, ?_⟩)))
              split
              · rename_i c3
                have c3 := of_decide_eq_true c3
                refine WB.and_nil ?_
                rw [if_pos rfl]
                refine WS.cons (WX.expr (W.bmeth (W.loc rfl ⟨_, Mth.list F.slot_list_append F.type_list_append (.tail _ (.tail _ (.tail _ (.tail _ (.head _))))), ?_⟩)))
                refine WL.cons (W.tup ?_)
                refine WL.cons (W.loc rfl (WL.cons (W.loc rfl (WL.cons (W.loc rfl (WL.cons (W.loc rfl ?_)))))))
                refine WL.nil ⟨Nat.le_of_ble_eq_true rfl, ?_⟩
                refine WL.nil (WC.append (.tail (.tail (.tail (.tail .head)))) (by rw [qL_len]; simp only [List.length_cons] at hlsk; (first | lia | omega)) ?_)
                refine WS.nil ?_
                have e : qL (sub1 r i j ++ sk) = qL sk ++ [r4 (r.1, i, r.2.2.1, j)] := by rw [show sub1 r i j = [(r.1, i, r.2.2.1, j)] from if_pos ⟨by (first | lia | omega), by (first | lia | omega)⟩]; exact qL_cons _ _
                exact ⟨by (rw [← hmap, e] <;> rfl), by (repeat' (first | exact List.forall_mem_nil _ | refine List.forall_mem_cons.mpr ⟨rfl, ?_⟩))⟩
              · rename_i c3
                simp only [decide_eq_true_eq] at c3
                rw [if_neg (by decide)]
                refine WS.nil ?_
                have e : qL (sub1 r i j ++ sk) = qL sk := by rw [show sub1 r i j = [] from if_neg (by (first | lia | omega))]; rfl
                exact ⟨by (rw [← hmap, e] <;> rfl), by (repeat' (first | exact List.forall_mem_nil _ | refine List.forall_mem_cons.mpr ⟨rfl, ?_⟩))⟩
            · rename_i c2
              simp only [decide_eq_true_eq] at c2
              rw [if_neg (by decide)]
              refine WS.nil ?_
              have e : qL (sub1 r i j ++ sk) = qL sk := by rw [show sub1 r i j = [] from if_neg (by (first | lia | omega))]; rfl
              exact ⟨by (rw [← hmap, e] <;> rfl), by (repeat' (first | exact List.forall_mem_nil _ | refine List.forall_mem_cons.mpr ⟨rfl, ?_⟩))⟩
          · rintro st₂ hle₂
            refine WS.le hle₂ ?_
            refine WS.seq (fun st => Le ⟨[("self", .ref x), ("la", .int a.length), ("lb", .int b.length), ("queue", .ref qa), ("matching_blocks", .ref ma), ("alo", .int (r.1 : Nat)), ("ahi", .int (r.2.1 : Nat)), ("blo", .int (r.2.2.1 : Nat)), ("bhi", .int (r.2.2.2 : Nat)), ("i", .int (i : Nat)), ("j", .int (j : Nat)), ("k", .int (k : Nat))], [(x, .inst 242 d), (d, .attrs f z), (m, .map (b2jV b) n), (ma, .list ((ms ++ [(i, j, k)]).map m3)), (qa, .list (qL (sub2 r i j k ++ (sub1 r i j ++ sk))))]⟩ st) (WX.ifs (WB.and (WB.cmp hA (W.bin hA (W.loc rfl (W.loc rfl ⟨_, Op.add, W.loc rfl ⟨_, Op.lt, ?_⟩⟩)))))) ?_
            · split
              · rename_i c2
                have c2 := of_decide_eq_true c2
                refine WB.and (WB.cmp hA (W.bin hA (W.loc rfl (W.loc rfl ⟨_, Op.add, W.loc rfl ⟨_, Op.lt, ?_⟩⟩))))
                split
                · rename_i c3
                  have c3 := of_decide_eq_true c3
                  refine WB.and_nil ?_
                  rw [if_pos rfl]
                  refine WS.cons (WX.expr (W.bmeth (W.loc rfl ⟨_, Mth.list F.slot_list_append F.type_list_append (.tail _ (.tail _ (.tail _ (.tail _ (.head _))))), ?_⟩)))
                  refine WL.cons (W.tup ?_)
                  refine WL.cons (W.bin hA (W.loc rfl (W.loc rfl ⟨_, Op.add, WL.cons (W.loc rfl ?_)⟩)))
                  refine WL.cons (W.bin hA (W.loc rfl (W.loc rfl ⟨_, Op.add, WL.cons (W.loc rfl ?_)⟩)))
                  refine WL.nil ⟨Nat.le_of_ble_eq_true rfl, ?_⟩
                  refine WL.nil (WC.append (.tail (.tail (.tail (.tail .head)))) (by rw [qL_len]; have := len_msr (sub1 r i j ++ sk); have hx : msr (sub1 r i j ++ sk) ≤ 2 * (i - r.1) + 1 + msr sk := (by unfold sub1; split <;> simp [msr]); (first | lia | omega)) ?_)
                  refine WS.nil ?_
                  have e : qL (sub2 r i j k ++ (sub1 r i j ++ sk)) = qL (sub1 r i j ++ sk) ++ [r4 (i + k, r.2.1, j + k, r.2.2.2)] := by rw [show sub2 r i j k = [(i + k, r.2.1, j + k, r.2.2.2)] from if_pos ⟨by (first | lia | omega), by (first | lia | omega)⟩]; exact qL_cons _ _
                  exact ⟨by (rw [e] <;> rfl), by (repeat' (first | exact List.forall_mem_nil _ | refine List.forall_mem_cons.mpr ⟨rfl, ?_⟩))⟩
                · rename_i c3
                  simp only [decide_eq_true_eq] at c3
                  rw [if_neg (by decide)]
                  refine WS.nil ?_
                  have e : qL (sub2 r i j k ++ (sub1 r i j ++ sk)) = qL (sub1 r i j ++ sk) := by rw [show sub2 r i j k = [] from if_neg (by (first | lia | omega))]; rfl
                  exact ⟨by (rw [e] <;> rfl), by (repeat' (first | exact List.forall_mem_nil _ | refine List.forall_mem_cons.mpr ⟨rfl, ?_⟩))⟩
              · rename_i c2
                simp only [decide_eq_true_eq] at c2
                rw [if_neg (by decide)]
                refine WS.nil ?_
                have e : qL (sub2 r i j k ++ (sub1 r i j ++ sk)) = qL (sub1 r i j ++ sk) := by rw [show sub2 r i j k = [] from if_neg (by (first | lia | omega))]; rfl
                exact ⟨by (rw [e] <;> rfl), by (repeat' (first | exact List.forall_mem_nil _ | refine List.forall_mem_cons.mpr ⟨rfl, ?_⟩))⟩
            · rintro st₃ hle₃
              refine WS.le hle₃ (WS.nil (WS.nil ?_))
              exact ⟨_, st1, _, _, rfl, vld_step hv r1 r2 r3 r4', hC.step hB hk, by simp only [List.length_append, List.length_cons, List.length_nil]; (first | lia | omega), by (first | lia | omega), (Le.of rfl rfl)⟩
        · rename_i c1
          have hk : k = 0 := by
            have : (k : Int) = 0 := by simpa using c1
            (first | lia | omega)
          subst hk
          refine WS.nil (WS.nil ?_)
          exact ⟨_, by (first | lia | omega), sk, ms, rfl, fun q hq => hv q (.tail _ hq), hC.skip hB, by (first | lia | omega), by (first | lia | omega), (Le.of rfl rfl)⟩
    · rintro st₁ ⟨L, ms, hB, hp, hle⟩
      refine WS.le hle ?_
      have hin := hB.inside
      have hsm : ∀ t ∈ L, Small t := fun t ht => by
        obtain ⟨q1, q2, q3, q4, q5⟩ := hin t ht
        exact small_of za zb q2 q4
      have hpos : ∀ t ∈ L, 0 < t.2.2 := fun t ht => (hin t ht).2.2.2.2
      have hkey := key_ahead hB.ahead hpos hsm
      have hnd : L.Nodup := List.Pairwise.imp (fun h e => by rw [e] at h; (first | lia | omega)) hkey
      have hLl := hB.len (Nat.zero_le _)
      refine WS.cons (WX.expr (W.bmeth (W.loc rfl ⟨_, Mth.list slot_list_sort F.type_list_sort (.tail _ (.tail _ (.tail _ (.head _)))), WL.nil (WC.sortMat (own' := fun vs' => [(x, .inst 242 d), (d, .attrs f z), (m, .map (b2jV b) n), (ma, .list vs'), (qa, .list [])]) hA (matOk2 T) (fun vs' => .tail (.tail (.tail .head))) (by rw [← hp.length_eq]; (first | lia | omega)) (hp.nodup_iff.mp hnd) (fun t ht => hsm t (hp.mem_iff.mpr ht)) fun ts' hp' hs' => ?_)⟩)))
      obtain rfl : ts' = L := M.sorted_uniq (hp'.trans hp.symm) hs' hkey
      refine WS.frz (a := ⟨[("self", .ref x), ("la", .int a.length), ("lb", .int b.length), ("matching_blocks", .lst (ts'.map m3))], [(x, .inst 242 d), (d, .attrs f z), (m, .map (b2jV b) n)]⟩) (ls := [(ma, .list (ts'.map m3)), (qa, .list [])]) ⟨⟨[(x, .inst 242 d), (d, .attrs f z), (m, .map (b2jV b) n)], List.Perm.refl _, Prel.refl _ _⟩, ?_⟩ ?_
      · refine List.forall_mem_cons.mpr ⟨⟨_, rfl, .inl rfl⟩, List.forall_mem_cons.mpr ⟨⟨_, rfl, .inl rfl⟩, List.forall_mem_cons.mpr ⟨⟨_, rfl, .inl rfl⟩, List.forall_mem_cons.mpr ⟨⟨.ref ma, rfl, .inr ⟨ma, _, rfl, .head _, rfl⟩⟩, List.forall_mem_nil _⟩⟩⟩⟩
      refine WS.cons (WX.assign3 (W.int (WF.name (WF.name (WF.name ?_)))))
      refine WS.cons (WX.assign (W.listO (WL.nil ⟨Nat.zero_le _, fun na hna => ?_⟩)))
      refine WS.seq (fun st => Le ⟨[("self", .ref x), ("la", .int a.length), ("lb", .int b.length), ("i1", .int ((cur ts' ts'.length).1 : Nat)), ("j1", .int ((cur ts' ts'.length).2.1 : Nat)), ("k1", .int ((cur ts' ts'.length).2.2 : Nat)), ("non_adjacent", .ref na)], [(na, .list ((ts'.take (ts'.length - 1)).map t3)), (x, .inst 242 d), (d, .attrs f z), (m, .map (b2jV b) n)]⟩ st)
        (WX.for (WI.lst hA.handled (W.loc rfl ⟨_, rfl, fun q st => Le ⟨[("self", .ref x), ("la", .int a.length), ("lb", .int b.length), ("i1", .int ((cur ts' q).1 : Nat)), ("j1", .int ((cur ts' q).2.1 : Nat)), ("k1", .int ((cur ts' q).2.2 : Nat)), ("non_adjacent", .ref na)], [(na, .list ((ts'.take (q - 1)).map t3)), (x, .inst 242 d), (d, .attrs f z), (m, .map (b2jV b) n)]⟩ st, (Le.of rfl rfl), ?_, ?_⟩))) ?_
      · rintro q st₂ u hu hle₂
        rw [List.getElem?_map] at hu
        obtain ⟨t, ht, rfl⟩ := Option.map_eq_some_iff.mp hu
        have hq : q < ts'.length := (List.getElem?_eq_some_iff.mp ht).1
        refine WF.le hle₂ (WF.tup hA (Unp.mat (matOk T)) (WFs.cons (WF.name (WFs.cons (WF.name (WFs.cons (WF.name (WFs.nil ?_))))))))
        have hcur : (q = 0 ∧ cur ts' q = (0, 0, 0)) ∨ (0 < q ∧ ts'[q - 1]? = some (cur ts' q) ∧ 0 < (cur ts' q).2.2 ∧ ¬ ((cur ts' q).1 + (cur ts' q).2.2 = t.1 ∧ (cur ts' q).2.1 + (cur ts' q).2.2 = t.2.1)) := by
          rcases Nat.eq_zero_or_pos q with h0 | h0
          · subst h0; exact .inl ⟨rfl, rfl⟩
          · refine .inr ⟨h0, ?_⟩
            have e1 : ts'[q - 1]? = some ts'[q - 1] := List.getElem?_eq_getElem (by (first | lia | omega))
            have e2 : cur ts' q = ts'[q - 1] := by unfold cur; rw [if_neg (by (first | lia | omega)), List.getD_eq_getElem?_getD, e1]; rfl
            rw [e2]
            refine ⟨e1, hpos _ (List.getElem_mem (by (first | lia | omega))), ?_⟩
            have ap := List.pairwise_iff_getElem.mp hB.apart (q - 1) q (by (first | lia | omega)) hq (by (first | lia | omega))
            have e3 : ts'[q] = t := (List.getElem?_eq_some_iff.mp ht).2
            rwa [e3] at ap
        have hcs := cur_succ ht
        generalize cur ts' q = cq at hcur
        refine WS.cons (WX.ifs (WB.and (WB.cmp hA (W.bin hA (W.loc rfl (W.loc rfl ⟨_, Op.add, W.loc rfl ⟨_, Op.eq, ?_⟩⟩))))))
        split
        · rename_i c1
          have c1 : cq.1 + cq.2.2 = t.1 := by
            have : (cq.1 : Int) + cq.2.2 = t.1 := by simpa using c1
            (first | lia | omega)
          refine WB.and (WB.cmp hA (W.bin hA (W.loc rfl (W.loc rfl ⟨_, Op.add, W.loc rfl ⟨_, Op.eq, ?_⟩⟩))))
          split
          · rename_i c2
            have c2 : cq.2.1 + cq.2.2 = t.2.1 := by
              have : (cq.2.1 : Int) + cq.2.2 = t.2.1 := by simpa using c2
              (first | lia | omega)
            rcases hcur with ⟨h0, rfl⟩ | ⟨h0, e1, e2, e3⟩
            · subst h0
              refine WB.and_nil ?_
              rw [if_pos rfl]
              refine WS.cons (WX.aug hA rfl (W.loc rfl ⟨_, Op.iadd, ?_⟩))
              refine WS.nil (WS.nil ?_)
              dsimp only
              rw [hcs]
              dsimp only at c1 c2
              refine ⟨rfl, ?_⟩
              (repeat' (first | exact List.forall_mem_nil _ | refine List.forall_mem_cons.mpr ⟨rfl, ?_⟩ | refine List.forall_mem_cons.mpr ⟨congrArg (fun z => some (V.int z)) (by (first | lia | omega)), ?_⟩))
            · exact absurd ⟨c1, c2⟩ e3
          · rw [if_neg (by decide)]
            refine WS.seq (fun st => Le ⟨[("self", .ref x), ("la", .int a.length), ("lb", .int b.length), ("i2", .int (t.1 : Nat)), ("j2", .int (t.2.1 : Nat)), ("k2", .int (t.2.2 : Nat)), ("non_adjacent", .ref na)], [(na, .list ((ts'.take q).map t3)), (x, .inst 242 d), (d, .attrs f z), (m, .map (b2jV b) n)]⟩ st) (WX.ifs (WB.val (W.loc rfl ⟨_, Tru.int, ?_⟩))) ?_
            · rcases hcur with ⟨h0, rfl⟩ | ⟨h0, e1, e2, e3⟩
              · subst h0
                rw [if_neg (by decide)]
                exact WS.nil (Le.of rfl rfl)
              · rw [if_pos (by simp; (first | lia | omega))]
                refine WS.cons (WX.expr (W.bmeth (W.loc rfl ⟨_, Mth.list F.slot_list_append F.type_list_append (.head _), ?_⟩)))
                refine WL.cons (W.tup ?_)
                refine WL.cons (W.loc rfl (WL.cons (W.loc rfl (WL.cons (W.loc rfl ?_)))))
                refine WL.nil ⟨Nat.le_of_ble_eq_true rfl, ?_⟩
                refine WL.nil (WC.append .head (by rw [List.length_map, List.length_take]; (first | lia | omega)) ?_)
                refine WS.nil ?_
                have et : (ts'.take q).map t3 = (ts'.take (q - 1)).map t3 ++ [t3 cq] := by
                  obtain ⟨q', rfl⟩ : ∃ q', q = q' + 1 := ⟨q - 1, by (first | lia | omega)⟩
                  rw [Nat.add_sub_cancel] at e1 ⊢
                  rw [List.take_add_one, e1, List.map_append]; rfl
                exact ⟨by (rw [et] <;> rfl), by (repeat' (first | exact List.forall_mem_nil _ | refine List.forall_mem_cons.mpr ⟨rfl, ?_⟩))⟩
            · rintro st₃ hle₃
              refine WS.le hle₃ ?_
              refine WS.cons (WX.swapped ["i1", "j1", "k1"] hA (W.tup ?_))
              refine WL.cons (W.loc rfl (WL.cons (W.loc rfl (WL.cons (W.loc rfl (WL.nil ⟨Nat.le_of_ble_eq_true rfl, _, Unp.tup, rfl, ?_⟩))))))
              refine WFs.cons (WF.bind (WFs.cons (WF.bind (WFs.cons (WF.bind (WFs.nil ?_))))))
              refine WS.nil (WS.nil ?_)
              dsimp only
              rw [hcs]
              exact (Le.of rfl rfl)
        · rw [if_neg (by decide)]
          refine WS.seq (fun st => Le ⟨[("self", .ref x), ("la", .int a.length), ("lb", .int b.length), ("i2", .int (t.1 : Nat)), ("j2", .int (t.2.1 : Nat)), ("k2", .int (t.2.2 : Nat)), ("non_adjacent", .ref na)], [(na, .list ((ts'.take q).map t3)), (x, .inst 242 d), (d, .attrs f z), (m, .map (b2jV b) n)]⟩ st) (WX.ifs (WB.val (W.loc rfl ⟨_, Tru.int, ?_⟩))) ?_
          · rcases hcur with ⟨h0, rfl⟩ | ⟨h0, e1, e2, e3⟩
            · subst h0
              rw [if_neg (by decide)]
              exact WS.nil (Le.of rfl rfl)
            · rw [if_pos (by simp; (first | lia | omega))]
              refine WS.cons (WX.expr (W.bmeth (W.loc rfl ⟨_, Mth.list F.slot_list_append F.type_list_append (.head _), ?_⟩)))
              refine WL.cons (W.tup ?_)
              refine WL.cons (W.loc rfl (WL.cons (W.loc rfl (WL.cons (W.loc rfl ?_)))))
              refine WL.nil ⟨Nat.le_of_ble_eq_true rfl, ?_⟩
              refine WL.nil (WC.append .head (by rw [List.length_map, List.length_take]; (first | lia | omega)) ?_)
              refine WS.nil ?_
              have et : (ts'.take q).map t3 = (ts'.take (q - 1)).map t3 ++ [t3 cq] := by
                obtain ⟨q', rfl⟩ : ∃ q', q = q' + 1 := ⟨q - 1, by (first | lia | omega)⟩
                rw [Nat.add_sub_cancel] at e1 ⊢
                rw [List.take_add_one, e1, List.map_append]; rfl
              exact ⟨by (rw [et] <;> rfl), by (repeat' (first | exact List.forall_mem_nil _ | refine List.forall_mem_cons.mpr ⟨rfl, ?_⟩))⟩
          · rintro st₃ hle₃
            refine WS.le hle₃ ?_
            refine WS.cons (WX.swapped ["i1", "j1", "k1"] hA (W.tup ?_))
            refine WL.cons (W.loc rfl (WL.cons (W.loc rfl (WL.cons (W.loc rfl (WL.nil ⟨Nat.le_of_ble_eq_true rfl, _, Unp.tup, rfl, ?_⟩))))))
            refine WFs.cons (WF.bind (WFs.cons (WF.bind (WFs.cons (WF.bind (WFs.nil ?_))))))
            refine WS.nil (WS.nil ?_)
            dsimp only
            rw [hcs]
            exact (Le.of rfl rfl)
      · intro st₂ h; rw [List.length_map] at h; exact h
      · rintro st₂ hle₂
        refine WS.le hle₂ ?_
        refine WS.seq (fun st => Le ⟨[("self", .ref x), ("la", .int a.length), ("lb", .int b.length), ("non_adjacent", .ref na)], [(na, .list (ts'.map t3)), (x, .inst 242 d), (d, .attrs f z), (m, .map (b2jV b) n)]⟩ st) (WX.ifs (WB.val (W.loc rfl ⟨_, Tru.int, ?_⟩))) ?_
        · rcases Nat.eq_zero_or_pos ts'.length with h0 | h0
          · have e0 : ts' = [] := List.length_eq_zero_iff.mp h0
            subst e0
            rw [if_neg (by decide)]
            exact WS.nil (Le.of rfl rfl)
          · have e1 : ts'[ts'.length - 1]? = some ts'[ts'.length - 1] := List.getElem?_eq_getElem (by (first | lia | omega))
            have e2 : cur ts' ts'.length = ts'[ts'.length - 1] := by unfold cur; rw [if_neg (by (first | lia | omega)), List.getD_eq_getElem?_getD, e1]; rfl
            have e3 := hpos _ (List.getElem_mem (l := ts') (n := ts'.length - 1) (by (first | lia | omega)))
            rw [← e2] at e3 e1
            generalize cur ts' ts'.length = cq at e1 e3
            rw [if_pos (by simp; (first | lia | omega))]
            refine WS.cons (WX.expr (W.bmeth (W.loc rfl ⟨_, Mth.list F.slot_list_append F.type_list_append (.head _), ?_⟩)))
            refine WL.cons (W.tup ?_)
            refine WL.cons (W.loc rfl (WL.cons (W.loc rfl (WL.cons (W.loc rfl ?_)))))
            refine WL.nil ⟨Nat.le_of_ble_eq_true rfl, ?_⟩
            refine WL.nil (WC.append .head (by rw [List.length_map, List.length_take]; (first | lia | omega)) ?_)
            refine WS.nil ?_
            have et : ts'.map t3 = (ts'.take (ts'.length - 1)).map t3 ++ [t3 cq] := by
              have : ts' = ts'.take (ts'.length - 1) ++ [cq] := by
                conv => lhs; rw [← List.take_length (l := ts'), show ts'.length = ts'.length - 1 + 1 by (first | lia | omega), List.take_add_one]
                rw [e1]; rfl
              conv => lhs; rw [this]
              rw [List.map_append]; rfl
            exact ⟨by (rw [et] <;> rfl), by (repeat' (first | exact List.forall_mem_nil _ | refine List.forall_mem_cons.mpr ⟨rfl, ?_⟩))⟩
        · rintro st₃ hle₃
          refine WS.le hle₃ ?_
          refine WS.cons (WX.expr (W.bmeth (W.loc rfl ⟨_, Mth.list F.slot_list_append F.type_list_append (.head _), ?_⟩)))
          refine WL.cons (W.tup ?_)
          refine WL.cons (W.loc rfl (WL.cons (W.loc rfl (WL.cons (W.int ?_)))))
          refine WL.nil ⟨Nat.le_of_ble_eq_true rfl, ?_⟩
          refine WL.nil (WC.append .head (by rw [List.length_map]; (first | lia | omega)) ?_)
          have et : ts'.map t3 ++ [.tup [.int a.length, .int b.length, .int 0]] = (ts' ++ [(a.length, b.length, 0)]).map t3 := by rw [List.map_append]; rfl
          rw [et]
          refine WS.frz (a := ⟨[("self", .ref x), ("non_adjacent", .lst ((ts' ++ [(a.length, b.length, 0)]).map t3))], [(x, .inst 242 d), (d, .attrs f z), (m, .map (b2jV b) n)]⟩) (ls := [(na, .list ((ts' ++ [(a.length, b.length, 0)]).map t3))]) ⟨⟨_, Perm.drop1, Prel.refl _ _⟩, ?_⟩ ?_
          · exact List.forall_mem_cons.mpr ⟨⟨_, rfl, .inl rfl⟩, List.forall_mem_cons.mpr ⟨⟨.ref na, rfl, .inr ⟨na, _, rfl, .head _, rfl⟩⟩, List.forall_mem_nil _⟩⟩
          have ef : ((ts' ++ [(a.length, b.length, 0)]).map t3).map unT = (ts' ++ [(a.length, b.length, 0)]).map m3 := by rw [List.map_map]; rfl
          refine WS.cons (WX.setAttr T.k (smOk _) (W.listMake (n := 5) (F := unT) (g := 89) (cm := 91) T.k (hA.less (by decide : 9 ≤ 13)) (by rfl) (by rfl) (by rfl) (W.blt T ⟨rfl, W.blt T ⟨rfl, W.own T ⟨rfl, W.loc rfl ⟨_, rfl, by rw [List.length_map, List.length_append]; simp only [List.length_cons, List.length_nil]; (first | lia | omega), fun u hu => ?_, ?_⟩⟩⟩⟩)))
          · obtain ⟨t, _, rfl⟩ := List.mem_map.mp hu
            exact make_op T
          · rw [ef]
            refine W.loc rfl ⟨x, d, f, z, z, _, rfl, .head _, .tail .head, .inr ⟨rfl, by rw [hfm]; rfl⟩, hz, ?_⟩
            refine WS.cons (WX.ret (W.attr T.k (smOk _) (W.loc rfl ⟨x, d, _, _, _, rfl, .head _, .tail _ (.head _), fs_same _ _ _, rfl, ?_⟩)))
            exact ⟨ts', hB, rfl, rfl⟩
end
end Mine
end PtS10
section PtLg44
open PySem PySem.W PyProof.Rows
namespace Mine
section
variable (prog : Program) (w : World)
/-- the tests of a comprehension -/
noncomputable def WT (c : Cx) (env : Env) (A : Around) (ifs : List Expr) (st : St) (Q : Bool → St → Prop) : Prop :=
  ∀ s, At prog w c env st s → Wp prog w c env A (forIn ifs true fun c r => if r = true then do let ok ← isTrue c env (eval c env); pure (ForInStep.yield ok) else pure (ForInStep.yield r)) (fun _ st' b => Q b st') st s
end
section
variable {prog : Program} {w : World} {c : Cx} {env cenv : Env} {A : Around} {st st' : St} {s s' : Shared}
theorem WT.nil {Q : Bool → St → Prop} (h : Q true st) : WT prog w c env A [] st Q := fun s a => wpAny_tests_nil (Pst.here a h)
/-- back in the frame that a comprehension stands in -/
theorem At.back {vs' : List (Str × V)} {p : Addr × O} (a : At prog w c env st s) (b : At prog w c cenv ⟨vs', p :: st.own⟩ s') (F : Fol cenv.locals (c.adr st) s.heap (c.adr ⟨vs', p :: st.own⟩) s'.heap) (hC : s.heap.objs.size ≤ cenv.locals) : At prog w c env st s' := by
  have less : ∀ y ∈ c.adr st, y ∈ c.adr ⟨vs', p :: st.own⟩ := fun y hy => .tail _ hy
  have kp : ∀ y o, s.heap.get? y = some o → y ∉ c.adr st → s'.heap.get? y = some o := fun y o e n => (F y o e n (Nat.ne_of_lt (Nat.lt_of_lt_of_le (Heap.lt_size e) hC))).1
  have S : Seqs (c.adr st) s.heap (c.adr st) s'.heap := fun y o e n _ => ⟨kp y o e n, n⟩
  refine ⟨?_, b.keep, fun q hq => ?_, a.nodup, a.off, a.fresh, b.top, a.low, a.hid, a.above, b.gens, b.os⟩
  · obtain ⟨m, ⟨o, es, ep, e, y⟩, r⟩ := a.vars
    refine ⟨m, ⟨o, es, ep, kp _ _ e a.off, y⟩, fun y v q => ?_⟩
    obtain ⟨val, h1, h2⟩ := r y v q
    exact ⟨val, h1, Rep.seqs S _ _ h2⟩
  · exact (b.own q (.tail _ hq)).move (fun _ e => e) fun y o e n _ => ⟨e, fun z => n (less y z)⟩
theorem ns_notRd {h : Heap} {C : Addr} {m : Str → Option Value} (n : h.Ns C m) : ¬ Rd h C := by
  obtain ⟨o, es, ep, e, d, _⟩ := n
  rintro (⟨i, o', e', c, n, d'⟩ | ⟨i, n, dd, e'⟩ | ⟨i, o', e', c, n, d'⟩ | ⟨i, c, k, _, e'⟩ | ⟨i, j, k, t, u, v, e'⟩ | ⟨led, e'⟩)
  · rw [e] at e'; cases e'; rw [d] at d'; cases d'
  · rw [e] at e'; cases e'; cases d
  · rw [e] at e'; cases e'; rw [d] at d'; cases d'
  · rw [e] at e'; cases e'; cases d
  · have this : h.get? C = _ := e'
    rw [e] at this; cases this; cases d
  · rw [e] at e'; cases e'; cases d
theorem loop_comp {elt target iter : Expr} {ifs : List Expr} {scope : Scope} {pos : Pos} {I D : Addr} {fp wr : List Addr} {vs : List V} {S : Nat → Heap → List Addr → Prop} (K : Wk prog w A target I fp wr vs S) {own : List (Addr × O)} (out : V → Option V) (hz : vs.length ≤ sizeLine)
    {s₀ : Shared} {o₀ : List Addr} (nw : ∀ b ∈ wr, s₀.heap.get? b = Option.none ∧ c.h₀.get? b = Option.none ∧ c.top.get? b = Option.none)
    (body : ∀ (acc : List V) (k : Nat) (u : V), vs[k]? = some u → WF prog w c cenv A (PySem.assign target cenv) u ⟨[], (D, .list acc) :: own⟩ (fun st₂ => WT prog w c cenv A ifs st₂ (fun b st₃ => if b then W prog w c cenv A elt st₃ (fun v st₄ => out u = some v ∧ st₄.own = (D, .list acc) :: own) else out u = Option.none ∧ st₃.own = (D, .list acc) :: own)))
    {R : Result → Shared → Prop} (fin : ∀ s', At prog w c cenv ⟨[], (D, .list (vs.filterMap out)) :: own⟩ s' → Fol cenv.locals o₀ s₀.heap (c.adr ⟨[], (D, .list (vs.filterMap out)) :: own⟩) s'.heap → R (.ok .next) s')
    (a : At prog w c cenv ⟨[], (D, .list []) :: own⟩ s) (F₀ : Fol cenv.locals o₀ s₀.heap (c.adr ⟨[], (D, .list []) :: own⟩) s.heap) (hs : S 0 s.heap (c.adr ⟨[], (D, .list []) :: own⟩)) (hoff : ∀ b ∈ fp, b ∉ c.adr ⟨[], (D, O.list []) :: own⟩) :
    codeAny (model prog w) A (.compLoop (.ListComp elt [⟨target, iter, ifs, 0⟩] scope pos) 0 (.ref I) (.ref D) cenv) R s := by
  refine codeAny_loop rfl (fun m s₁ => ∃ k, m = vs.length - k ∧ k ≤ vs.length ∧ At prog w c cenv ⟨[], (D, .list ((vs.take k).filterMap out)) :: own⟩ s₁ ∧ Fol cenv.locals o₀ s₀.heap (c.adr ⟨[], (D, .list ((vs.take k).filterMap out)) :: own⟩) s₁.heap ∧ S k s₁.heap (c.adr ⟨[], (D, .list ((vs.take k).filterMap out)) :: own⟩)) (fun m s₁ q => ?_) vs.length ⟨0, rfl, Nat.zero_le _, a, F₀, hs⟩
  obtain ⟨k, rfl, hkn, a₁, F₁, hs₁⟩ := q
  have eadr : ∀ x : List V, c.adr ⟨[], (D, O.list x) :: own⟩ = D :: (adrs own ++ c.hid) := fun x => rfl
  have hoff₁ : ∀ b ∈ fp, b ∉ c.adr ⟨[], (D, O.list ((vs.take k).filterMap out)) :: own⟩ := hoff
  have hL : ∀ b ∈ fp, b ≠ cenv.locals := fun b hb q => by
    obtain ⟨m, ⟨o, es, ep, e, d, _⟩, _⟩ := a₁.vars
    obtain ⟨o', e', nd⟩ := K.nd k _ _ hs₁ b hb
    rw [q, e] at e'; cases e'; exact nd _ _ d
  have no : ∀ b ∈ wr, b ∉ c.adr ⟨[], (D, O.list ((vs.take k).filterMap out)) :: own⟩ ∧ b ≠ cenv.locals ∧ c.h₀.get? b = Option.none ∧ c.top.get? b = Option.none := fun b hb => ⟨hoff₁ b (K.sub b hb), hL b (K.sub b hb), (nw b hb).2⟩
  have nr := K.nr k _ _ hs₁
  have Fb : ∀ h' : Heap, (∀ b o, b ∉ wr → s₁.heap.get? b = some o → h'.get? b = some o) → Fol cenv.locals o₀ s₀.heap (c.adr ⟨[], (D, O.list ((vs.take k).filterMap out)) :: own⟩) h' := fun h' kk b o e n l => by
    have := F₁ b o e n l
    exact ⟨kk b o (fun q => by rw [(nw b q).1] at e; cases e) this.1, this.2⟩
  show wpAny _ A ((compTurn (.ListComp elt [⟨target, iter, ifs, 0⟩] scope pos) 0 (.ref I) (.ref D) cenv).onRaise (fun x => do noteFrame x cenv; theTreesLotGoes x)) _ _ s₁
  refine wpAny_noted ?_
  rw [compTurn_list]
  refine wpAny_bind (wpAny_standAt (wpAny_bind ?_))
  rcases Nat.lt_or_ge k vs.length with hlt | hge
  · have hu : vs[k]? = some vs[k] := List.getElem?_eq_getElem hlt
    refine wpAny_mono (K.item k s₁ (c.adr ⟨[], (D, O.list ((vs.take k).filterMap out)) :: own⟩) (fun v s₂ => wpAny (model prog w) A (PySem.assign target cenv v) (fun _ s₃ => wpAny (model prog w) A (forIn ifs true fun c r => if r = true then do let ok ← isTrue c cenv (eval c cenv); pure (ForInStep.yield ok) else pure (ForInStep.yield r)) (fun ok s₄ => if ok = true then wpAny (model prog w) A (eval elt cenv) (fun x s₅ =>
        wpAny (model prog w) A (PySem.call (.builtin "list.append") [.ref D, x]) (fun _ s₆ => ∃ m, m < vs.length - k ∧ ∃ k, m = vs.length - k ∧ k ≤ vs.length ∧ At prog w c cenv ⟨[], (D, .list ((vs.take k).filterMap out)) :: own⟩ s₆ ∧ Fol cenv.locals o₀ s₀.heap (c.adr ⟨[], (D, .list ((vs.take k).filterMap out)) :: own⟩) s₆.heap ∧ S k s₆.heap (c.adr ⟨[], (D, .list ((vs.take k).filterMap out)) :: own⟩)) (fun _ _ => False) s₅) (fun _ _ => False) s₄
        else ∃ m, m < vs.length - k ∧ ∃ k, m = vs.length - k ∧ k ≤ vs.length ∧ At prog w c cenv ⟨[], (D, .list ((vs.take k).filterMap out)) :: own⟩ s₄ ∧ Fol cenv.locals o₀ s₀.heap (c.adr ⟨[], (D, .list ((vs.take k).filterMap out)) :: own⟩) s₄.heap ∧ S k s₄.heap (c.adr ⟨[], (D, .list ((vs.take k).filterMap out)) :: own⟩)) (fun _ _ => False) s₃) (fun _ _ => False) s₂) hlt hs₁ (fun b hb => (a₁.lt b hb).1) fun v u h' tk hu' ru hs' kk => ?_) (fun r s₂ p => ?_) fun _ _ e => e.elim
    · rw [hu] at hu'; cases hu'
      have a₂ : At prog w c cenv ⟨[], (D, .list ((vs.take k).filterMap out)) :: own⟩ { s₁ with heap := h', toks := tk } := a₁.but kk nr no rfl rfl
      refine wpAny_mono (body _ k _ hu _ v a₂ ru) (fun _ s₃ p => ?_) (fun _ _ e => e.elim)
      obtain ⟨st₃, a₃, F₃, ht⟩ := p
      refine wpAny_mono (ht s₃ a₃) (fun ok s₄ p => ?_) (fun _ _ e => e.elim)
      obtain ⟨st₄, a₄, F₄, hb⟩ := p
      have etk : (vs.take (k + 1)).filterMap out = (vs.take k).filterMap out ++ (out vs[k]).toList := by
        rw [List.take_add_one, hu, List.filterMap_append]
        cases e : out vs[k] <;> simp [List.filterMap, e]
      have nx : ∀ (s₅ : Shared) (st₅ : St) (acc' : List V), At prog w c cenv st₅ s₅ → Fol cenv.locals (c.adr ⟨[], (D, O.list ((vs.take k).filterMap out)) :: own⟩) h' (c.adr st₅) s₅.heap → st₅.own = (D, .list acc') :: own → acc' = (vs.take (k + 1)).filterMap out →
          ∃ m, m < vs.length - k ∧ ∃ k, m = vs.length - k ∧ k ≤ vs.length ∧ At prog w c cenv ⟨[], (D, .list ((vs.take k).filterMap out)) :: own⟩ s₅ ∧ Fol cenv.locals o₀ s₀.heap (c.adr ⟨[], (D, .list ((vs.take k).filterMap out)) :: own⟩) s₅.heap ∧ S k s₅.heap (c.adr ⟨[], (D, .list ((vs.take k).filterMap out)) :: own⟩) := fun s₅ st₅ acc' a₅ F₅ eo ea => by
        subst ea
        have ead : c.adr st₅ = c.adr ⟨[], (D, O.list ((vs.take (k + 1)).filterMap out)) :: own⟩ := by unfold Cx.adr; rw [eo]
        refine ⟨vs.length - (k + 1), by (first | lia | omega), k + 1, rfl, hlt, a₅.le ⟨eo, fun p hp => nomatch hp⟩, ?_, ?_⟩
        · rw [← ead]; exact (Fb h' kk).trans F₅
        · rw [← ead]
          exact K.frame _ _ _ _ _ hs' (fun b hb o e => (F₅ b o e (hoff₁ b hb) (hL b hb)).1) (a₂.seqs F₅)
      cases ok with
      | false =>
        rw [if_neg (by decide)] at hb ⊢
        obtain ⟨ho, eo⟩ := hb
        exact nx s₄ st₄ _ a₄ (F₃.trans F₄) eo (by rw [etk, ho]; simp)
      | true =>
        rw [if_pos rfl] at hb ⊢
        refine wpAny_mono (hb s₄ a₄) (fun x s₅ p => ?_) (fun _ _ e => e.elim)
        obtain ⟨st₅, a₅, F₅, v', rv, ho, eo⟩ := p
        have hup : Upd D (.list ((vs.take k).filterMap out)) (.list ((vs.take k).filterMap out ++ [v'])) st₅.own ((D, .list ((vs.take k).filterMap out ++ [v'])) :: own) := by rw [eo]; exact .head
        have hsz : ((vs.take k).filterMap out).length ≤ sizeLine := Nat.le_trans (List.length_filterMap_le _ _) (Nat.le_trans (by simp; (first | lia | omega)) hz)
        refine wpAny_mono (WC.append (Q := fun _ st' => st' = ⟨st₅.vars, (D, .list ((vs.take k).filterMap out ++ [v'])) :: own⟩) hup hsz rfl s₅ [.ref D, x] a₅ (Reps.two rfl rv)) (fun _ s₆ p => ?_) (fun _ _ e => e.elim)
        obtain ⟨st₆, a₆, F₆, _, _, rfl⟩ := p
        exact nx s₆ _ _ a₆ (((F₃.trans F₄).trans F₅).trans F₆) rfl (by rw [etk, ho]; rfl)
    · obtain ⟨v, rfl, hv⟩ := p
      refine wpAny_bind (wpAny_mono hv (fun _ s₃ h₃ => ?_) fun _ _ e => e.elim)
      refine wpAny_bind (wpAny_mono h₃ (fun _ s₄ h₄ => wpAny_bind (wpAny_mono h₄ (fun ok s₅ h₅ => ?_) fun _ _ e => e.elim)) fun _ _ e => e.elim)
      cases ok with
      | false =>
        rw [if_neg (by decide)] at h₅
        exact wpAny_pure ⟨rfl, h₅⟩
      | true =>
        rw [if_pos rfl] at h₅
        exact wpAny_bind (wpAny_bind (wpAny_mono h₅ (fun x s₆ h₆ => wpAny_bind (wpAny_mono h₆ (fun _ s₇ h₇ => wpAny_pure (wpAny_pure ⟨rfl, h₇⟩)) fun _ _ e => e.elim)) fun _ _ e => e.elim))
  · have hk : k = vs.length := Nat.le_antisymm hkn hge
    subst hk
    refine wpAny_mono (K.done s₁ _ (fun s₂ => R (.ok .next) s₂) hs₁ fun h' tk kk => ?_) (fun r s₂ p => ?_) fun _ _ e => e.elim
    · have a₂ := a₁.but (s' := { s₁ with heap := h', toks := tk }) kk nr no rfl rfl
      have f₂ := Fb h' kk
      rw [List.take_length] at a₂ f₂
      exact fin _ a₂ f₂
    · obtain ⟨rfl, p⟩ := p
      exact wpAny_pure p
end
end Mine
end PtLg44
section PtLg45
open PySem PySem.W PyProof.Rows
namespace Mine
section
variable {prog : Program} {w : World} {c : Cx} {env cenv : Env} {A : Around} {st st' : St} {s s' : Shared} {Q : V → St → Prop}
/-- [elt for target in iter if ..] -/
theorem W.comp {elt target iter : Expr} {ifs : List Expr} {scope : Scope} {pos : Pos} (cl : List (Str × Addr)) (hA : A.handled = Option.none)
    (h : WI prog w c env A target iter st (fun vs st₁ => CoE (vs.length ≤ sizeLine) (fun out => ∀ (C D : Addr) (acc : List V) (k : Nat) (u : V), vs[k]? = some u →
      WF prog w c (compEnvC scope cl C env) A (PySem.assign target (compEnvC scope cl C env)) u ⟨[], (D, .list acc) :: st₁.own⟩ (fun st₂ => WT prog w c (compEnvC scope cl C env) A ifs st₂ (fun b st₃ => if b then W prog w c (compEnvC scope cl C env) A elt st₃ (fun v st₄ => out u = some v ∧ st₄.own = (D, .list acc) :: st₁.own) else out u = Option.none ∧ st₃.own = (D, .list acc) :: st₁.own))) fun out => Q (.lst (vs.filterMap out)) st₁))
    (hclos : closureFor scope env = pure cl := by rfl) (hcell : ∀ y ∈ scope.names, y.2 ≠ .cell := by decide) (hkind : scope.kind = .function := by rfl) (hnames : ∀ y ∈ scope.names, y.2 = .local → scope.names.lookup y.1 = some .local := by decide)
    (hs : ∀ x, foldedSetIterable iter env x = pure x := by intro _; rfl) : W prog w c env A (.ListComp elt [⟨target, iter, ifs, 0⟩] scope pos) st Q := fun s a => by
  rw [eval_ListComp]
  refine wpAny_comprehension_free (e := .ListComp elt [⟨target, iter, ifs, 0⟩] scope pos) (use := Option.none) (g := ⟨target, iter, ifs, 0⟩) (gs := []) rfl hs hclos hkind hnames ?_
  refine wpAny_mono (h s a) (fun x s₁ p => ?_) fun _ _ e => e
  refine wpAny_mono p (fun it s₂ p => ?_) fun _ _ e => e
  obtain ⟨s₀, st₁, vs, I, fp, wr, S, rfl, a₀, F₀, a₂, qq₀, hle₀, K, hS, hw, hf, hz, out, body, q⟩ := p
  refine wpAny_newObj_type (wpAny_newFunctionEnv hcell (by intro y hy; simp at hy) (fun h₁ hns₁ hsb₁ => ?_) hkind)
  dsimp only at hns₁ hsb₁ ⊢
  have hD : (s₂.heap.push { cls := .type "list", dict := Option.none, data := .seq ([] : List Value).toArray }).objs.size = s₂.heap.objs.size + 1 := Heap.size_push ..
  obtain ⟨a₃, F₃, ne₃⟩ := At.allocR a₂ (o := { cls := .type "list", data := .seq ([] : List Value).toArray }) (ob := .list []) (t := s₂.toks) rfl ⟨#[], ⟨_, Heap.get?_push_size _ rfl⟩, rfl⟩
  generalize hH2 : s₂.heap.push { cls := .type "list", dict := Option.none, data := .seq ([] : List Value).toArray } = H2 at *
  have old : ∀ b o, H2.get? b = some o → h₁.get? b = some o := fun b o e => hsb₁.extBut b o (Nat.ne_of_lt (Heap.lt_size e)) (Heap.get?_push_of_some _ e)
  have qq : Quiet { s₂ with heap := H2, toks := s₂.toks } { s₂ with heap := h₁, toks := s₂.toks + ([] : List (Str × Value)).length } := ⟨old, rfl, rfl⟩
  have a₄ := At.quiet (s := { s₂ with heap := H2, toks := s₂.toks }) a₃ qq
  have up : ∀ b ∈ c.adr ⟨st₁.vars, (s₂.heap.objs.size, O.list []) :: st₁.own⟩, b < H2.objs.size := fun b hb => (a₃.lt b hb).1
  have aC : At prog w c (compEnvC scope cl H2.objs.size env) ⟨[], (s₂.heap.objs.size, .list []) :: st₁.own⟩ { s₂ with heap := h₁, toks := s₂.toks + ([] : List (Str × Value)).length } :=
    ⟨⟨_, hns₁, fun y v e => by cases e⟩, a₄.keep, a₄.own, a₄.nodup, fun q => absurd (up _ q) (Nat.lt_irrefl _), a₄.fresh, a₄.top, a₄.low, a₄.hid, Nat.le_trans (Nat.le_of_lt a₃.size) (Nat.le_refl _), a₄.gens, a₄.os⟩
  have F₄ : Fol H2.objs.size (c.adr st₁) s₂.heap (c.adr ⟨[], (s₂.heap.objs.size, O.list []) :: st₁.own⟩) h₁ := fun b o e nb nl => ⟨old b o (by rw [← hH2]; exact Heap.get?_push_of_some _ e), fun q => by
    rcases List.mem_cons.mp q with q | q
    · exact absurd (Heap.lt_size e) (q ▸ Nat.lt_irrefl _)
    · exact nb q⟩
  have S₄ : Seqs (c.adr st₁) s₂.heap (c.adr ⟨[], (s₂.heap.objs.size, O.list []) :: st₁.own⟩) h₁ := fun b o e nb _ => F₄ b o e nb (fun q => absurd (Heap.lt_size e) (by rw [q, hD]; exact Nat.not_lt.mpr (Nat.le_succ _)))
  have hS₄ := K.frame 0 _ _ _ _ hS (fun b hb o e => old b o (by rw [← hH2]; exact Heap.get?_push_of_some _ e)) S₄
  have off₄ : ∀ b ∈ fp, b ∉ c.adr ⟨[], (s₂.heap.objs.size, O.list []) :: st₁.own⟩ := fun b hb q => by
    rcases List.mem_cons.mp q with q | q
    · obtain ⟨o, e, _⟩ := K.nd 0 _ _ hS b hb
      exact absurd (Heap.lt_size e) (q ▸ Nat.lt_irrefl _)
    · exact hf b hb q
  have nw : ∀ b ∈ wr, s₀.heap.get? b = Option.none ∧ c.h₀.get? b = Option.none ∧ c.top.get? b = Option.none := fun b hb =>
    ⟨none_above (hw b hb), none_above (Nat.le_trans (Nat.le_of_lt a₀.size) (hw b hb)), none_above (Nat.le_trans (Nat.le_trans a₀.low (Nat.le_of_lt a₀.size)) (hw b hb))⟩
  have hsz₀ : s₀.heap.objs.size ≤ H2.objs.size := Nat.le_trans hle₀ (by rw [hD]; exact Nat.le_succ _)
  have hloc : ∀ o, s₀.heap.get? env.locals = some o → s₂.heap.get? env.locals = some o := fun o e => qq₀.keep _ o e
  have Fz : Fol H2.objs.size (c.adr st₁) s₀.heap (c.adr ⟨[], (s₂.heap.objs.size, O.list []) :: st₁.own⟩) h₁ := fun b o e nb nl => by
    have hne : b ≠ env.locals ∨ b = env.locals := (Decidable.em (b = env.locals)).symm
    have e₂ : s₂.heap.get? b = some o ∧ b ∉ c.adr st₁ := by
      rcases hne with hn | rfl
      · exact ⟨qq₀.keep b o e, nb⟩
      · exact ⟨hloc o e, nb⟩
    exact F₄ b o e₂.1 e₂.2 nl
  have fin : ∀ s', At prog w c (compEnvC scope cl H2.objs.size env) ⟨[], (s₂.heap.objs.size, .list (vs.filterMap out)) :: st₁.own⟩ s' → Fol H2.objs.size (c.adr st₁) s₀.heap (c.adr ⟨[], (s₂.heap.objs.size, .list (vs.filterMap out)) :: st₁.own⟩) s'.heap →
      compPost (model prog w) A (fun _ _ => False) Option.none (Pst prog w c env st s (Vp c Q)) (.ref s₂.heap.objs.size) H2.objs.size (.ok .next) s' := fun s' b F => by
    obtain ⟨m, ns, _⟩ := id b.vars
    refine ⟨m, ns, fun h' sb => ?_⟩
    have hC : s₀.heap.objs.size ≤ H2.objs.size := hsz₀
    have b' : At prog w c env st₁ s' := At.back (cenv := compEnvC scope cl H2.objs.size env) a₀ b F hC
    have kk : ∀ y o, y ∉ [H2.objs.size] → s'.heap.get? y = some o → h'.get? y = some o := fun y o ny e => (sb.2 y fun q => ny (by simp [q])).trans e
    have nr : ∀ y ∈ [H2.objs.size], ¬ Rd s'.heap y := fun y hy => by rw [List.mem_singleton.mp hy]; exact ns_notRd ns
    have hCoff : H2.objs.size ∉ c.adr ⟨[], (s₂.heap.objs.size, O.list (vs.filterMap out)) :: st₁.own⟩ := b.off
    have b'' : At prog w c env st₁ { s' with heap := h' } := b'.but kk nr (fun y hy => by
      rw [List.mem_singleton.mp hy]
      refine ⟨fun q => hCoff (.tail _ q), fun q => ?_, none_above (Nat.le_of_lt a₃.size), none_above (Nat.le_trans a₃.low (Nat.le_of_lt a₃.size))⟩
      obtain ⟨m', n', _⟩ := a₀.vars
      exact absurd n'.lt (q ▸ Nat.not_lt.mpr hC)) rfl rfl
    obtain ⟨its, hpl, rsl⟩ := b.own _ (.head _)
    have less : ∀ y ∈ c.adr st₁, y ∈ c.adr ⟨[], (s₂.heap.objs.size, O.list (vs.filterMap out)) :: st₁.own⟩ := fun y hy => .tail _ hy
    have hneD : s₂.heap.objs.size ≠ H2.objs.size := by rw [hD]; exact Nat.ne_of_lt (Nat.lt_succ_self _)
    refine ⟨st₁, b'', F₀.trans fun y o e ny nl => ?_, .lst (vs.filterMap out), ⟨_, its, rfl, ne₃, hpl.at fun o e => kk _ o (by simpa using hneD) e, Reps.but kk nr _ _ (rsl.less less)⟩, q⟩
    have := F y o e ny (Nat.ne_of_lt (Nat.lt_of_lt_of_le (Heap.lt_size e) hC))
    exact ⟨kk y o (by simpa using Nat.ne_of_lt (Nat.lt_of_lt_of_le (Heap.lt_size e) hC)) this.1, fun z => this.2 (less y z)⟩
  have lp := loop_comp (iter := iter) (scope := scope) (pos := pos) (R := compPost (model prog w) A (fun _ _ => False) Option.none (Pst prog w c env st s (Vp c Q)) (.ref s₂.heap.objs.size) H2.objs.size) K out hz nw (fun acc k u hu => body H2.objs.size s₂.heap.objs.size acc k u hu) fin aC Fz hS₄ off₄
  exact codeAny_compStart_list lp (wpAny_mono (K.self 0 _ _ (fun it s' => it = .ref I ∧ s' = _) hS₄ ⟨rfl, rfl⟩) (fun it s' p => by obtain ⟨rfl, rfl⟩ := p; exact lp) fun _ _ e => e.elim)
end
end Mine
end PtLg45
section PtLg46
open PySem PySem.W PyProof.Rows
namespace Mine
section
variable {prog : Program} {w : World} {c : Cx} {env cenv : Env} {A : Around} {st st' : St} {s s' : Shared}
/-- y = [elt for target in iter if ..] -/
theorem WX.comp {y : Str} {py spos : Pos} {Q : Fl → St → Prop} {elt target iter : Expr} {ifs : List Expr} {scope : Scope} {pos : Pos} (cl : List (Str × Addr)) (hA : A.handled = Option.none)
    (h : WI prog w c env A target iter st (fun vs st₁ => CoE (vs.length ≤ sizeLine) (fun out => ∀ (C D : Addr) (acc : List V) (k : Nat) (u : V), vs[k]? = some u →
      WF prog w c (compEnvC scope cl C env) A (PySem.assign target (compEnvC scope cl C env)) u ⟨[], (D, .list acc) :: st₁.own⟩ (fun st₂ => WT prog w c (compEnvC scope cl C env) A ifs st₂ (fun b st₃ => if b then W prog w c (compEnvC scope cl C env) A elt st₃ (fun v st₄ => out u = some v ∧ st₄.own = (D, .list acc) :: st₁.own) else out u = Option.none ∧ st₃.own = (D, .list acc) :: st₁.own))) fun out => Q .next (st₁.set y (.lst (vs.filterMap out)))))
    (hclos : closureFor scope env = pure cl := by rfl) (hcell : ∀ y ∈ scope.names, y.2 ≠ .cell := by decide) (hkind : scope.kind = .function := by rfl) (hnames : ∀ y ∈ scope.names, y.2 = .local → scope.names.lookup y.1 = some .local := by decide)
    (hs : ∀ x, foldedSetIterable iter env x = pure x := by intro _; rfl) 
    (hk : env.scope.kind = .function := by rfl) (hl : env.kindOf y = some .local := by rfl) (hsw : swapsWith (.ListComp elt [⟨target, iter, ifs, 0⟩] scope pos) (some (.Name y py)) spos.line env = pure true := by rfl) :
    WX prog w c env A (.Assign [.Name y py] (.ListComp elt [⟨target, iter, ifs, 0⟩] scope pos) spos) st Q := fun s a => by
  rw [exec_Assign_Name_used _ _ _ _ hsw]
  refine wpAny_bind (wpAny_standAt (wpAny_bind ?_))
  show wpAny _ A (do let _ ← comprehension (.ListComp elt [⟨target, iter, ifs, 0⟩] scope pos) scope env _ (newList []) false (eval iter env) (some (PySem.assign (.Name y py) env))) _ _ s
  refine wpAny_bind (wpAny_mono (wpAny_comprehension_free (g := ⟨target, iter, ifs, 0⟩) (gs := []) (use := some (PySem.assign (.Name y py) env)) (Q := fun _ s' => Pst prog w c env st s (Fp c Q) Flow.next s') rfl hs hclos hkind hnames ?_) (fun _ s' hq => wpAny_pure (wpAny_pure hq)) fun _ _ e => e)
  refine wpAny_mono (h s a) (fun x s₁ p => ?_) fun _ _ e => e
  refine wpAny_mono p (fun it s₂ p => ?_) fun _ _ e => e
  obtain ⟨s₀, st₁, vs, I, fp, wr, S, rfl, a₀, F₀, a₂, qq₀, hle₀, K, hS, hw, hf, hz, out, body, q⟩ := p
  refine wpAny_newObj_type (wpAny_newFunctionEnv hcell (by intro y hy; simp at hy) (fun h₁ hns₁ hsb₁ => ?_) hkind)
  dsimp only at hns₁ hsb₁ ⊢
  have hD : (s₂.heap.push { cls := .type "list", dict := Option.none, data := .seq ([] : List Value).toArray }).objs.size = s₂.heap.objs.size + 1 := Heap.size_push ..
  obtain ⟨a₃, F₃, ne₃⟩ := At.allocR a₂ (o := { cls := .type "list", data := .seq ([] : List Value).toArray }) (ob := .list []) (t := s₂.toks) rfl ⟨#[], ⟨_, Heap.get?_push_size _ rfl⟩, rfl⟩
  generalize hH2 : s₂.heap.push { cls := .type "list", dict := Option.none, data := .seq ([] : List Value).toArray } = H2 at *
  have old : ∀ b o, H2.get? b = some o → h₁.get? b = some o := fun b o e => hsb₁.extBut b o (Nat.ne_of_lt (Heap.lt_size e)) (Heap.get?_push_of_some _ e)
  have qq : Quiet { s₂ with heap := H2, toks := s₂.toks } { s₂ with heap := h₁, toks := s₂.toks + ([] : List (Str × Value)).length } := ⟨old, rfl, rfl⟩
  have a₄ := At.quiet (s := { s₂ with heap := H2, toks := s₂.toks }) a₃ qq
  have up : ∀ b ∈ c.adr ⟨st₁.vars, (s₂.heap.objs.size, O.list []) :: st₁.own⟩, b < H2.objs.size := fun b hb => (a₃.lt b hb).1
  have aC : At prog w c (compEnvC scope cl H2.objs.size env) ⟨[], (s₂.heap.objs.size, .list []) :: st₁.own⟩ { s₂ with heap := h₁, toks := s₂.toks + ([] : List (Str × Value)).length } :=
    ⟨⟨_, hns₁, fun y v e => by cases e⟩, a₄.keep, a₄.own, a₄.nodup, fun q => absurd (up _ q) (Nat.lt_irrefl _), a₄.fresh, a₄.top, a₄.low, a₄.hid, Nat.le_trans (Nat.le_of_lt a₃.size) (Nat.le_refl _), a₄.gens, a₄.os⟩
  have F₄ : Fol H2.objs.size (c.adr st₁) s₂.heap (c.adr ⟨[], (s₂.heap.objs.size, O.list []) :: st₁.own⟩) h₁ := fun b o e nb nl => ⟨old b o (by rw [← hH2]; exact Heap.get?_push_of_some _ e), fun q => by
    rcases List.mem_cons.mp q with q | q
    · exact absurd (Heap.lt_size e) (q ▸ Nat.lt_irrefl _)
    · exact nb q⟩
  have S₄ : Seqs (c.adr st₁) s₂.heap (c.adr ⟨[], (s₂.heap.objs.size, O.list []) :: st₁.own⟩) h₁ := fun b o e nb _ => F₄ b o e nb (fun q => absurd (Heap.lt_size e) (by rw [q, hD]; exact Nat.not_lt.mpr (Nat.le_succ _)))
  have hS₄ := K.frame 0 _ _ _ _ hS (fun b hb o e => old b o (by rw [← hH2]; exact Heap.get?_push_of_some _ e)) S₄
  have off₄ : ∀ b ∈ fp, b ∉ c.adr ⟨[], (s₂.heap.objs.size, O.list []) :: st₁.own⟩ := fun b hb q => by
    rcases List.mem_cons.mp q with q | q
    · obtain ⟨o, e, _⟩ := K.nd 0 _ _ hS b hb
      exact absurd (Heap.lt_size e) (q ▸ Nat.lt_irrefl _)
    · exact hf b hb q
  have nw : ∀ b ∈ wr, s₀.heap.get? b = Option.none ∧ c.h₀.get? b = Option.none ∧ c.top.get? b = Option.none := fun b hb =>
    ⟨none_above (hw b hb), none_above (Nat.le_trans (Nat.le_of_lt a₀.size) (hw b hb)), none_above (Nat.le_trans (Nat.le_trans a₀.low (Nat.le_of_lt a₀.size)) (hw b hb))⟩
  have hsz₀ : s₀.heap.objs.size ≤ H2.objs.size := Nat.le_trans hle₀ (by rw [hD]; exact Nat.le_succ _)
  have hloc : ∀ o, s₀.heap.get? env.locals = some o → s₂.heap.get? env.locals = some o := fun o e => qq₀.keep _ o e
  have Fz : Fol H2.objs.size (c.adr st₁) s₀.heap (c.adr ⟨[], (s₂.heap.objs.size, O.list []) :: st₁.own⟩) h₁ := fun b o e nb nl => by
    have hne : b ≠ env.locals ∨ b = env.locals := (Decidable.em (b = env.locals)).symm
    have e₂ : s₂.heap.get? b = some o ∧ b ∉ c.adr st₁ := by
      rcases hne with hn | rfl
      · exact ⟨qq₀.keep b o e, nb⟩
      · exact ⟨hloc o e, nb⟩
    exact F₄ b o e₂.1 e₂.2 nl
  have fin : ∀ s', At prog w c (compEnvC scope cl H2.objs.size env) ⟨[], (s₂.heap.objs.size, .list (vs.filterMap out)) :: st₁.own⟩ s' → Fol H2.objs.size (c.adr st₁) s₀.heap (c.adr ⟨[], (s₂.heap.objs.size, .list (vs.filterMap out)) :: st₁.own⟩) s'.heap →
      compPost (model prog w) A (fun _ _ => False) (some (PySem.assign (.Name y py) env)) (fun _ s' => Pst prog w c env st s (Fp c Q) Flow.next s') (.ref s₂.heap.objs.size) H2.objs.size (.ok .next) s' := fun s' b F => by
    obtain ⟨m, ns, _⟩ := id b.vars
    have hC : s₀.heap.objs.size ≤ H2.objs.size := hsz₀
    have b' : At prog w c env st₁ s' := At.back (cenv := compEnvC scope cl H2.objs.size env) a₀ b F hC
    obtain ⟨its, hpl, rsl⟩ := b.own _ (.head _)
    have less : ∀ y ∈ c.adr st₁, y ∈ c.adr ⟨[], (s₂.heap.objs.size, O.list (vs.filterMap out)) :: st₁.own⟩ := fun y hy => .tail _ hy
    have rv : Rep s'.heap (c.adr st₁) (.lst (vs.filterMap out)) (.ref s₂.heap.objs.size) := ⟨_, its, rfl, ne₃, hpl, rsl.less less⟩
    obtain ⟨mv, nv, hmv⟩ := id b'.vars
    have hLC : env.locals ≠ H2.objs.size := fun q => by
      obtain ⟨m', n', _⟩ := a₀.vars
      exact absurd n'.lt (q ▸ Nat.not_lt.mpr hC)
    have hCoff : H2.objs.size ∉ c.adr ⟨[], (s₂.heap.objs.size, O.list (vs.filterMap out)) :: st₁.own⟩ := b.off
    show wpAny _ A (PySem.assign (.Name y py) env (.ref s₂.heap.objs.size)) _ _ _
    refine wpAny_assign_Name (wpAny_storeName_local hl nv (fun h₂ n₂ k₂ => ?_) (by rw [hk]; rfl))
    obtain ⟨a₅, F₅⟩ := b'.set rv hmv (t := s'.toks + 1) n₂ k₂
    have nsC : h₂.Ns H2.objs.size m := ns.sameBut k₂ (Ne.symm hLC)
    refine ⟨m, nsC, fun h' sb => ?_⟩
    have kk : ∀ y o, y ∉ [H2.objs.size] → h₂.get? y = some o → h'.get? y = some o := fun y o ny e => (sb.2 y fun q => ny (by simp [q])).trans e
    have nr : ∀ y ∈ [H2.objs.size], ¬ Rd h₂ y := fun y hy => by rw [List.mem_singleton.mp hy]; exact ns_notRd nsC
    have b'' := At.but (s' := { s' with heap := h', toks := s'.toks + 1 }) a₅ kk nr (fun y hy => by
      rw [List.mem_singleton.mp hy]
      exact ⟨fun q => hCoff (.tail _ q), Ne.symm hLC, none_above (Nat.le_of_lt a₃.size), none_above (Nat.le_trans a₃.low (Nat.le_of_lt a₃.size))⟩) rfl rfl
    refine ⟨_, b'', F₀.trans fun y o e ny nl => ?_, .next, rfl, q⟩
    have hyC : y ≠ H2.objs.size := Nat.ne_of_lt (Nat.lt_of_lt_of_le (Heap.lt_size e) hC)
    have := F y o e ny hyC
    exact ⟨kk y o (by simpa using hyC) ((k₂.2 y nl).trans this.1), fun z => this.2 (less y z)⟩
  have lp := loop_comp (iter := iter) (scope := scope) (pos := pos) (R := compPost (model prog w) A (fun _ _ => False) (some (PySem.assign (.Name y py) env)) (fun _ s' => Pst prog w c env st s (Fp c Q) Flow.next s') (.ref s₂.heap.objs.size) H2.objs.size) K out hz nw (fun acc k u hu => body H2.objs.size s₂.heap.objs.size acc k u hu) fin aC Fz hS₄ off₄
  exact codeAny_compStart_list lp (wpAny_mono (K.self 0 _ _ (fun it s' => it = .ref I ∧ s' = _) hS₄ ⟨rfl, rfl⟩) (fun it s' p => by obtain ⟨rfl, rfl⟩ := p; exact lp) fun _ _ e => e.elim)
/-- a name that is a cell -/
theorem W.cel {x : Str} {pos : Pos} {v : V} {a : Addr} {Q : V → St → Prop} (hm : (a, O.cell (some v)) ∈ st.own) (h : Q v st) (hc : env.cells.lookup x = some a := by rfl)
    (hk : env.scope.kind = .function := by rfl) (hl : env.kindOf x = some .cell := by rfl) (hd : (x == ("__debug__" : Str)) = false := by decide) : W prog w c env A (.Name x pos) st Q := fun s at' => by
  obtain ⟨y, hy, r⟩ := at'.own _ hm
  obtain ⟨val, rfl, r⟩ := r
  exact wpAny_Name (wpAny_loadName_cell hk hl hc hy (Pst.here at' ⟨v, r, h⟩)) hd
/-- a store into a cell -/
theorem WX.cset {x : Str} {p pos : Pos} {e : Expr} {a : Addr} {Q : Fl → St → Prop} (h : W prog w c env A e st (fun v st₁ => ∃ u own', Upd a (.cell u) (.cell (some v)) st₁.own own' ∧ Q .next ⟨st₁.vars, own'⟩)) (hc : env.cells.lookup x = some a := by rfl)
    (hk : env.scope.kind = .function := by rfl) (hl : env.kindOf x = some .cell := by rfl) (hs : swapsWith e (some (.Name x p)) pos.line env = pure false := by rfl) : WX prog w c env A (.Assign [.Name x p] e pos) st Q := fun s at' =>
  wpAny_Assign_Name (wpAny_mono (h s at') (fun val s₁ ⟨st₁, a₁, F, v, r, u, own', hu, q⟩ => by
    obtain ⟨y, hy, _⟩ := a₁.own _ hu.mem
    refine wpAny_storeName_cell hk hl hc hy fun h' hc' k => ?_
    have hxd : a ∈ c.adr st₁ := List.mem_append_left _ (List.mem_map_of_mem (f := (·.1)) hu.mem)
    have S : Seqs (c.adr st₁) s₁.heap (c.adr st₁) h' := fun b ob eb nb _ => ⟨(k.2 b fun q => nb (q ▸ hxd)).trans eb, nb⟩
    obtain ⟨a', F'⟩ := a₁.upd hu (t := s₁.toks) k ⟨_, hc', _, rfl, Rep.seqs S _ _ r⟩
    exact ⟨_, a', F.trans F', .next, rfl, q⟩) fun _ _ e => e) hs
end
end Mine
end PtLg46
section PtLg47
open PySem PySem.W PyProof.Rows
namespace Mine
theorem bindL_ok {k : Str → Option NameKind} {y : Str} : ∀ (binds : List (Str × Value)) (m : Str → Option Value), (∀ x ∈ binds, k x.1 = some .local) → (binds.map (·.1)).Nodup →
    (∀ v, binds.lookup y = some v → bindL k binds m y = some v) ∧ (binds.lookup y = Option.none → bindL k binds m y = m y)
  | [], m, _, _ => ⟨(fun v e => by simp at e), fun _ => rfl⟩
  | (n, x) :: r, m, hk, hn => by
    obtain ⟨h1, h2⟩ := List.nodup_cons.mp hn
    obtain ⟨i1, i2⟩ := bindL_ok (k := k) (y := y) r (fun y => if y = n then some x else m y) (fun z hz => hk z (.tail _ hz)) h2
    unfold bindL
    rw [if_pos (hk (n, x) (.head _))]
    constructor
    · intro v e
      rw [List.lookup_cons] at e
      by_cases q : y = n
      · subst q
        simp at e; subst e
        rw [i2]
        · simp
        · rw [List.lookup_eq_none_iff]
          intro p hp
          simp only [bne_iff_ne, ne_eq]
          rintro rfl
          exact h1 (List.mem_map_of_mem (f := (·.1)) hp)
      · have : (y == n) = false := by simpa using q
        rw [this] at e
        exact i1 v e
    · intro e
      rw [List.lookup_cons] at e
      by_cases q : y = n
      · subst q; simp at e
      · have : (y == n) = false := by simpa using q
        rw [this] at e
        rw [i2 e, if_neg q]
theorem bindC_ok {k : Str → Option NameKind} : ∀ (binds : List (Str × Value)) (m : Str → Option Value), (∀ x ∈ binds, k x.1 = some .local) → bindC k binds m = m
  | [], m, _ => rfl
  | (n, x) :: r, m, hk => by
    unfold bindC
    rw [if_pos (hk (n, x) (.head _))]
    exact bindC_ok r m fun z hz => hk z (.tail _ hz)
/-- a def's cells, still empty -/
noncomputable def cellsO (fd : FuncData) (L : Addr) : List (Addr × O) := (cellsFrom (L + 1) fd.scope.names []).map fun p => (p.2, O.cell Option.none)
section
variable {prog : Program} {w : World} {top : Heap} {n : Nat}
/-- a def with cells, called -/
theorem Fc.fnC {f : Addr} {o : Obj} {fd : FuncData} {body : List Stmt} {args : List V} {objs : List (Addr × O)} {post : V → List (Addr × O) → Prop} (names : List Str)
    (ho : top.get? f = some o) (hd : o.data = .func fd) (hb : fd.body = .stmts body) (hcr : top.CodeRec fd.code fd.qualname) (hl : top.NoLimit) (hlen : names.length = args.length)
    (hbind : ∀ xs : List Value, xs.length = names.length → bindArgs fd ⟨xs, []⟩ = pure (names.zip xs)) (hclo : fd.closure = []) (hloc : ∀ x ∈ names, fd.scope.names.lookup x = some .local) (hnd : names.Nodup)
    (hlk : ∀ L, ∀ p ∈ cellsFrom (L + 1) fd.scope.names [], (cellsFrom (L + 1) fd.scope.names []).lookup p.1 = some p.2)
    (h : ∀ (c : Cx) (L : Addr) (A : Around), AOk n A → c.top = top → WS prog w c (callEnvC fd L f) A body ⟨names.zip args, cellsO fd L ++ objs⟩ (fun fl st' => post fl.val st'.own))
    (hco : fd.scope.isCoroutine = false) (hgen : fd.scope.isGenerator = false) (hk : fd.scope.kind = .function) :
    Fc prog w top (n + 1) (.ref f) args objs post := by
  intro A s hid xs hA ht hsz hl' r
  have hV : Bound s.heap (adrs objs ++ hid) (names.zip args) (names.zip xs) := Bound.zip names hlen r
  have hxs : xs.length = names.length := by rw [hlen, r.length]
  have hloc' : ∀ x ∈ names.zip xs, fd.scope.names.lookup x.1 = some .local := fun x hx => hloc _ (List.of_mem_zip hx).1
  have hnd' : ((names.zip xs).map (·.1)).Nodup := by rw [zip_fst hxs.symm]; exact hnd
  refine codeAny_call_cells hA.room (ht _ _ ho) hd (hl.keeps ht) (hcr.keeps ht) hb (hbind xs hxs) hclo (fun x hx => .inl (hloc' x hx)) (fun s₁ I => ?_) hco hgen hk
  obtain ⟨⟨⟨h₁, tk, rfl⟩, ns, k, _⟩, hcell, apart, above⟩ := I
  rw [bindC_ok _ _ hloc'] at hcell
  dsimp only at ns k hcell
  have q : Quiet s { s with heap := h₁, toks := tk } := ⟨k, rfl, rfl⟩
  have cs : ∀ p ∈ cellsO fd s.heap.objs.size, s.heap.objs.size < p.1 ∧ ∃ x, p = (x.2, O.cell Option.none) ∧ x ∈ cellsFrom (s.heap.objs.size + 1) fd.scope.names [] := fun p hp => by
    obtain ⟨x, hx, rfl⟩ := List.mem_map.mp hp
    exact ⟨above x.1 x.2 hx, x, rfl, hx⟩
  have ga : ∀ b, s.heap.objs.size ≤ b → s.heap.get? b = Option.none ∧ top.get? b = Option.none := fun b hb => ⟨none_above hb, none_above (Nat.le_trans hsz hb)⟩
  have old : ∀ a ∈ adrs objs ++ hid, a < s.heap.objs.size := fun a ha => (hl'.top a ha).1
  have mem : ∀ b, b ∈ adrs (cellsO fd s.heap.objs.size ++ objs) ++ hid → s.heap.objs.size < b ∨ b ∈ adrs objs ++ hid := fun b hb => by
    rcases List.mem_append.mp hb with hb | hb
    · obtain ⟨p, hp, rfl⟩ := List.mem_map.mp hb
      rcases List.mem_append.mp hp with hp | hp
      · exact .inl (cs p hp).1
      · exact .inr (List.mem_append_left _ (List.mem_map_of_mem hp))
    · exact .inr (List.mem_append_right _ hb)
  have S : Seqs (adrs objs ++ hid) s.heap (adrs (cellsO fd s.heap.objs.size ++ objs) ++ hid) h₁ := fun b o e nb _ => ⟨k b o e, fun z => by
    rcases mem b z with z | z
    · exact absurd (Heap.lt_size e) (Nat.not_lt.mpr (Nat.le_of_lt z))
    · exact nb z⟩
  have at' : At prog w ⟨top, s.heap, adrs objs, hid, s.gens, s.os⟩ (callEnvC fd s.heap.objs.size f) ⟨names.zip args, cellsO fd s.heap.objs.size ++ objs⟩ { s with heap := h₁, toks := tk } := by
    refine ⟨⟨_, ns, fun y v e => ?_⟩, fun b o e _ => k b o e, fun p hp => ?_, ?_, ?_, fun p hp => ?_, fun b o e => k b o (ht b o e), hsz, fun a ha => ⟨(hl'.top a (List.mem_append_right _ ha)).1, fun z => ?_, hl'.off a ha, (hl'.top a (List.mem_append_right _ ha)).2⟩, ?_, rfl, rfl⟩
    · obtain ⟨x, e1, e2⟩ := hV.lookup e
      exact ⟨x, (bindL_ok (k := (callEnvC fd s.heap.objs.size f).kindOf) (names.zip xs) _ hloc' hnd').1 x e1, Rep.seqs S _ _ e2⟩
    · rcases List.mem_append.mp hp with hp | hp
      · obtain ⟨_, x, rfl, hx⟩ := cs p hp
        exact ⟨_, hcell x.1 x.2 (hlk _ x hx), rfl⟩
      · exact (hl'.at_ p hp).move (fun o e => k _ o e) S
    · show (List.map (·.1) (cellsO fd s.heap.objs.size ++ objs)).Nodup
      rw [List.map_append]
      refine List.nodup_append.mpr ⟨?_, hl'.nodup, fun a ha b hb e => ?_⟩
      · unfold cellsO
        rw [List.map_map]
        exact List.pairwise_map.mpr apart
      · obtain ⟨p, hp, rfl⟩ := List.mem_map.mp ha
        have := (cs p hp).1
        exact absurd (old b (List.mem_append_left _ hb)) (Nat.not_lt.mpr (e ▸ Nat.le_of_lt this))
    · intro z
      rcases mem _ z with z | z
      · exact Nat.lt_irrefl _ z
      · exact absurd (old _ z) (Nat.lt_irrefl _)
    · rcases List.mem_append.mp hp with hp | hp
      · have := ga p.1 (Nat.le_of_lt (cs p hp).1)
        exact ⟨this.2, .inr this.1⟩
      · exact ⟨(hl'.top _ (List.mem_append_left _ (List.mem_map_of_mem hp))).2, .inl (List.mem_map_of_mem hp)⟩
    · obtain ⟨p, hp, e⟩ := List.mem_map.mp z
      rcases List.mem_append.mp hp with hp | hp
      · have := (cs p hp).1
        exact absurd (old a (List.mem_append_right _ ha)) (Nat.not_lt.mpr (e ▸ Nat.le_of_lt this))
      · exact hl'.off a ha (e ▸ List.mem_map_of_mem hp)
    · exact Nat.le_refl _
  refine wpAny_mono (h _ _ _ (hA.deeper _) rfl _ at') (fun fl s' p => ?_) (fun _ _ e => e.elim)
  obtain ⟨st', a', F, g, rg, hv⟩ := p
  have L' : Lent prog w top (adrs st'.own) hid st'.own s'.heap := ⟨a'.own, rfl, a'.nodup, fun a ha => (a'.hid a ha).2.1, fun a ha => a'.lt a ha⟩
  have fr : ∀ a ∈ adrs st'.own, a ∈ adrs objs ∨ s.heap.get? a = Option.none := fun a ha => by
    obtain ⟨p, hp, rfl⟩ := List.mem_map.mp ha
    exact (a'.fresh p hp).2
  have kp : ∀ b o, s.heap.get? b = some o → b ∉ adrs objs → s'.heap.get? b = some o := fun b o e n => a'.keep b o e n
  cases g with
  | next => cases rg; exact ⟨_, rfl, .none, _, rfl, L', fr, kp, a'.gens, a'.os, hv⟩
  | brk => cases rg; exact ⟨_, rfl, .none, _, rfl, L', fr, kp, a'.gens, a'.os, hv⟩
  | cont => cases rg; exact ⟨_, rfl, .none, _, rfl, L', fr, kp, a'.gens, a'.os, hv⟩
  | ret u => obtain ⟨x, rfl, rr⟩ := rg; exact ⟨_, rfl, u, _, rr, L', fr, kp, a'.gens, a'.os, hv⟩
end
end Mine
end PtLg47
section PtLg48
open PySem PySem.W PyProof.Rows
namespace Mine
theorem Reps.drop {h : Heap} {own : List Addr} : ∀ (k : Nat) {vs : List V} {l : List Value}, Reps h own vs l → Reps h own (vs.drop k) (l.drop k)
  | 0, _, _, r => r
  | k + 1, [], l, r => by cases r; rfl
  | k + 1, v :: vs, l, r => by obtain ⟨x, l, rfl, _, r⟩ := r; exact Reps.drop k r
theorem Reps.take {h : Heap} {own : List Addr} : ∀ (k : Nat) {vs : List V} {l : List Value}, Reps h own vs l → Reps h own (vs.take k) (l.take k)
  | 0, _, _, r => rfl
  | k + 1, [], l, r => by cases r; rfl
  | k + 1, v :: vs, l, r => by obtain ⟨x, l, rfl, q, r⟩ := r; exact ⟨x, _, rfl, q, Reps.take k r⟩
theorem Reps.app' {h : Heap} {own : List Addr} : ∀ {vs us : List V} {l k : List Value}, Reps h own vs l → Reps h own us k → Reps h own (vs ++ us) (l ++ k)
  | [], us, l, k, r, r' => by cases r; exact r'
  | v :: vs, us, l, k, r, r' => by obtain ⟨x, l, rfl, q, r⟩ := r; exact ⟨x, _, rfl, q, Reps.app' r r'⟩
/-- the part of a list from lo to hi -/
noncomputable def pickV (vs : List V) (lo hi : Option Int) : List V := (vs.drop (lo.elim 0 (clipAt vs.length))).take (hi.elim vs.length (clipAt vs.length) - lo.elim 0 (clipAt vs.length))
/-- a value that is a list -/
noncomputable def Lsv (top : Heap) (v : V) (vs : List V) : Prop := ∀ (s : Heap) (own : List Addr) (o : Value), (∀ b o, top.get? b = some o → s.get? b = some o) → Rep s own v o → ∃ l items, o = .ref l ∧ s.IsList l items ∧ Reps s own vs items.toList
theorem Lsv.lst {top : Heap} {vs : List V} : Lsv top (.lst vs) vs := fun s own o _ r => by
  obtain ⟨a, items, rfl, _, hL, rs⟩ := r
  exact ⟨a, items, rfl, hL.isList, rs⟩
theorem reps_ints {h : Heap} {own : List Addr} : ∀ {xs : List Value} {ns : List Int}, IntsAre xs ns → Reps h own (ns.map V.int) xs
  | _, _, .nil => rfl
  | _, _, .cons n t r => ⟨_, _, rfl, ⟨t, rfl⟩, reps_ints r⟩
theorem Lsv.con {top : Heap} {l : Addr} {items : Array Value} {ns : List Int} (h : top.IsList l items) (hi : IntsAre items.toList ns) : Lsv top (.con (.ref l)) (ns.map V.int) := fun s own o k r => by
  cases r
  exact ⟨l, items, rfl, h.at fun o e => k _ o e, reps_ints hi⟩
section
variable {prog : Program} {w : World} {c : Cx} {env : Env} {A : Around} {st st' : St} {s s' : Shared} {Q : V → St → Prop} {top : Heap} {n : Nat}
/-- one end of a slice -/
noncomputable def WE (prog : Program) (w : World) (c : Cx) (env : Env) (A : Around) : Option Expr → St → (Option Int → St → Prop) → Prop
  | Option.none, st, Q => Q Option.none st
  | some e, st, Q => W prog w c env A e st (fun v st₁ => ∃ i, v = .int i ∧ Q (some i) st₁)
theorem WE.run {e : Option Expr} {Q : Option Int → St → Prop} (h : WE prog w c env A e st Q) (a : At prog w c env st s) : wpAny (model prog w) A (evalPart e env) (fun x s₁ => ∃ st₁, At prog w c env st₁ s₁ ∧ Fol env.locals (c.adr st) s.heap (c.adr st₁) s₁.heap ∧ ∃ i, IsPart x i ∧ Q i st₁) (fun _ _ => False) s := by
  cases e with
  | none => exact wpAny_evalPart_none ⟨st, a, Fol.quiet (Quiet.refl _) _ _, Option.none, .none, h⟩
  | some e =>
    refine wpAny_evalPart_some (wpAny_mono (h s a) (fun x s₁ p => ?_) fun _ _ e => e)
    obtain ⟨st₁, a₁, F, v, r, i, rfl, q⟩ := p
    obtain ⟨t, rfl⟩ := r
    exact ⟨st₁, a₁, F, some i, .int i t, q⟩
/-- value[lo:hi] -/
theorem W.slc {value : Expr} {lower upper : Option Expr} {p pos : Pos}
    (h : W prog w c env A value st (fun v st₁ => WE prog w c env A lower st₁ (fun lo st₂ => WE prog w c env A upper st₂ (fun hi st₃ => SlE (Lsv c.top v) fun vs => Q (.lst (pickV vs lo hi)) st₃)))) :
    W prog w c env A (.Subscript value (.Slice lower upper Option.none p) pos) st Q := fun s a => by
  refine Subscript_ (wpAny_mono (h s a) (fun x s₁ p => ?_) fun _ _ e => e)
  obtain ⟨st₁, a₁, F₁, v, rv, h₁⟩ := p
  refine wpAny_Slice (wpAny_mono (h₁.run a₁) (fun vl s₂ p => ?_) fun _ _ e => e)
  obtain ⟨st₂, a₂, F₂, lo, pl, h₂⟩ := p
  refine wpAny_mono (h₂.run a₂) (fun vu s₃ p => ?_) fun _ _ e => e
  obtain ⟨st₃, a₃, F₃, hi, pu, vs, hv, hz, q⟩ := p
  refine wpAny_evalPart_none ?_
  obtain ⟨l, items, rfl, hL, rs⟩ := hv s₃.heap _ x a₃.top (a₂.rep F₃ (a₁.rep F₂ rv))
  have hsz : items.size = vs.length := by rw [rs.length]; simp
  have qq : Quiet s₃ { s₃ with heap := (s₃.heap.push { cls := .type "slice", data := .fields #[vl, vu, .none] }).push { cls := .type "list", data := .seq (slicePick items lo hi Option.none) } } :=
    ⟨fun _ _ e => Heap.get?_push_of_some _ (Heap.get?_push_of_some _ e), rfl, rfl⟩
  have rp : Reps s₃.heap (c.adr st₃) (pickV vs lo hi) (slicePick items lo hi Option.none).toList := by
    rw [slicePick_plain]
    unfold pickV
    rw [← hsz]
    exact Reps.take _ (Reps.drop _ rs)
  refine tail_any (ops := [.ref s₃.heap.objs.size, .ref l]) (Heap.IsList.typeIs (s := { s₃ with heap := s₃.heap.push { cls := .type "slice", data := .fields #[vl, vu, .none] } }) (hL.push _)) list_getitem_lookup
    (wpAny_getItem_list_slice (hL.push _) (Heap.IsSliceOf.new ..) pl pu .none (by simp) ?_ (by rw [hsz]; exact hz)) rfl
  refine ⟨st₃, a₃.quiet qq, ((F₁.trans F₂).trans F₃).trans (Fol.quiet qq _ _), .lst (pickV vs lo hi), ⟨_, slicePick items lo hi Option.none, rfl, fun q => absurd (a₃.lt _ q).1 (by rw [Heap.size_push]; exact Nat.not_lt.mpr (Nat.le_succ _)), ⟨_, Heap.get?_push_size _ rfl⟩, ?_⟩, q⟩
  exact rp.quiet qq
/-- list + list -/
theorem Op.addL {v u : V} {vs us : List V} (hv : Lsv top v vs) (hu : Lsv top u us) (hz : vs.length + us.length ≤ sizeLine) : Op prog w top n (fun xs => binaryOp .Add (xs.getD 0 .none) (xs.getD 1 .none)) [v, u] (.lst (vs ++ us)) := fun A s own xs hA ht hsz hown r => by
  obtain ⟨x, r', rfl, rx, y, r'', rfl, ry, rfl⟩ := r
  obtain ⟨l, items, rfl, hL, rs⟩ := hv s.heap own x ht rx
  obtain ⟨b, items2, rfl, hB, rs2⟩ := hu s.heap own y ht ry
  have e1 : items.size = vs.length := by rw [rs.length]; simp
  have e2 : items2.size = us.length := by rw [rs2.length]; simp
  obtain ⟨⟨cls, dd, data, sl⟩, ho, hc, n, hd⟩ := id hL
  obtain ⟨⟨cls2, dd2, data2, sl2⟩, ho2, hc2, n2, hd2⟩ := id hB
  simp only at hc hd hc2 hd2
  subst hc hd hc2 hd2
  refine concat_meets ⟨_, ho, rfl⟩ ⟨_, ho2, rfl⟩ noFill_list_add seq_list_add PySem.F.slot_list_add PySem.F.entry_list_add (PySem.F.args_list_add_2 _ _) (list_addW l b items items2 n n2 dd dd2 sl sl2 (by rw [e1, e2]; exact hz)) ⟨ho, ho2, ?_⟩
  have qq : Quiet s { s with heap := s.heap.push { cls := .type "list", data := .seq (items ++ items2) } } := ⟨fun _ _ e => Heap.get?_push_of_some _ e, rfl, rfl⟩
  exact ⟨⟨_, items ++ items2, rfl, fun q => absurd (hown _ q).1 (Nat.lt_irrefl _), ⟨_, Heap.get?_push_size _ rfl⟩, by rw [Array.toList_append]; exact (Reps.app' rs rs2).quiet qq⟩, qq⟩
/-- list[-k] -/
theorem Sub.lstN {vs : List V} {k : Int} {v : V} (h0 : k < 0) (h1 : -(vs.length : Int) ≤ k) (hk : -(2 ^ 63) ≤ k) (hv : vs[(k + vs.length).toNat]? = some v) : Sub prog w top n (.lst vs) (.int k) v := by
  rintro A s own o i _ _ ⟨a, items, rfl, na, hL, rs⟩ ⟨t, rfl⟩
  obtain ⟨x, hx, rx⟩ := rs.at hv
  have e1 : items.size = vs.length := by rw [rs.length]; simp
  exact ⟨_, _, hL.isList.typeIs, slot_list_getitem.lookup, wpAny_getItem_list_neg hL.isList h0 (by rw [e1]; exact h1) hk (by rw [e1]; simpa using hx) ⟨rx, Quiet.refl _⟩⟩
theorem Unp.lst {top : Heap} {vs : List V} : Unp prog w top (.lst vs) vs := fun A s own x hh _ r => by
  obtain ⟨a, items, rfl, n, t, rs⟩ := r
  rw [rs.length, Array.length_toList]
  exact kun_itemsOf hh t.isList fun h' e => ⟨Quiet.ext e, rs.quiet (Quiet.ext e)⟩
/-- body if test else orelse -/
theorem W.ife {test body orelse : Expr} {pos : Pos} (h : WB prog w c env A test st (fun b st₁ => if b then W prog w c env A body st₁ Q else W prog w c env A orelse st₁ Q)) : W prog w c env A (.IfExp test body orelse pos) st Q := fun s a => by
  refine wpAny_IfExp (wpAny_mono (h s a) (fun b s₁ ⟨st₁, a₁, F, q⟩ => ?_) fun _ _ e => e)
  cases b with
  | true => exact wpAny_mono (q s₁ a₁) (fun _ _ p => Pst.from F p) fun _ _ e => e
  | false => exact wpAny_mono (q s₁ a₁) (fun _ _ p => Pst.from F p) fun _ _ e => e
end
end Mine
end PtLg48
section PtLg49
open PySem PySem.W PyProof.Rows PySem.SeqAt
namespace Mine
/-- a tuple of numbers -/
noncomputable def tI (ns : List Int) : V := .tup (ns.map V.int)
theorem all_eq {α : Type} [DecidableEq α] [BEq α] [LawfulBEq α] (ns ms : List α) : ((List.range (min ns.length ms.length)).all (fun j => ns[j]? == ms[j]?) && ns.length == ms.length) = decide (ns = ms) := by
  rw [Bool.eq_iff_iff]
  simp only [Bool.and_eq_true, List.all_eq_true, List.mem_range, beq_iff_eq, decide_eq_true_eq]
  constructor
  · rintro ⟨h, e⟩
    refine List.ext_getElem? fun j => ?_
    by_cases q : j < ns.length
    · exact h j (by (first | lia | omega))
    · rw [List.getElem?_eq_none (by (first | lia | omega)), List.getElem?_eq_none (by (first | lia | omega))]
  · rintro rfl
    exact ⟨fun _ _ => rfl, rfl⟩
section
variable {prog : Program} {w : World} {c : Cx} {env : Env} {A : Around} {st st' : St} {s s' : Shared} {Q : V → St → Prop} {top : Heap} {n : Nat} {own : List Addr}
theorem reps_len {ns : List Int} {items : Array Value} {h : Heap} (r : Reps h own (ns.map V.int) items.toList) : items.size = ns.length := by
  have := r.length; simp at this; exact this.symm
theorem reps_int {ns : List Int} {items : Array Value} {h : Heap} (r : Reps h own (ns.map V.int) items.toList) {j : Nat} (hj : j < items.size) : ∃ n t, ns[j]? = some n ∧ items[j] = .int n t := by
  have hl := reps_len r
  obtain ⟨x, hx, rx⟩ := r.at (i := j) (u := .int (ns[j]'(by (first | lia | omega)))) (by simp [show j < ns.length by (first | lia | omega)])
  obtain ⟨t, rfl⟩ := rx
  refine ⟨ns[j]'(by (first | lia | omega)), t, by simp [show j < ns.length by (first | lia | omega)], ?_⟩
  simp [hj] at hx
  exact hx
theorem ints_same {h : Heap} : ∀ {ns ms : List Int} {xs : List Value}, Reps h own (ns.map V.int) xs → Reps h own (ms.map V.int) xs → ns = ms
  | [], [], _, _, _ => rfl
  | [], m :: ms, _, r, r' => by cases r; obtain ⟨_, _, e, _⟩ := r'; cases e
  | n :: ns, [], _, r, r' => by cases r'; obtain ⟨_, _, e, _⟩ := r; cases e
  | n :: ns, m :: ms, _, r, r' => by
    obtain ⟨x, l, rfl, ⟨t, rfl⟩, r⟩ := r
    obtain ⟨y, l', e, ⟨u, rfl⟩, r'⟩ := r'
    cases e
    rw [ints_same r r']
theorem ints_eqs {ns ms : List Int} {items items2 : Array Value} {h : Heap} (r : Reps h own (ns.map V.int) items.toList) (r2 : Reps h own (ms.map V.int) items2.toList) :
    ∀ j (h1 : j < items.size) (h2 : j < items2.size), EqAt A s items[j] items2[j] (ns[j]? == ms[j]?) := fun j h1 h2 => by
  obtain ⟨n, t, e1, e2⟩ := reps_int r h1
  obtain ⟨m, u, e3, e4⟩ := reps_int r2 h2
  rw [e1, e2, e3, e4, show (some n == some m) = (n == m) from rfl]
  exact (MeetsSeq.EqGives.int n m t u).at A s
theorem tups_eq {ns ms : List Int} {x y : Value} (rx : Rep s.heap own (tI ns) x) (ry : Rep s.heap own (tI ms) y) (hu : A.units < cLine) : EqAt A s x y (decide (ns = ms)) := by
  obtain ⟨a, items, rfl, _, ha, rs⟩ := rx
  obtain ⟨b, items2, rfl, _, hb, rs2⟩ := ry
  by_cases e : a = b
  · subst e
    obtain ⟨o, e1, _, n, e2⟩ := ha
    obtain ⟨o', e1', _, n', e2'⟩ := hb
    rw [e1] at e1'; cases e1'; rw [e2] at e2'; cases e2'
    rw [decide_eq_true (ints_same rs rs2)]
    exact EqAt.same _
  · refine EqAt.of_refs e ?_
    have := RcAt.tuples (A := A) (s := s) ha hb hu (ints_eqs (A := A.in1) (s := s) rs rs2)
    rwa [reps_len rs, reps_len rs2, all_eq] at this
theorem Op.neT {ns ms : List Int} : Op prog w top n (fun xs => compareOp .NotEq (xs.getD 0 .none) (xs.getD 1 .none)) [tI ns, tI ms] (.bool (!decide (ns = ms))) := fun A s own xs hA ht hsz hown r => by
  obtain ⟨x, r', rfl, rx, y, r'', rfl, ry, rfl⟩ := r
  obtain ⟨a, items, rfl, _, ha, rs⟩ := rx
  obtain ⟨b, items2, rfl, _, hb, rs2⟩ := ry
  have hu : A.units < cLine := Nat.lt_of_le_of_lt (Nat.le_trans (Nat.le_add_right _ _) hA.units) (by decide)
  have := RcNeAt.tuples (A := A) (s := s) ha hb hu (ints_eqs (A := A.in1) (s := s) rs rs2)
  rw [reps_len rs, reps_len rs2, all_eq] at this
  exact this prog w _ _ ⟨rfl, Quiet.refl _⟩
theorem reps_tup {nss : List (List Int)} {items : Array Value} {h : Heap} (r : Reps h own (nss.map tI) items.toList) {j : Nat} (hj : j < items.size) : ∃ ns, nss[j]? = some ns ∧ Rep h own (tI ns) items[j] := by
  have hl : items.size = nss.length := by have := r.length; simp at this; exact this.symm
  obtain ⟨x, hx, rx⟩ := r.at (i := j) (u := tI (nss[j]'(by (first | lia | omega)))) (by simp [show j < nss.length by (first | lia | omega)])
  simp [hj] at hx
  subst hx
  exact ⟨nss[j]'(by (first | lia | omega)), by simp [show j < nss.length by (first | lia | omega)], rx⟩
/-- two lists of tuples of numbers -/
theorem Op.eqLT {nss mss : List (List Int)} : Op prog w top n (fun xs => compareOp .Eq (xs.getD 0 .none) (xs.getD 1 .none)) [.lst (nss.map tI), .lst (mss.map tI)] (.bool (decide (nss = mss))) := fun A s own xs hA ht hsz hown r => by
  obtain ⟨x, r', rfl, rx, y, r'', rfl, ry, rfl⟩ := r
  obtain ⟨a, items, rfl, _, ha, rs⟩ := rx
  obtain ⟨b, items2, rfl, _, hb, rs2⟩ := ry
  have hu0 : A.units ≤ 9000 := Nat.le_trans (Nat.le_add_right _ _) hA.units
  have hu : A.units < cLine := Nat.lt_of_le_of_lt hu0 (by decide)
  have hu1 : A.in1.units < cLine := Nat.lt_of_le_of_lt (Nat.succ_le_succ hu0) (by decide)
  have l1 : items.size = nss.length := by have := rs.length; simp at this; exact this.symm
  have l2 : items2.size = mss.length := by have := rs2.length; simp at this; exact this.symm
  by_cases e : nss.length = mss.length
  · refine eq_listAt (e := fun j => nss[j]? == mss[j]?) ha.isList hb.isList (by (first | lia | omega)) hu (fun j h1 h2 => ?_) ?_
    · obtain ⟨ns, e1, q1⟩ := reps_tup rs h1
      obtain ⟨ms, e2, q2⟩ := reps_tup rs2 h2
      rw [e1, e2]
      have := tups_eq (A := A.in1) q1 q2 hu1
      rwa [show (some ns == some ms) = decide (ns = ms) by rw [Bool.eq_iff_iff]; simp]
    · have := all_eq nss mss
      rw [e, Nat.min_self] at this
      simp only [beq_self_eq_true, Bool.and_true] at this
      rw [l1, e]
      refine ⟨?_, Quiet.refl _⟩
      show Value.bool _ = Value.bool _
      rw [this]
  · refine eq_list_lengthsAt ha.isList hb.isList (by simp; (first | lia | omega)) hu ⟨?_, Quiet.refl _⟩
    show Value.bool _ = Value.bool _
    rw [decide_eq_false fun q => e (congrArg List.length q)]
/-- k in a list of numbers -/
theorem Op.inI {ns : List Int} {k : Int} : Op prog w top n (fun xs => compareOp .In (xs.getD 0 .none) (xs.getD 1 .none)) [.int k, .lst (ns.map V.int)] (.bool (ns.any (· == k))) := fun A s own xs hA ht hsz hown r => by
  obtain ⟨x, r', rfl, ⟨t, rfl⟩, y, r'', rfl, ry, rfl⟩ := r
  obtain ⟨b, items, rfl, _, hb, rs⟩ := ry
  refine in_listAt (fun v => match v with | .int i _ => i == k | _ => false) hb.isList (fun y hy => ?_) ?_
  · obtain ⟨j, hj, rfl⟩ := Array.getElem_of_mem hy
    obtain ⟨m, u, e1, e2⟩ := reps_int rs hj
    rw [e2]
    exact (MeetsSeq.EqGives.int m k u t).at A.in1 s
  · refine ⟨?_, Quiet.refl _⟩
    show Value.bool _ = Value.bool _
    rw [← Array.any_toList]
    congr 1
    have : ∀ (ns : List Int) (xs : List Value), Reps s.heap own (ns.map V.int) xs → xs.any (fun v => match v with | .int i _ => i == k | _ => false) = ns.any (· == k) := by
      intro ns
      induction ns with
      | nil => intro xs r; cases r; rfl
      | cons m ns ih =>
        intro xs r
        obtain ⟨x, l, rfl, ⟨t, rfl⟩, r⟩ := r
        simp only [List.any_cons, ih l r]
    exact this ns _ rs
end
end Mine
end PtLg49
section PtS11
open PySem PySem.W PyProof.Rows
namespace Mine
open M (Blk Best)
section
variable {prog : Program} {w : World} {mb : Str → Option Value} {top : Heap}
/-- get_matching_blocks, called again -/
theorem gmb2_fn (T : Tp w mb top) {x d m : Addr} {f : Str → Option V} {z n : Nat} {mp : Int → Option V} {vs : List V} (hfm : f "matching_blocks" = some (.lst vs)) :
    Fc prog w top 14 (.ref 203) [.ref x] [(x, .inst 242 d), (d, .attrs f z), (m, .map mp n)]
      (fun u objs => u = .lst vs ∧ objs = [(x, .inst 242 d), (d, .attrs f z), (m, .map mp n)]) := by
  refine Fc.fn0 (n := 13) ["self"] (T.k 203 _ (by rfl)) rfl rfl (codeRec_of T.k (by rfl)) T.lim rfl ?_ (by decide) (by decide) (by decide) ?_ rfl rfl rfl
  · exact lenS fun a => len0 rfl
  · intro c L A hA hc
    subst hc
    refine WS.cons (WX.expr (W.str ?_))
    refine WS.cons (WX.ifs (WB.cmp hA (W.attr T.k (smOk _) (W.loc rfl ⟨x, d, _, _, _, rfl, .head _, .tail _ (.head _), hfm, rfl, W.none ⟨_, Op.isntNone (b := false) rfl, ?_⟩⟩))))
    rw [if_pos (by decide)]
    refine WS.cons (WX.ret (W.attr T.k (smOk _) (W.loc rfl ⟨x, d, _, _, _, rfl, .head _, .tail _ (.head _), hfm, rfl, ?_⟩)))
    exact ⟨rfl, rfl⟩
end
end Mine
end PtS11
section PtMg
namespace Mine
/-- how far two lists begin alike -/
noncomputable def cpl : List Int → List Int → Nat
  | a :: as, b :: bs => if a = b then cpl as bs + 1 else 0
  | _, _ => 0
theorem cpl_lt : ∀ (xs ys : List Int) (k : Nat), k ≤ cpl xs ys → (k < cpl xs ys ↔ ∃ a, xs[k]? = some a ∧ ys[k]? = some a)
  | [], ys, k, h => by simp [cpl] at h ⊢
  | x :: xs, [], k, h => by simp [cpl] at h ⊢
  | x :: xs, y :: ys, k, h => by
    unfold cpl at h ⊢
    by_cases e : x = y
    · rw [if_pos e] at h ⊢
      cases k with
      | zero => simp [e]
      | succ k => simp only [Nat.add_lt_add_iff_right, List.getElem?_cons_succ]; exact cpl_lt xs ys k (by (first | lia | omega))
    · rw [if_neg e] at h ⊢
      have : k = 0 := by (first | lia | omega)
      subst this
      simp [Ne.symm e]
noncomputable def runLen (one other : List Int) (i j ahi bhi : Nat) : Nat := cpl ((one.take ahi).drop i) ((other.take bhi).drop j)
theorem runLen_lt {one other : List Int} {i j ahi bhi k : Nat} (h : k ≤ runLen one other i j ahi bhi) : k < runLen one other i j ahi bhi ↔ i + k < ahi ∧ j + k < bhi ∧ ∃ a, one[i + k]? = some a ∧ other[j + k]? = some a := by
  rw [show (k < runLen one other i j ahi bhi) = (k < cpl ((one.take ahi).drop i) ((other.take bhi).drop j)) from rfl, cpl_lt _ _ _ h]
  simp only [List.getElem?_drop, List.getElem?_take]
  constructor
  · rintro ⟨a, h1, h2⟩
    split at h1
    · split at h2
      · exact ⟨by assumption, by assumption, a, h1, h2⟩
      · cases h2
    · cases h1
  · rintro ⟨h1, h2, a, h3, h4⟩
    exact ⟨a, by rw [if_pos h1]; exact h3, by rw [if_pos h2]; exact h4⟩
noncomputable def stepJ (one other : List Int) (i ahi bhi : Nat) (b : M.T3) (j : Nat) : M.T3 := if b.2.2 < runLen one other i j ahi bhi then (i, j, runLen one other i j ahi bhi) else b
noncomputable def stepI (one other : List Int) (ahi blo bhi : Nat) (b : M.T3) (i : Nat) : M.T3 := (List.range' blo (bhi - blo)).foldl (stepJ one other i ahi bhi) b
noncomputable def longest (one other : List Int) (alo ahi blo bhi : Nat) : M.T3 := (List.range' alo (ahi - alo)).foldl (stepI one other ahi blo bhi) (alo, blo, 0)
theorem foldl_take_succ {α β : Type} (f : β → α → β) (l : List α) (b : β) (k : Nat) (a : α) (h : l[k]? = some a) : (l.take (k + 1)).foldl f b = f ((l.take k).foldl f b) a := by
  rw [List.take_add_one, h]; simp
open M (Best Run E)
theorem fold_range {β : Type} {f : β → Nat → β} {P : Nat → β → Prop} {s : Nat} {b : β} (h0 : P 0 b) : ∀ n, (∀ k d, k < n → P k d → P (k + 1) (f d (s + k))) → P n ((List.range' s n).foldl f b)
  | 0, _ => h0
  | n + 1, h => by
    rw [show List.range' s (n + 1) = List.range' s n ++ [s + n] by simpa using List.range'_concat (step := 1) (s := s) (n := n), List.foldl_append]
    exact h n _ (Nat.lt_succ_self _) (fold_range h0 n fun k d hk => h k d (Nat.lt_succ_of_lt hk))
variable {one other : List Int} {alo ahi blo bhi : Nat}
theorem runLen_ge {i j k : Nat} (h1 : i + k ≤ ahi) (h2 : j + k ≤ bhi) (h : ∀ t, t < k → E one other (i + t) (j + t)) : k ≤ runLen one other i j ahi bhi := by
  induction k with
  | zero => exact Nat.zero_le _
  | succ k ih =>
    have := ih (by (first | lia | omega)) (by (first | lia | omega)) fun t ht => h t (by (first | lia | omega))
    have e := h k (Nat.lt_succ_self _)
    refine (runLen_lt this).mpr ⟨by (first | lia | omega), by (first | lia | omega), one[i + k]'e.1, by simp [e.1], ?_⟩
    exact e.2.symm.trans (by simp [e.1])
theorem runLen_run {i j : Nat} : ∀ k, k ≤ runLen one other i j ahi bhi → (0 < k → i + k ≤ ahi ∧ j + k ≤ bhi) ∧ ∀ t, t < k → E one other (i + t) (j + t)
  | 0, _ => ⟨fun h => by (first | lia | omega), fun t h => by (first | lia | omega)⟩
  | k + 1, h => by
    obtain ⟨q1, q2⟩ := runLen_run (i := i) (j := j) k (by (first | lia | omega))
    obtain ⟨h1, h2, a, h3, h4⟩ := (runLen_lt (k := k) (by (first | lia | omega))).mp h
    refine ⟨fun _ => ⟨by (first | lia | omega), by (first | lia | omega)⟩, fun t ht => ?_⟩
    by_cases e : t = k
    · subst e; exact ⟨(List.getElem?_eq_some_iff.mp h3).1, h3.trans h4.symm⟩
    · exact q2 t (by (first | lia | omega))
noncomputable def Inv (one other : List Int) (alo ahi blo bhi : Nat) (S : Nat → Nat → Prop) (d : M.T3) : Prop :=
  (d.2.2 = 0 → d.1 = alo ∧ d.2.1 = blo) ∧ (0 < d.2.2 → alo ≤ d.1 ∧ blo ≤ d.2.1 ∧ runLen one other d.1 d.2.1 ahi bhi = d.2.2) ∧ (∀ i j, alo ≤ i → i < ahi → blo ≤ j → j < bhi → S i j → 0 < runLen one other i j ahi bhi → runLen one other i j ahi bhi < d.2.2 ∨ (runLen one other i j ahi bhi = d.2.2 ∧ (d.1 < i ∨ (d.1 = i ∧ d.2.1 ≤ j)))) ∧ (0 < d.2.2 → S d.1 d.2.1)
theorem Inv.step {S S' : Nat → Nat → Prop} {d : M.T3} {i j : Nat} (h : Inv one other alo ahi blo bhi S d) (h1 : alo ≤ i) (h2 : blo ≤ j) (hS : ∀ x y, S x y → x < i ∨ (x = i ∧ y < j)) (hS' : ∀ x y, alo ≤ x → blo ≤ y → y < bhi → S' x y → S x y ∨ (x = i ∧ y = j)) (k1 : ∀ x y, S x y → S' x y) (k2 : S' i j) :
    Inv one other alo ahi blo bhi S' (stepJ one other i ahi bhi d j) := by
  obtain ⟨z1, z2, z3, z4⟩ := h
  unfold stepJ
  split
  · rename_i lt
    refine ⟨fun q => by dsimp only at q; (first | lia | omega), fun _ => ⟨h1, h2, rfl⟩, fun x y a1 a2 a3 a4 s p => ?_, fun _ => k2⟩
    dsimp only
    rcases hS' x y a1 a3 a4 s with s | ⟨rfl, rfl⟩
    · have := z3 x y a1 a2 a3 a4 s p; (first | lia | omega)
    · exact .inr ⟨rfl, .inr ⟨rfl, Nat.le_refl _⟩⟩
  · rename_i ge
    refine ⟨z1, z2, fun x y a1 a2 a3 a4 s p => ?_, fun q => k1 _ _ (z4 q)⟩
    rcases hS' x y a1 a3 a4 s with s | ⟨rfl, rfl⟩
    · exact z3 x y a1 a2 a3 a4 s p
    · by_cases e : runLen one other x y ahi bhi = d.2.2
      · have := hS _ _ (z4 (by (first | lia | omega))); exact .inr ⟨e, by (first | lia | omega)⟩
      · exact .inl (by (first | lia | omega))
theorem Inv.ext {S S' : Nat → Nat → Prop} {d : M.T3} (h : Inv one other alo ahi blo bhi S d) (k : ∀ x y, blo ≤ y → y < bhi → S' x y → S x y) (k' : 0 < d.2.2 → S d.1 d.2.1 → S' d.1 d.2.1) : Inv one other alo ahi blo bhi S' d :=
  ⟨h.1, h.2.1, fun x y a1 a2 a3 a4 s p => h.2.2.1 x y a1 a2 a3 a4 (k x y a3 a4 s) p, fun q => k' q (h.2.2.2 q)⟩
theorem longest_best (h1 : alo ≤ ahi) (h3 : blo ≤ bhi) : Best one other alo ahi blo bhi (longest one other alo ahi blo bhi).1 (longest one other alo ahi blo bhi).2.1 (longest one other alo ahi blo bhi).2.2 := by
  have key : Inv one other alo ahi blo bhi (fun x y => x < alo + (ahi - alo) ∧ y < bhi) (longest one other alo ahi blo bhi) := by
    unfold longest
    refine fold_range (P := fun k d => Inv one other alo ahi blo bhi (fun x y => x < alo + k ∧ y < bhi) d) ⟨fun _ => ⟨rfl, rfl⟩, fun h => by simp at h, fun x y a1 a2 a3 a4 s => by (first | lia | omega), fun h => by simp at h⟩ _ fun k d hk hI => ?_
    unfold stepI
    have := fold_range (f := stepJ one other (alo + k) ahi bhi) (s := blo) (P := fun m d => Inv one other alo ahi blo bhi (fun x y => (x < alo + k ∧ y < bhi) ∨ (x = alo + k ∧ y < blo + m ∧ y < bhi)) d) (b := d) (hI.ext (fun x y a b s => by (first | lia | omega)) fun _ s => .inl s) (bhi - blo) fun m d hm hJ => by
      refine hJ.step (by (first | lia | omega)) (by (first | lia | omega)) (fun x y s => by (first | lia | omega)) (fun x y _ _ _ s => by (first | lia | omega)) (fun x y s => by (first | lia | omega)) (by (first | lia | omega))
    exact this.ext (fun x y a b s => by (first | lia | omega)) fun _ s => by (first | lia | omega)
  obtain ⟨z1, z2, z3, z4⟩ := key
  generalize longest one other alo ahi blo bhi = d at *
  refine ⟨?_, fun i j k r hk => ?_, z1⟩
  · rcases Nat.eq_zero_or_pos d.2.2 with q | q
    · obtain ⟨e1, e2⟩ := z1 q
      exact ⟨by (first | lia | omega), by (first | lia | omega), by (first | lia | omega), by (first | lia | omega), fun t ht => by (first | lia | omega)⟩
    · obtain ⟨a1, a2, a3⟩ := z2 q
      obtain ⟨b1, b2⟩ := runLen_run (one := one) (other := other) (ahi := ahi) (bhi := bhi) d.2.2 (by rw [a3]; exact Nat.le_refl _)
      exact ⟨a1, (b1 q).1, a2, (b1 q).2, b2⟩
  · obtain ⟨r1, r2, r3, r4, r5⟩ := r
    have := runLen_ge r2 r4 r5
    have := z3 i j r1 (by (first | lia | omega)) r3 (by (first | lia | omega)) ⟨by (first | lia | omega), by (first | lia | omega)⟩ (by (first | lia | omega))
    (first | lia | omega)
end Mine
end PtMg
section PtT10b
open PySem PySem.W PyProof.Rows
namespace Mine
theorem get253 {w : World} {top : Heap} (k : (KK w.params).In top) : top.get? 253 = some (o253 w.params) := k 253 _ (by rfl)
section
variable {prog : Program} {w : World} {mb : Str → Option Value} {top : Heap}
theorem longest_op (T : Tp w mb top) {one other : List Int} {alo ahi blo bhi : Nat} (h1 : alo ≤ ahi) (h2 : ahi ≤ one.length) (h3 : blo ≤ bhi) (h4 : bhi ≤ other.length) (z1 : one.length ≤ sizeLine) (z2 : other.length ≤ sizeLine) :
    Op prog w top 5 (fun xs => PySem.call (.ref 253) xs) [iL one, iL other, .int alo, .int ahi, .int blo, .int bhi] (t3 (longest one other alo ahi blo bhi)) := by
  refine Op.fn0 (n := 4) ["one", "other", "alo", "ahi", "blo", "bhi"] (get253 T.k) rfl rfl (codeRec_of T.k (by rfl)) T.lim rfl ?_ (by decide) (by decide) (by decide) ?_ rfl rfl rfl
  · exact lenS fun a => lenS fun b => lenS fun c => lenS fun d => lenS fun e => lenS fun f => len0 rfl
  · intro c L A hA hc
    subst hc
    refine WS.cons (WX.assign (W.tup (WL.cons (W.loc rfl (WL.cons (W.loc rfl (WL.cons (W.int (WL.nil ⟨Nat.le_of_ble_eq_true rfl, ?_⟩)))))))))
    dsimp only
    refine WS.cons (WX.forR (fun k st => Le ⟨[("one", iL one), ("other", iL other), ("ahi", .int ahi), ("blo", .int blo), ("bhi", .int bhi), ("best", t3 (((List.range' alo (ahi - alo)).take k).foldl (stepI one other ahi blo bhi) (alo, blo, 0)))], []⟩ st) hA.handled
      (W.call hA (W.blt T ⟨_, rfl, Kpt.type, WL.cons (W.loc rfl (WL.cons (W.loc rfl (WL.nil ⟨_, Op.range2, _, _, _, rfl, small_rng (by (first | lia | omega)) (by (first | lia | omega)), ?_, ?_, ?_⟩))))⟩)))
    · exact (Le.of rfl rfl)
    · intro k st₂ u hu hj
      obtain ⟨hk, rfl⟩ := rngV_get h1 hu
      refine WS.le hj.set ?_
      refine WS.cons (WX.forR (fun m st => Le ⟨[("one", iL one), ("other", iL other), ("ahi", .int ahi), ("blo", .int blo), ("bhi", .int bhi), ("i", .int ((alo + k : Nat) : Int)), ("best", t3 (((List.range' blo (bhi - blo)).take m).foldl (stepJ one other (alo + k) ahi bhi) (((List.range' alo (ahi - alo)).take k).foldl (stepI one other ahi blo bhi) (alo, blo, 0))))], []⟩ st) hA.handled
        (W.call hA (W.blt T ⟨_, rfl, Kpt.type, WL.cons (W.loc rfl (WL.cons (W.loc rfl (WL.nil ⟨_, Op.range2, _, _, _, rfl, small_rng (by (first | lia | omega)) (by (first | lia | omega)), ?_, ?_, ?_⟩))))⟩)))
      · exact (Le.of rfl rfl)
      · intro m st₃ u hu hj
        obtain ⟨hm, rfl⟩ := rngV_get h3 hu
        refine WS.le hj.set ?_
        generalize hB : ((List.range' blo (bhi - blo)).take m).foldl (stepJ one other (alo + k) ahi bhi) (((List.range' alo (ahi - alo)).take k).foldl (stepI one other ahi blo bhi) (alo, blo, 0)) = B
        refine WS.cons (WX.assign (W.int ?_))
        dsimp only
        refine WS.seq (fun st => Le ⟨[("one", iL one), ("other", iL other), ("ahi", .int ahi), ("blo", .int blo), ("bhi", .int bhi), ("i", .int ((alo + k : Nat) : Int)), ("j", .int ((blo + m : Nat) : Int)), ("size", .int (runLen one other (alo + k) (blo + m) ahi bhi : Nat)), ("best", t3 B)], []⟩ st) (WX.while (fun n st => ∃ z, z ≤ runLen one other (alo + k) (blo + m) ahi bhi ∧ n = runLen one other (alo + k) (blo + m) ahi bhi - z ∧
          Le ⟨[("one", iL one), ("other", iL other), ("ahi", .int ahi), ("blo", .int blo), ("bhi", .int bhi), ("i", .int ((alo + k : Nat) : Int)), ("j", .int ((blo + m : Nat) : Int)), ("size", .int (z : Nat)), ("best", t3 B)], []⟩ st) _ ⟨0, Nat.zero_le _, rfl, ?_⟩ ?_) ?_
        · exact (Le.of rfl rfl)
        · rintro n st₄ ⟨z, hz, rfl, hl⟩
          refine WB.le hl ?_
          have key := runLen_lt hz
          have fin : ¬ (z < runLen one other (alo + k) (blo + m) ahi bhi) → Le ⟨[("one", iL one), ("other", iL other), ("ahi", .int ahi), ("blo", .int blo), ("bhi", .int bhi), ("i", .int ((alo + k : Nat) : Int)), ("j", .int ((blo + m : Nat) : Int)), ("size", .int (runLen one other (alo + k) (blo + m) ahi bhi : Nat)), ("best", t3 B)], []⟩ ⟨[("one", iL one), ("other", iL other), ("ahi", .int ahi), ("blo", .int blo), ("bhi", .int bhi), ("i", .int ((alo + k : Nat) : Int)), ("j", .int ((blo + m : Nat) : Int)), ("size", .int (z : Nat)), ("best", t3 B)], []⟩ := fun hn => by
            rw [show runLen one other (alo + k) (blo + m) ahi bhi = z by (first | lia | omega)]
            exact (Le.of rfl rfl)
          refine WB.and (WB.cmp hA (W.bin hA (W.loc rfl (W.loc rfl ⟨_, Op.add, W.loc rfl ⟨_, Op.lt, ?_⟩⟩))))
          split
          · rename_i q1
            refine WB.and (WB.cmp hA (W.bin hA (W.loc rfl (W.loc rfl ⟨_, Op.add, W.loc rfl ⟨_, Op.lt, ?_⟩⟩))))
            split
            · rename_i q2
              simp only [decide_eq_true_eq] at q1 q2
              have g1 : alo + k + z < one.length := by (first | lia | omega)
              have g2 : blo + m + z < other.length := by (first | lia | omega)
              have hs : sizeLine = 16777216 := rfl
              refine WB.and (WB.cmp hA (W.sub hA (W.loc rfl (W.bin hA (W.loc rfl (W.loc rfl ⟨_, Op.add, _, Sub.lst (v := .int one[alo + k + z]) (by (first | lia | omega)) (by (first | lia | omega)) (iL_get g1 (by (first | lia | omega))), W.sub hA (W.loc rfl (W.bin hA (W.loc rfl (W.loc rfl ⟨_, Op.add, _, Sub.lst (v := .int other[blo + m + z]) (by (first | lia | omega)) (by (first | lia | omega)) (iL_get g2 (by (first | lia | omega))), _, Op.eq, ?_⟩))))⟩))))))
              split
              · rename_i q3
                refine WB.and_nil ?_
                rw [if_pos rfl]
                refine WS.cons (WX.aug hA rfl (W.int ⟨_, Op.iadd, ?_⟩))
                refine WS.nil ?_
                dsimp only
                have lt : z < runLen one other (alo + k) (blo + m) ahi bhi := key.mpr ⟨by (first | lia | omega), by (first | lia | omega), one[alo + k + z], List.getElem?_eq_getElem g1, by rw [List.getElem?_eq_getElem g2]; simp at q3; rw [q3]⟩
                exact ⟨_, by (first | lia | omega), z + 1, lt, rfl, (Le.of rfl rfl)⟩
              · rename_i q3
                rw [if_neg (by decide)]
                refine fin fun lt => q3 ?_
                obtain ⟨_, _, a, e1, e2⟩ := key.mp lt
                rw [List.getElem?_eq_getElem g1] at e1; rw [List.getElem?_eq_getElem g2] at e2
                simp [Option.some.inj (e1.trans e2.symm)]
            · rename_i q2
              rw [if_neg (by decide)]
              refine fin fun lt => q2 ?_
              have := key.mp lt
              simp; (first | lia | omega)
          · rename_i q1
            rw [if_neg (by decide)]
            refine fin fun lt => q1 ?_
            have := key.mp lt
            simp; (first | lia | omega)
        · intro st₄ hl
          refine WS.le hl ?_
          refine WS.cons (WX.ifs (WB.cmp hA (W.loc rfl (W.sub hA (W.loc rfl (W.int ⟨.int (B.2.2 : Nat), Sub.tup (j := 2) (by decide) (by decide) rfl rfl, _, Op.gt, ?_⟩))))))
          split
          · rename_i q
            refine WS.cons (WX.assign (W.tup (WL.cons (W.loc rfl (WL.cons (W.loc rfl (WL.cons (W.loc rfl (WL.nil ⟨Nat.le_of_ble_eq_true rfl, ?_⟩)))))))))
            refine WS.nil (WS.nil ?_)
            dsimp only
            rw [foldl_take_succ _ _ _ _ (blo + m) (by simp [List.getElem?_range', hm]), hB, stepJ, if_pos (by simpa using q)]
            exact (Le.of rfl rfl)
          · rename_i q
            refine WS.nil (WS.nil ?_)
            dsimp only
            rw [foldl_take_succ _ _ _ _ (blo + m) (by simp [List.getElem?_range', hm]), hB, stepJ, if_neg (by simpa using q)]
            exact (Le.of rfl rfl)
      · intro st₃ hj
        dsimp only
        refine WS.le hj ?_
        refine WS.nil ?_
        dsimp only
        rw [rngV_len h3, List.take_of_length_le (l := List.range' blo (bhi - blo)) (by simp), foldl_take_succ _ _ _ _ (alo + k) (by simp [List.getElem?_range', hk])]
        exact (Le.of rfl rfl)
    · intro st₂ hj
      dsimp only
      refine WS.le hj ?_
      refine WS.cons (WX.ret (W.loc rfl ?_))
      dsimp only [Fl.val]
      rw [rngV_len h1, List.take_of_length_le (by simp)]
      rfl
end
end Mine
end PtT10b
section PtLg50
open PySem PySem.W PyProof.Rows
namespace Mine
section
variable {prog : Program} {w : World} {c : Cx} {env : Env} {A : Around} {st st' : St} {s s' : Shared} {Q : V → St → Prop} {top : Heap} {n : Nat}
/-- -x -/
theorem W.neg {x : Expr} {pos : Pos} (h : W prog w c env A x st (fun v st₁ => ∃ i, v = .int i ∧ Q (.int (-i)) st₁)) : W prog w c env A (.UnaryOp .USub x pos) st Q := fun s a => by
  refine wpAny_UnaryOp (wpAny_mono (h s a) (fun x s₁ p => ?_) fun _ _ e => e)
  obtain ⟨st₁, a₁, F, v, r, i, rfl, q⟩ := p
  obtain ⟨t, rfl⟩ := r
  exact neg_int ⟨st₁, a₁.quiet (Quiet.toks _ _), F.trans (Fol.quiet (Quiet.toks _ _) _ _), .int (-i), ⟨_, rfl⟩, q⟩
theorem pick_upto (vs : List V) (b : Nat) : pickV vs Option.none (some (b : Int)) = vs.take b := by
  unfold pickV
  simp only [Option.elim, clipAt_nat, List.drop_zero, Nat.sub_zero]
  rcases Nat.le_total b vs.length with h | h
  · rw [Nat.min_eq_left h]
  · rw [Nat.min_eq_right h, List.take_of_length_le (Nat.le_refl _), List.take_of_length_le h]
theorem pick_from (vs : List V) (a : Nat) : pickV vs (some (a : Int)) Option.none = vs.drop a := by
  unfold pickV
  simp only [Option.elim, clipAt_nat]
  rcases Nat.le_total a vs.length with h | h
  · rw [Nat.min_eq_left h, List.take_of_length_le (by simp)]
  · rw [Nat.min_eq_right h, List.drop_of_length_le (Nat.le_refl _), List.drop_of_length_le h]; simp
theorem pick_mid (vs : List V) (a b : Nat) (h : b ≤ vs.length) (h' : a ≤ b) : pickV vs (some (a : Int)) (some (b : Int)) = (vs.drop a).take (b - a) := by
  unfold pickV
  simp only [Option.elim, clipAt_nat]
  rw [Nat.min_eq_left h, Nat.min_eq_left (Nat.le_trans h' h)]
theorem pick_but (vs : List V) (a k : Nat) (hk : 1 ≤ k) (h : a ≤ vs.length) : pickV vs (some (a : Int)) (some (-(k : Int))) = (vs.drop a).take (vs.length - k - a) := by
  unfold pickV
  simp only [Option.elim, clipAt_nat, clipAt_neg _ _ hk]
  rw [Nat.min_eq_left h]
end
end Mine
end PtLg50
section PtMl
namespace Mine.M
variable {a b : List Int}
noncomputable def upd (d t : T3) : T3 := if d.2.2 < t.2.2 then t else d
noncomputable def due (d : T3) (l : List T3) : T3 := l.foldl upd d
theorem due_lt {k : Nat} : ∀ (l : List T3) (d : T3), d.2.2 < k → (∀ t ∈ l, t.2.2 < k) → (due d l).2.2 < k
  | [], d, h, _ => h
  | t :: l, d, h, hl => due_lt l (upd d t) (by unfold upd; split; exact hl t (.head _); exact h) fun u hu => hl u (.tail _ hu)
theorem due_le : ∀ (l : List T3) (d : T3), (∀ t ∈ l, t.2.2 ≤ d.2.2) → due d l = d
  | [], d, _ => rfl
  | t :: l, d, h => by
    have : upd d t = d := if_neg (Nat.not_lt.mpr (h t (.head _)))
    show due (upd d t) l = d
    rw [this]; exact due_le l d fun u hu => h u (.tail _ hu)
theorem cut {α : Type} : ∀ {A : List α} {m : α} {B P : List α} {y : α} {Z : List α}, A ++ m :: B = P ++ y :: Z →
    (∃ B', P = A ++ m :: B' ∧ B = B' ++ y :: Z) ∨ (P = A ∧ y = m ∧ Z = B) ∨ (∃ A', A = P ++ y :: A' ∧ Z = A' ++ m :: B)
  | [], m, B, [], y, Z, h => by simp at h; exact .inr (.inl ⟨rfl, h.1.symm, h.2.symm⟩)
  | [], m, B, p :: P, y, Z, h => by
    simp at h; exact .inl ⟨P, by simp [h.1], h.2⟩
  | a :: A, m, B, [], y, Z, h => by
    simp at h; exact .inr (.inr ⟨A, by simp [h.1], h.2.symm⟩)
  | a :: A, m, B, p :: P, y, Z, h => by
    simp only [List.cons_append, List.cons.injEq] at h
    obtain ⟨rfl, h⟩ := h
    rcases cut h with ⟨B', rfl, rfl⟩ | ⟨rfl, rfl, rfl⟩ | ⟨A', rfl, rfl⟩
    · exact .inl ⟨B', rfl, rfl⟩
    · exact .inr (.inl ⟨rfl, rfl, rfl⟩)
    · exact .inr (.inr ⟨A', rfl, rfl⟩)
theorem best_none {alo ahi blo bhi : Nat} (h : ¬ (alo < ahi ∧ blo < bhi)) (h1 : alo ≤ ahi) (h2 : blo ≤ bhi) : Best a b alo ahi blo bhi alo blo 0 :=
  ⟨⟨Nat.le_refl _, h1, Nat.le_refl _, h2, fun t ht => by (first | lia | omega)⟩, fun i j k r hk => by obtain ⟨r1, r2, r3, r4, _⟩ := r; (first | lia | omega), fun _ => ⟨rfl, rfl⟩⟩
/-- between any two of the marks: the first longest of the blocks between is the first longest common run there -/
theorem Blk.law {alo ahi blo bhi : Nat} {L : List T3} (h : Blk a b alo ahi blo bhi L) : alo ≤ ahi → blo ≤ bhi → ∀ X x Y y Z, (alo, blo, 0) :: (L ++ [(ahi, bhi, 0)]) = X ++ x :: (Y ++ y :: Z) →
    Best a b (x.1 + x.2.2) y.1 (x.2.1 + x.2.2) y.2.1 (due (x.1 + x.2.2, x.2.1 + x.2.2, 0) Y).1 (due (x.1 + x.2.2, x.2.1 + x.2.2, 0) Y).2.1 (due (x.1 + x.2.2, x.2.1 + x.2.2, 0) Y).2.2 := by
  induction h with
  | @none alo ahi blo bhi i j B =>
    intro _ _ X x Y y Z e
    obtain ⟨rfl, rfl⟩ := B.zero rfl
    have hl := congrArg List.length e
    simp at hl
    match X, Y, Z, hl with
    | [], [], [], _ => simp at e; obtain ⟨rfl, rfl⟩ := e; exact B
    | _ :: _, _, _, hl => simp at hl; (first | lia | omega)
    | [], _ :: _, _, hl => simp at hl; (first | lia | omega)
    | [], [], _ :: _, hl => simp at hl
  | @some alo ahi blo bhi i j k L₁ L₂ B hk h1 h1' h2 h2' ih1 ih2 =>
    intro hA hB X x Y y Z e
    have tot : Blk a b alo ahi blo bhi (L₁ ++ (i, j, k) :: L₂) := .some B hk h1 h1' h2 h2'
    obtain ⟨r1, r2, r3, r4, r5⟩ := id B.run
    have e' : ((alo, blo, 0) :: L₁) ++ (i, j, k) :: (L₂ ++ [(ahi, bhi, 0)]) = (X ++ x :: Y) ++ y :: Z := by simpa using e
    rcases cut e' with ⟨B', hP, hB'⟩ | ⟨hP, rfl, _⟩ | ⟨A', hP, _⟩
    · rcases cut hP.symm with ⟨B'', _, rfl⟩ | ⟨_, rfl, rfl⟩ | ⟨A', hA', rfl⟩
      · by_cases c : i + k < ahi ∧ j + k < bhi
        · exact ih2 c (by (first | lia | omega)) (by (first | lia | omega)) ((i + k, j + k, 0) :: B'') x Y y Z (by simp [hB'])
        · rw [h2' c] at hB'
          have hl := congrArg List.length hB'
          simp at hl; (first | lia | omega)
      · by_cases c : i + k < ahi ∧ j + k < bhi
        · exact ih2 c (by (first | lia | omega)) (by (first | lia | omega)) [] (i + k, j + k, 0) Y y Z (by simp [hB'])
        · rw [h2' c] at hB'
          have hl := congrArg List.length hB'
          match Y, Z, hl, hB' with
          | [], [], _, hB' => simp at hB'; subst hB'; exact best_none c (by dsimp only; (first | lia | omega)) (by dsimp only; (first | lia | omega))
          | _ :: _, _, hl, _ => simp at hl
          | [], _ :: _, hl, _ => simp at hl
      · -- the root between
        have pw := tot.ahead
        have rn := tot.runs
        have ins := tot.inside
        have hx : alo ≤ x.1 + x.2.2 ∧ blo ≤ x.2.1 + x.2.2 ∧ Ahead x (i, j, k) ∧ ∀ t ∈ A', t ∈ L₁ ∧ Ahead x t := by
          cases X with
          | nil =>
            simp only [List.nil_append, List.cons.injEq] at hA'
            obtain ⟨rfl, rfl⟩ := hA'
            exact ⟨by simp, by simp, ⟨r1, r3⟩, fun t ht => ⟨ht, by have := ins t (by simp [ht]); exact ⟨this.1, this.2.2.1⟩⟩⟩
          | cons z X =>
            simp only [List.cons_append, List.cons.injEq] at hA'
            obtain ⟨_, rfl⟩ := hA'
            have ix := ins x (by simp)
            obtain ⟨p1, p2, p3⟩ := List.pairwise_append.mp pw
            refine ⟨Nat.le_trans ix.1 (by (first | lia | omega)), Nat.le_trans ix.2.2.1 (by (first | lia | omega)), p3 x (by simp) _ (.head _), fun t ht => ⟨by simp [ht], ?_⟩⟩
            exact (List.pairwise_cons.mp (List.pairwise_append.mp p1).2.1).1 t ht
        have hy : y.1 ≤ ahi ∧ y.2.1 ≤ bhi ∧ Ahead (i, j, k) y ∧ ∀ t ∈ B', t ∈ L₂ ∧ Ahead t y := by
          rcases List.eq_nil_or_concat Z with rfl | ⟨Z', z, rfl⟩
          · have q := List.append_inj' (s₁ := L₂) (t₁ := [(ahi, bhi, 0)]) (s₂ := B') (t₂ := [y]) hB' rfl
            obtain ⟨rfl, q⟩ := q
            simp at q; subst q
            exact ⟨by simp, by simp, ⟨r2, r4⟩, fun t ht => ⟨ht, by have := ins t (by simp [ht]); exact ⟨this.2.1, this.2.2.2.1⟩⟩⟩
          · have q := List.append_inj' (s₁ := L₂) (t₁ := [(ahi, bhi, 0)]) (s₂ := B' ++ y :: Z') (t₂ := [z]) (by simpa using hB') rfl
            obtain ⟨rfl, _⟩ := q
            have iy := ins y (by simp)
            obtain ⟨p1, p2, p3⟩ := List.pairwise_append.mp pw
            obtain ⟨p4, p5⟩ := List.pairwise_cons.mp p2
            refine ⟨Nat.le_trans (by (first | lia | omega)) iy.2.1, Nat.le_trans (by (first | lia | omega)) iy.2.2.2.1, p4 y (by simp), fun t ht => ⟨by simp [ht], ?_⟩⟩
            exact (List.pairwise_append.mp p5).2.2 t ht y (.head _)
        obtain ⟨x1, x2, x3, x4⟩ := hx
        obtain ⟨y1, y2, y3, y4⟩ := hy
        have hd : due (x.1 + x.2.2, x.2.1 + x.2.2, 0) (A' ++ (i, j, k) :: B') = (i, j, k) := by
          unfold due
          rw [List.foldl_append, List.foldl_cons]
          have d1 : (due (x.1 + x.2.2, x.2.1 + x.2.2, 0) A').2.2 < k := due_lt _ _ hk fun t ht => by
            have hm : t ∈ L₁ ++ (i, j, k) :: L₂ := by simp [(x4 t ht).1]
            have ht' := (ins t hm).2.2.2.2
            have ha : Ahead t (i, j, k) := (List.pairwise_append.mp pw).2.2 t (x4 t ht).1 _ (.head _)
            have := B.most _ _ _ (rn t hm) ht'
            have h' := ha.1
            dsimp only at h'
            (first | lia | omega)
          have d2 : upd (due (x.1 + x.2.2, x.2.1 + x.2.2, 0) A') (i, j, k) = (i, j, k) := if_pos d1
          show due (upd (due (x.1 + x.2.2, x.2.1 + x.2.2, 0) A') (i, j, k)) B' = _
          rw [d2]
          refine due_le _ _ fun t ht => ?_
          have hm : t ∈ L₁ ++ (i, j, k) :: L₂ := by simp [(y4 t ht).1]
          have := B.most _ _ _ (rn t hm) (ins t hm).2.2.2.2
          dsimp only
          (first | lia | omega)
        rw [hd]
        refine ⟨⟨x3.1, y3.1, x3.2, y3.2, r5⟩, fun i' j' k' r hk' => B.most i' j' k' ⟨Nat.le_trans x1 r.1, Nat.le_trans r.2.1 y1, Nat.le_trans x2 r.2.2.1, Nat.le_trans r.2.2.2.1 y2, r.2.2.2.2⟩ hk', fun q => by dsimp only at q; (first | lia | omega)⟩
    · by_cases c : alo < i ∧ blo < j
      · have := ih1 c (by (first | lia | omega)) (by (first | lia | omega)) X x Y (i, j, 0) [] (by
          rw [← List.cons_append, ← hP]; simp)
        exact this
      · rw [h1' c] at hP
        have hl := congrArg List.length hP
        match X, Y, hl, hP with
        | [], [], _, hP => simp at hP; subst hP; exact best_none (by dsimp only; (first | lia | omega)) (by dsimp only; (first | lia | omega)) (by dsimp only; (first | lia | omega))
        | _ :: _, _, hl, _ => simp at hl
        | [], _ :: _, hl, _ => simp at hl
    · by_cases c : alo < i ∧ blo < j
      · exact ih1 c (by (first | lia | omega)) (by (first | lia | omega)) X x Y y (A' ++ [(i, j, 0)]) (by rw [← List.cons_append, hP]; simp)
      · rw [h1' c] at hP
        have hl := congrArg List.length hP
        simp at hl; (first | lia | omega)
end Mine.M
end PtMl
section PtS12
open PySem PySem.W PyProof.Rows
namespace Mine
open M (Blk Best)
theorem get258 {w : World} {top : Heap} (k : (KK w.params).In top) : top.get? 258 = some (o258 w.params) := k 258 _ (by rfl)
section
variable {prog : Program} {w : World} {mb : Str → Option Value} {top : Heap}
noncomputable def itemN (k x : Int) : Int := if 0 < k then x.fmod (k + 2) else x
noncomputable def outT : V → Option V | .mat vs => some (.tup vs) | .tup vs => some (.tup vs) | _ => Option.none
noncomputable def out2 : V → Option V | .tup [_, _, v] => some v | _ => Option.none
noncomputable def n3 (t : T3) : List Int := [(t.1 : Int), (t.2.1 : Int), (t.2.2 : Int)]
theorem n3_inj {t u : T3} (e : n3 t = n3 u) : t = u := by
  obtain ⟨a, b, c⟩ := t; obtain ⟨a', b', c'⟩ := u
  simp only [n3, List.cons.injEq, Int.natCast_inj] at e
  obtain ⟨rfl, rfl, rfl, _⟩ := e; rfl
theorem map_t3 (l : List T3) : l.map t3 = (l.map n3).map tI := by rw [List.map_map]; rfl
theorem eqL3 {n : Nat} {l k : List T3} {b : Bool} (e : decide (l = k) = b) : Op prog w top n (fun xs => compareOp .Eq (xs.getD 0 .none) (xs.getD 1 .none)) [.lst (l.map t3), .lst (k.map t3)] (.bool b) := by
  rw [map_t3, map_t3, ← e, show decide (l = k) = decide (l.map n3 = k.map n3) by
    rw [Bool.eq_iff_iff]; simp only [decide_eq_true_eq]
    exact ⟨fun q => by rw [q], fun q => List.map_inj_right (fun _ _ => n3_inj) |>.mp q⟩]
  exact Op.eqLT
theorem neT3 {n : Nat} {t u : T3} {b : Bool} (e : decide (t = u) = b) : Op prog w top n (fun xs => compareOp .NotEq (xs.getD 0 .none) (xs.getD 1 .none)) [t3 t, t3 u] (.bool (!b)) := by
  have := Op.neT (prog := prog) (w := w) (top := top) (n := n) (ns := n3 t) (ms := n3 u)
  rwa [show decide (n3 t = n3 u) = b by rw [← e, Bool.eq_iff_iff]; simp only [decide_eq_true_eq]; exact ⟨n3_inj, fun q => by rw [q]⟩] at this
/-- marks[p][j] -/
theorem W.mk {c : Cx} {env : Env} {A : Around} {st : St} {n : Nat} {Q : V → St → Prop} {p1 p2 p3 p4 p5 : Pos} {u : Nat} {M : List T3} {k : Nat} {t : T3} {j : Nat} {v : V} (hA : AOk n A) (ml pn : Str) (hv : st.vars.lookup ml = some (.lst (M.map t3))) (hp : st.vars.lookup pn = some (.int (k : Nat)))
    (he : M[k]? = some t) (hj : ([.int (t.1 : Nat), .int (t.2.1 : Nat), .int (t.2.2 : Nat)] : List V)[j]? = some v) (h : Q v st)
    (hm : M.length ≤ 1000 := by (first | lia | omega)) (hk : env.scope.kind = .function := by rfl) (hl : env.kindOf ml = some .local := by rfl) (hl2 : env.kindOf pn = some .local := by rfl) (hd : (ml == ("__debug__" : Str)) = false := by decide) (hd2 : (pn == ("__debug__" : Str)) = false := by decide) :
    W prog w c env A (.Subscript (.Subscript (.Name ml p1) (.Name pn p2) p3) (.Constant (.int (j : Int)) u p4) p5) st Q := by
  have hkl : k < M.length := (List.getElem?_eq_some_iff.mp he).1
  have hjl : j < 3 := by have := (List.getElem?_eq_some_iff.mp hj).1; simpa using this
  refine W.sub hA (W.sub hA (W.loc hv (W.loc hp ⟨t3 t, Sub.lst (by (first | lia | omega)) (by (first | lia | omega)) (by rw [Int.toNat_natCast, List.getElem?_map, he]; rfl), W.int ⟨v, Sub.tup (j := j) (by (first | lia | omega)) (by (first | lia | omega)) ?_ hj, h⟩⟩ hk hl2 hd2) hk hl hd))
  exact (show ∀ j : Nat, j < 3 → seqIndex? (j : Int) 3 = some j by decide) j hjl
theorem law_fn (T : Tp w mb top) {l : Addr} {its : Array Value} {ns : List Int} (hl : top.IsList l its) (hi : IntsAre its.toList ns) (hz : ns.length ≤ sizeLine) :
    Fc prog w top 16 (.ref 258) [.con (.ref l)] [] (fun v _ => v = .bool true) := by
  refine Fc.fnC (n := 15) ["script"] (get258 T.k) rfl rfl (codeRec_of T.k (by rfl)) T.lim rfl ?_ rfl (by decide) (by decide) ?_ ?_ rfl rfl rfl
  · exact lenS fun a => len0 rfl
  · intro L
    show ∀ p ∈ ([("kind", L + 1)] : List (Str × Addr)), List.lookup p.1 ([("kind", L + 1)] : List (Str × Addr)) = some p.2
    intro p hp
    rw [List.mem_singleton.mp hp]
    simp
  · intro c L A hA hc
    subst hc
    have hs : sizeLine = 16777216 := rfl
    show WS _ _ _ _ _ _ ⟨[("script", .con (.ref l))], [(L + 1, .cell Option.none)]⟩ _
    refine WS.cons (WX.assign (W.slc (W.loc rfl (W.int ⟨63, rfl, ns.map V.int, Lsv.con hl hi, by simpa using hz, ?_⟩))))
    rw [show pickV (ns.map V.int) Option.none (some 63) = (ns.take 63).map V.int from (pick_upto _ 63).trans List.map_take.symm]
    have hS : (ns.take 63).length ≤ 63 := by rw [List.length_take]; (first | lia | omega)
    generalize ns.take 63 = S at hS
    dsimp only
    refine WS.le (a := ⟨[("script", iL S)], [(L + 1, .cell Option.none)]⟩) (Le.of rfl rfl) ?_
    obtain ⟨f, g, hfg⟩ : ∃ f g, (S ++ [0, 0]).take 2 = [f, g] := by
      match S with
      | [] => exact ⟨0, 0, rfl⟩
      | [x] => exact ⟨x, 0, rfl⟩
      | x :: y :: r => exact ⟨x, y, rfl⟩
    refine WS.cons (WX.unpack (W.slc (W.bin hA (W.loc rfl (W.list (WL.cons (W.int (WL.cons (W.int (WL.nil ⟨Nat.le_of_ble_eq_true rfl, _, Op.addL (vs := S.map V.int) Lsv.lst Lsv.lst ?_, W.int ⟨2, rfl, _, Lsv.lst, ?_, ?_⟩⟩))))))))))
    · simp; (first | lia | omega)
    · simp; (first | lia | omega)
    rw [show pickV (S.map V.int ++ [V.int 0, V.int 0]) Option.none (some 2) = [.int f, .int g] from (pick_upto _ 2).trans (by rw [show (S.map V.int ++ [V.int 0, V.int 0]) = (S ++ [0, 0]).map V.int by simp, ← List.map_take, hfg]; rfl)]
    refine WF.tup hA (vs := [.int f, .int g]) Unp.lst (WFs.cons (WF.name (WFs.cons (WF.name (WFs.nil ?_)))))
    refine WS.le (a := ⟨[("script", iL S), ("first", .int f), ("second", .int g)], [(L + 1, .cell Option.none)]⟩) (Le.of rfl rfl) ?_
    refine WS.cons (WX.cset (a := L + 1) (W.bin hA (W.loc rfl (W.int ⟨_, Op.mod (by decide), _, _, .head, ?_⟩))))
    have hk0 : 0 ≤ f.fmod 4 := Int.fmod_nonneg_of_pos _ (by decide)
    generalize f.fmod 4 = kd at hk0
    dsimp only
    refine WS.cons (WX.comp (y := "items") [("kind", L + 1)] hA.handled (WI.lst hA.handled (W.slc (W.loc rfl (W.int ⟨2, rfl, _, Lsv.lst, ?_, _, rfl, ?_, fun u => match u with | .int x => some (.int (itemN kd x)) | _ => Option.none, ?_, ?_⟩)))))
    · simp; (first | lia | omega)
    · rw [show pickV (S.map V.int) (some 2) Option.none = (S.drop 2).map V.int from (pick_from _ 2).trans List.map_drop.symm]; simp; (first | lia | omega)
    · intro C D acc k u hu
      rw [show pickV (S.map V.int) (some 2) Option.none = (S.drop 2).map V.int from (pick_from _ 2).trans List.map_drop.symm, List.getElem?_map] at hu
      obtain ⟨x, _, rfl⟩ := Option.map_eq_some_iff.mp hu
      refine WF.name (WT.nil ?_)
      rw [if_pos rfl]
      refine W.ife (WB.cmp hA (W.cel (a := L + 1) (v := .int kd) (.tail _ (.head _)) (W.int ⟨_, Op.gt, ?_⟩)))
      by_cases q : 0 < kd
      · rw [if_pos (decide_eq_true q)]
        refine W.bin hA (W.loc rfl (W.bin hA (W.cel (a := L + 1) (v := .int kd) (.tail _ (.head _)) (W.int ⟨_, Op.add, _, Op.mod (by (first | lia | omega)), ?_⟩))))
        exact ⟨by simp [itemN, q], rfl⟩
      · rw [if_neg (by simpa using q)]
        refine W.loc rfl ?_
        exact ⟨by simp [itemN, q], rfl⟩
    rw [show pickV (S.map V.int) (some 2) Option.none = (S.drop 2).map V.int from (pick_from _ 2).trans List.map_drop.symm,
      show ((S.drop 2).map V.int).filterMap (fun u => match u with | .int x => some (V.int (itemN kd x)) | _ => Option.none) = ((S.drop 2).map (itemN kd)).map V.int by
        rw [List.filterMap_map, List.map_map, ← List.filterMap_eq_map]; rfl]
    have hI : ((S.drop 2).map (itemN kd)).length ≤ 61 := by simp; (first | lia | omega)
    generalize (S.drop 2).map (itemN kd) = I at hI
    refine WS.le (a := ⟨[("second", .int g), ("items", iL I)], [(L + 1, .cell (some (.int kd)))]⟩) (Le.of rfl rfl) ?_
    refine WS.cons (WX.assign (W.bin hA (W.loc rfl (W.bin hA (W.call hA (W.blt T ⟨_, rfl, Kpt.builtin, WL.cons (W.loc rfl (WL.nil ⟨_, Op.len ?_, W.int ⟨_, Op.add, _, Op.mod ?_, ?_⟩⟩))⟩))))))
    · simp; (first | lia | omega)
    · simp; (first | lia | omega)
    obtain ⟨ct, hct, hle⟩ : ∃ ct : Nat, g.fmod (((I.map V.int).length : Nat) + 1 : Int) = ct ∧ ct ≤ I.length := by
      have h1 : 0 ≤ g.fmod (((I.map V.int).length : Nat) + 1 : Int) := Int.fmod_nonneg_of_pos _ (by (first | lia | omega))
      have h2 : g.fmod (((I.map V.int).length : Nat) + 1 : Int) < ((I.map V.int).length : Nat) + 1 := Int.fmod_lt_of_pos _ (by (first | lia | omega))
      refine ⟨(g.fmod (((I.map V.int).length : Nat) + 1 : Int)).toNat, by (first | lia | omega), ?_⟩
      simp at h2 ⊢; (first | lia | omega)
    rw [hct]
    dsimp only
    refine WS.cons (WX.swapped ["one", "other"] hA (W.tup (WL.cons (W.slc (W.loc rfl (W.loc rfl ⟨ct, rfl, I.map V.int, Lsv.lst, ?_, WL.cons (W.slc (W.loc rfl (W.loc rfl ⟨ct, rfl, I.map V.int, Lsv.lst, ?_, WL.nil ⟨Nat.le_of_ble_eq_true rfl, _, Unp.tup, rfl, WFs.cons (WF.bind (WFs.cons (WF.bind (WFs.nil ?_))))⟩⟩)))⟩))))))
    · simp; (first | lia | omega)
    · simp; (first | lia | omega)
    rw [pick_upto, pick_from, ← List.map_take, ← List.map_drop]
    have h1 : (I.take ct).length ≤ 61 := by simp; (first | lia | omega)
    have h2 : (I.drop ct).length ≤ 61 := by simp; (first | lia | omega)
    generalize I.take ct = one at h1
    generalize I.drop ct = other at h2
    refine WS.le (a := ⟨[("one", iL one), ("other", iL other)], [(L + 1, .cell (some (.int kd)))]⟩) (Le.of rfl rfl) ?_
    refine WS.cons (WX.assign (W.callF (n := 12) (hA.less (by decide)) (W.own T ⟨_, rfl, Kpt.cls T.k (T.k 242 _ (by rfl)) (by rfl), WL.cons (W.none (WL.cons (W.loc rfl (WL.cons (W.loc rfl (WL.cons (W.bool (WL.nil ⟨[], _, _, List.Perm.refl _, (make_fn (a := one) (b := other) (aj := false) T (by (first | lia | omega))).toFn, ?_⟩))))))))⟩)))
    rintro u objs ⟨x, d, m, n, rfl, hms, rfl⟩
    dsimp only
    have g1 : fsets (fun _ => Option.none) (initL one other false m) "a" = some (iL one) := by rfl
    have g2 : fsets (fun _ => Option.none) (initL one other false m) "b" = some (iL other) := by rfl
    have g3 : fsets (fun _ => Option.none) (initL one other false m) "b2j" = some (.ref m) := by rfl
    have g4 : fsets (fun _ => Option.none) (initL one other false m) "bjunk" = some .eset := by rfl
    have g5 : fsets (fun _ => Option.none) (initL one other false m) "matching_blocks" = some .none := by rfl
    have g6 : fsets (fun _ => Option.none) (initL one other false m) "find_longest_match" = Option.none := by rfl
    have g7 : fsets (fun _ => Option.none) (initL one other false m) "get_matching_blocks" = Option.none := by rfl
    generalize fsets (fun _ => Option.none) (initL one other false m) = F at g1 g2 g3 g4 g5 g6 g7
    refine WS.le (a := ⟨[("one", iL one), ("other", iL other), ("matcher", .ref x)], [(x, .inst 242 d), (d, .attrs F 10), (m, .map (b2jV other) n), (L + 1, .cell (some (.int kd)))]⟩) (Le.of rfl rfl) ?_
    refine WS.cons (WX.comp (y := "blocks") [] hA.handled (WI.lst hA.handled (W.meth (f := 203) T.k (smOk _) (hA.less (by decide : 14 ≤ 15)) (Kpt.fn (T.k 203 _ (by rfl)) rfl) (W.loc rfl ⟨x, d, F, 10, rfl, .head _, .tail _ (.head _), g7, WL.nil ⟨[(x, .inst 242 d), (d, .attrs F 10), (m, .map (b2jV other) n)], [(L + 1, .cell (some (.int kd)))], _, List.Perm.refl _, (gmb_fn T g1 g2 g3 g4 g5 g6 hms (by (first | lia | omega)) (by (first | lia | omega)) (by decide)).toFn, ?_⟩⟩))))
    rintro u objs ⟨Lb, hB, rfl, rfl⟩
    have hLb : Lb.length ≤ 61 := Nat.le_trans (hB.len (Nat.zero_le _)) (by (first | lia | omega))
    refine ⟨_, rfl, by simp; (first | lia | omega), outT, ?_, ?_⟩
    · intro C D acc k u hu
      rw [List.getElem?_map] at hu
      obtain ⟨t, _, rfl⟩ := Option.map_eq_some_iff.mp hu
      refine WF.tup hA (Unp.mat (matOk T)) (WFs.cons (WF.name (WFs.cons (WF.name (WFs.cons (WF.name (WFs.nil (WT.nil ?_))))))))
      rw [if_pos rfl]
      refine W.tup (WL.cons (W.loc rfl (WL.cons (W.loc rfl (WL.cons (W.loc rfl (WL.nil ⟨Nat.le_of_ble_eq_true rfl, ?_⟩)))))))
      exact ⟨rfl, rfl⟩
    have ek : ∀ l : List T3, (l.map m3).filterMap outT = l.map t3 := fun l => by
      rw [List.filterMap_map, ← List.filterMap_eq_map]; rfl
    rw [ek]
    dsimp only
    generalize hBs : Lb ++ [(one.length, other.length, 0)] = Bs
    have hBl : Bs.length ≤ 62 := by rw [← hBs]; simp; (first | lia | omega)
    have eM : V.lst (List.map t3 ((0, 0, 0) :: Bs)) = V.lst ([t3 (0, 0, 0)] ++ Bs.map t3) := rfl
    refine WS.cons (WX.assign (W.bin hA (W.list (WL.cons (W.tup (WL.cons (W.int (WL.cons (W.int (WL.cons (W.int (WL.nil ⟨Nat.le_of_ble_eq_true rfl, WL.nil ⟨Nat.le_of_ble_eq_true rfl, W.loc rfl ⟨_, Op.addL (vs := [t3 (0, 0, 0)]) (us := Bs.map t3) Lsv.lst Lsv.lst ?_, ?_⟩⟩⟩))))))))))))
    · simp; (first | lia | omega)
    rw [← eM]
    generalize hM : ((0, 0, 0) :: Bs : List T3) = M
    have hMl : M.length ≤ 63 := by rw [← hM]; simp; (first | lia | omega)
    refine WS.le (a := ⟨[("one", iL one), ("other", iL other), ("matcher", .ref x), ("blocks", .lst (Bs.map t3)), ("marks", .lst (M.map t3))], [(x, .inst 242 d), (d, .attrs (fset F "matching_blocks" (.lst (Bs.map m3))) 10), (m, .map (b2jV other) n), (L + 1, .cell (some (.int kd)))]⟩) (Le.of rfl rfl) ?_
    refine WS.cons (WX.ifs (WB.or (WB.cmp hA (W.loc rfl (W.list (WL.nil ⟨Nat.zero_le _, false, eqL3 (k := []) (decide_eq_false ?_), ?_⟩))))))
    · rw [← hBs]; simp
    rw [if_neg Bool.false_ne_true]
    refine WB.or (WB.cmp hA (W.sub hA (W.loc rfl (W.neg (W.int ⟨1, rfl, t3 (one.length, other.length, 0), Sub.lstN (by decide) ?_ (by decide) ?_, ?_⟩)))))
    · rw [← hM]; simp; (first | lia | omega)
    · rw [← hM, ← hBs]
      rw [show (-1 + ((List.map t3 ((0, 0, 0) :: (Lb ++ [(one.length, other.length, 0)]))).length : Int)).toNat = Lb.length + 1 by simp; (first | lia | omega)]
      simp
    refine W.tup (WL.cons (W.call hA (W.blt T ⟨_, rfl, Kpt.builtin, WL.cons (W.loc rfl (WL.nil ⟨_, Op.len ?_, WL.cons (W.call hA (W.blt T ⟨_, rfl, Kpt.builtin, WL.cons (W.loc rfl (WL.nil ⟨_, Op.len ?_, WL.cons (W.int (WL.nil ⟨Nat.le_of_ble_eq_true rfl, false, ?_, ?_⟩))⟩))⟩))⟩))⟩)))
    · simp; (first | lia | omega)
    · simp; (first | lia | omega)
    · have := Op.neT (prog := prog) (w := w) (top := c.top) (n := 15) (ns := [(one.length : Int), (other.length : Int), 0]) (ms := [(one.length : Int), (other.length : Int), 0])
      rw [decide_eq_true rfl] at this
      rw [List.length_map, List.length_map]
      exact this
    rw [if_neg Bool.false_ne_true]
    have eP : pickV (M.map t3) (some 1) (some (-1)) = Lb.map t3 := by
      refine (pick_but _ 1 1 (Nat.le_refl _) (by rw [← hM]; simp)).trans ?_
      rw [← hM, ← hBs]
      simp
    refine WB.or (WB.cmp hA (W.int (W.comp [] hA.handled (WI.lst hA.handled (W.slc (W.loc rfl (W.int ⟨1, rfl, W.neg (W.int ⟨1, rfl, -1, rfl, M.map t3, Lsv.lst, ?_, _, rfl, ?_, out2, ?_, false, ?_, ?_⟩)⟩)))))))
    · simp; (first | lia | omega)
    · rw [eP]; simp; (first | lia | omega)
    · intro C D acc k u hu
      rw [eP, List.getElem?_map] at hu
      obtain ⟨t, _, rfl⟩ := Option.map_eq_some_iff.mp hu
      refine WF.tup hA Unp.tup (WFs.cons (WF.name (WFs.cons (WF.name (WFs.cons (WF.name (WFs.nil (WT.nil ?_))))))))
      rw [if_pos rfl]
      exact W.loc rfl ⟨rfl, rfl⟩
    · rw [eP]
      have e2 : ∀ l : List T3, (l.map t3).filterMap out2 = (l.map fun t => (t.2.2 : Int)).map V.int := fun l => by
        rw [List.filterMap_map, List.map_map, ← List.filterMap_eq_map]; rfl
      rw [e2]
      have := Op.inI (prog := prog) (w := w) (top := c.top) (n := 15) (ns := Lb.map fun t => (t.2.2 : Int)) (k := 0)
      rwa [show (Lb.map fun t => (t.2.2 : Int)).any (· == 0) = false by
        rw [List.any_eq_false]
        intro z hz
        obtain ⟨t, ht, rfl⟩ := List.mem_map.mp hz
        have := (hB.inside t ht).2.2.2.2
        simp; (first | lia | omega)] at this
    rw [if_neg Bool.false_ne_true]
    refine WB.or_nil ?_
    rw [if_neg Bool.false_ne_true]
    refine WS.nil ?_
    dsimp only
    have G1 := (fs_other F (.lst (Bs.map m3)) (by decide : ("a" : Str) ≠ "matching_blocks")).trans g1
    have G2 := (fs_other F (.lst (Bs.map m3)) (by decide : ("b" : Str) ≠ "matching_blocks")).trans g2
    have G3 := (fs_other F (.lst (Bs.map m3)) (by decide : ("b2j" : Str) ≠ "matching_blocks")).trans g3
    have G4 := (fs_other F (.lst (Bs.map m3)) (by decide : ("bjunk" : Str) ≠ "matching_blocks")).trans g4
    have G5 := fs_same F "matching_blocks" (.lst (Bs.map m3))
    have G6 := (fs_other F (.lst (Bs.map m3)) (by decide : ("find_longest_match" : Str) ≠ "matching_blocks")).trans g6
    have G7 := (fs_other F (.lst (Bs.map m3)) (by decide : ("get_matching_blocks" : Str) ≠ "matching_blocks")).trans g7
    generalize fset F "matching_blocks" (.lst (Bs.map m3)) = G at G1 G2 G3 G4 G5 G6 G7
    have hIn : ∀ t ∈ M, t.1 ≤ one.length ∧ t.2.1 ≤ other.length := fun t ht => by
      rw [← hM, ← hBs] at ht
      rcases List.mem_cons.mp ht with rfl | ht
      · exact ⟨Nat.zero_le _, Nat.zero_le _⟩
      · rcases List.mem_append.mp ht with ht | ht
        · obtain ⟨_, q1, _, q2, _⟩ := hB.inside t ht; exact ⟨by (first | lia | omega), by (first | lia | omega)⟩
        · rw [List.mem_singleton.mp ht]; exact ⟨Nat.le_refl _, Nat.le_refl _⟩
    have hML : (M.map t3).length = M.length := List.length_map ..
    refine WS.seq (fun st => Le ⟨[("one", iL one), ("other", iL other), ("matcher", .ref x), ("blocks", .lst (Bs.map t3)), ("marks", .lst (M.map t3))], [(x, .inst 242 d), (d, .attrs G 10), (m, .map (b2jV other) n), (L + 1, .cell (some (.int kd)))]⟩ st)
      (WX.for (WI.rng hA.handled (W.call hA (W.blt T ⟨_, rfl, Kpt.type, WL.cons (W.call hA (W.blt T ⟨_, rfl, Kpt.builtin, WL.cons (W.loc rfl (WL.nil ⟨_, Op.len ?_, WL.nil ⟨_, Op.range1, ((0 : Nat) : Int), ((M.map t3).length : Int), 1, rfl, small_rng ?_ ?_,
        fun k st => Le ⟨[("one", iL one), ("other", iL other), ("matcher", .ref x), ("blocks", .lst (Bs.map t3)), ("marks", .lst (M.map t3))], [(x, .inst 242 d), (d, .attrs G 10), (m, .map (b2jV other) n), (L + 1, .cell (some (.int kd)))]⟩ st, (Le.of rfl rfl), ?_, ?_⟩⟩))⟩))⟩)))) ?_
    · rw [hML]; (first | lia | omega)
    · rw [hML]; (first | lia | omega)
    · (first | lia | omega)
    · intro k st₂ u hu hle
      obtain ⟨hk, e⟩ := rngV_get (Nat.zero_le _) hu
      rw [Nat.zero_add] at e
      subst e
      rw [hML] at hk
      refine WF.le hle (WF.name ?_)
      obtain ⟨tp, htp⟩ : ∃ tp, M[k]? = some tp := ⟨M[k]'(by (first | lia | omega)), by simp [show k < M.length by (first | lia | omega)]⟩
      refine WS.cons (WX.swapped ["alo", "blo"] hA (W.tup (WL.cons (W.bin hA (W.mk hA "marks" "p" rfl rfl htp (j := 0) rfl (W.mk hA "marks" "p" rfl rfl htp (j := 2) rfl ⟨_, Op.add, WL.cons (W.bin hA (W.mk hA "marks" "p" rfl rfl htp (j := 1) rfl (W.mk hA "marks" "p" rfl rfl htp (j := 2) rfl ⟨_, Op.add, WL.nil ⟨Nat.le_of_ble_eq_true rfl, _, Unp.tup, rfl, WFs.cons (WF.bind (WFs.cons (WF.bind (WFs.nil ?_))))⟩⟩)))⟩))))))
      refine WS.le (a := ⟨[("p", .int (k : Nat)), ("alo", .int ((tp.1 + tp.2.2 : Nat) : Int)), ("blo", .int ((tp.2.1 + tp.2.2 : Nat) : Int)), ("one", iL one), ("other", iL other), ("matcher", .ref x), ("blocks", .lst (Bs.map t3)), ("marks", .lst (M.map t3))], [(x, .inst 242 d), (d, .attrs G 10), (m, .map (b2jV other) n), (L + 1, .cell (some (.int kd)))]⟩) (Le.of rfl rfl) ?_
      refine WS.cons (WX.for (WI.rng hA.handled (W.call hA (W.blt T ⟨_, rfl, Kpt.type, WL.cons (W.bin hA (W.loc rfl (W.int ⟨_, Op.add, WL.cons (W.call hA (W.blt T ⟨_, rfl, Kpt.builtin, WL.cons (W.loc rfl (WL.nil ⟨_, Op.len ?_, WL.nil ⟨_, Op.range2, ((k + 1 : Nat) : Int), ((M.map t3).length : Int), 1, rfl, small_rng ?_ ?_,
        fun _ st => Le ⟨[("p", .int (k : Nat)), ("alo", .int ((tp.1 + tp.2.2 : Nat) : Int)), ("blo", .int ((tp.2.1 + tp.2.2 : Nat) : Int)), ("one", iL one), ("other", iL other), ("matcher", .ref x), ("blocks", .lst (Bs.map t3)), ("marks", .lst (M.map t3))], [(x, .inst 242 d), (d, .attrs G 10), (m, .map (b2jV other) n), (L + 1, .cell (some (.int kd)))]⟩ st, (Le.of rfl rfl), ?_, ?_⟩⟩))⟩))⟩)))⟩))))
      · rw [hML]; (first | lia | omega)
      · rw [hML]; (first | lia | omega)
      · (first | lia | omega)
      · intro k2 st₃ u hu hle₂
        obtain ⟨hk2, e⟩ := rngV_get (by rw [hML]; (first | lia | omega)) hu
        subst e
        rw [hML] at hk2
        refine WF.le hle₂ (WF.name ?_)
        obtain ⟨q, hq⟩ : ∃ q, q = k + 1 + k2 := ⟨_, rfl⟩
        rw [← hq]
        have hqM : q < M.length := by (first | lia | omega)
        obtain ⟨tq, htq⟩ : ∃ tq, M[q]? = some tq := ⟨M[q]'hqM, by simp [hqM]⟩
        refine WS.cons (WX.swapped ["ahi", "bhi"] hA (W.tup (WL.cons (W.mk hA "marks" "q" rfl rfl htq (j := 0) rfl (WL.cons (W.mk hA "marks" "q" rfl rfl htq (j := 1) rfl (WL.nil ⟨Nat.le_of_ble_eq_true rfl, _, Unp.tup, rfl, WFs.cons (WF.bind (WFs.cons (WF.bind (WFs.nil ?_))))⟩)))))))
        refine WS.cons (WX.assign (W.tup (WL.cons (W.loc rfl (WL.cons (W.loc rfl (WL.cons (W.int (WL.nil ⟨Nat.le_of_ble_eq_true rfl, ?_⟩)))))))))
        dsimp only
        have eY : pickV (M.map t3) (some ((k : Int) + 1)) (some (q : Int)) = ((M.drop (k + 1)).take (q - (k + 1))).map t3 := by
          refine (pick_mid (M.map t3) (k + 1) q (by rw [hML]; (first | lia | omega)) (by (first | lia | omega))).trans ?_
          rw [← List.map_drop, ← List.map_take]
        obtain ⟨X, Z, hsp⟩ : ∃ X Z, M = X ++ tp :: ((M.drop (k + 1)).take (q - (k + 1)) ++ tq :: Z) := by
          refine ⟨M.take k, M.drop (q + 1), ?_⟩
          have e1 : M = M.take k ++ M.drop k := (List.take_append_drop k M).symm
          obtain ⟨hkM, rfl⟩ := List.getElem?_eq_some_iff.mp htp
          obtain ⟨_, rfl⟩ := List.getElem?_eq_some_iff.mp htq
          have e2 : M.drop k = M[k] :: M.drop (k + 1) := List.drop_eq_getElem_cons hkM
          have e3 : M.drop (k + 1) = (M.drop (k + 1)).take (q - (k + 1)) ++ (M.drop (k + 1)).drop (q - (k + 1)) := (List.take_append_drop _ _).symm
          have e4 : (M.drop (k + 1)).drop (q - (k + 1)) = M[q] :: M.drop (q + 1) := by
            rw [List.drop_drop, show k + 1 + (q - (k + 1)) = q by (first | lia | omega)]; exact List.drop_eq_getElem_cons hqM
          rw [e4] at e3
          rw [← e3, ← e2, ← e1]
        generalize (M.drop (k + 1)).take (q - (k + 1)) = Y at eY hsp
        have best := hB.law (Nat.zero_le _) (Nat.zero_le _) X tp Y tq Z (by rw [← hsp, ← hM, ← hBs])
        have hYm : ∀ t ∈ Y, t ∈ M := fun t ht => by rw [hsp]; simp [ht]
        have hYl : Y.length ≤ 63 := by have := congrArg List.length hsp; simp at this; (first | lia | omega)
        refine WS.seq (fun st => Le ⟨[("due", t3 (Mine.M.due (tp.1 + tp.2.2, tp.2.1 + tp.2.2, 0) Y)), ("q", .int (q : Nat)), ("ahi", .int (tq.1 : Nat)), ("bhi", .int (tq.2.1 : Nat)), ("p", .int (k : Nat)), ("alo", .int ((tp.1 + tp.2.2 : Nat) : Int)), ("blo", .int ((tp.2.1 + tp.2.2 : Nat) : Int)), ("one", iL one), ("other", iL other), ("matcher", .ref x), ("blocks", .lst (Bs.map t3)), ("marks", .lst (M.map t3))], [(x, .inst 242 d), (d, .attrs G 10), (m, .map (b2jV other) n), (L + 1, .cell (some (.int kd)))]⟩ st)
          (WX.for (WI.lst hA.handled (W.slc (W.loc rfl (W.bin hA (W.loc rfl (W.int ⟨_, Op.add, _, rfl, W.loc rfl ⟨_, rfl, M.map t3, Lsv.lst, ?_, _, rfl,
            fun z st => Le ⟨[("due", t3 (Mine.M.due (tp.1 + tp.2.2, tp.2.1 + tp.2.2, 0) (Y.take z))), ("q", .int (q : Nat)), ("ahi", .int (tq.1 : Nat)), ("bhi", .int (tq.2.1 : Nat)), ("p", .int (k : Nat)), ("alo", .int ((tp.1 + tp.2.2 : Nat) : Int)), ("blo", .int ((tp.2.1 + tp.2.2 : Nat) : Int)), ("one", iL one), ("other", iL other), ("matcher", .ref x), ("blocks", .lst (Bs.map t3)), ("marks", .lst (M.map t3))], [(x, .inst 242 d), (d, .attrs G 10), (m, .map (b2jV other) n), (L + 1, .cell (some (.int kd)))]⟩ st, (Le.of rfl rfl), ?_, ?_⟩⟩))))))) ?_
        · rw [hML]; (first | lia | omega)
        · rw [eY]
          intro z st₄ u hu hle₃
          rw [List.getElem?_map] at hu
          obtain ⟨t, ht, rfl⟩ := Option.map_eq_some_iff.mp hu
          have htk : Mine.M.due (tp.1 + tp.2.2, tp.2.1 + tp.2.2, 0) (Y.take (z + 1)) = Mine.M.upd (Mine.M.due (tp.1 + tp.2.2, tp.2.1 + tp.2.2, 0) (Y.take z)) t := foldl_take_succ _ _ _ _ _ ht
          refine WF.le hle₃ (WF.name ?_)
          have fin : ∀ st, Le ⟨[("due", t3 (Mine.M.upd (Mine.M.due (tp.1 + tp.2.2, tp.2.1 + tp.2.2, 0) (Y.take z)) t)), ("q", .int (q : Nat)), ("ahi", .int (tq.1 : Nat)), ("bhi", .int (tq.2.1 : Nat)), ("p", .int (k : Nat)), ("alo", .int ((tp.1 + tp.2.2 : Nat) : Int)), ("blo", .int ((tp.2.1 + tp.2.2 : Nat) : Int)), ("one", iL one), ("other", iL other), ("matcher", .ref x), ("blocks", .lst (Bs.map t3)), ("marks", .lst (M.map t3))], [(x, .inst 242 d), (d, .attrs G 10), (m, .map (b2jV other) n), (L + 1, .cell (some (.int kd)))]⟩ st → Le ⟨[("due", t3 (Mine.M.due (tp.1 + tp.2.2, tp.2.1 + tp.2.2, 0) (Y.take (z + 1)))), ("q", .int (q : Nat)), ("ahi", .int (tq.1 : Nat)), ("bhi", .int (tq.2.1 : Nat)), ("p", .int (k : Nat)), ("alo", .int ((tp.1 + tp.2.2 : Nat) : Int)), ("blo", .int ((tp.2.1 + tp.2.2 : Nat) : Int)), ("one", iL one), ("other", iL other), ("matcher", .ref x), ("blocks", .lst (Bs.map t3)), ("marks", .lst (M.map t3))], [(x, .inst 242 d), (d, .attrs G 10), (m, .map (b2jV other) n), (L + 1, .cell (some (.int kd)))]⟩ st := fun st h => by rw [htk]; exact h
          clear htk
          generalize Mine.M.due (tp.1 + tp.2.2, tp.2.1 + tp.2.2, 0) (Y.take z) = dz at fin
          refine WS.cons (WX.ifs (WB.cmp hA (W.sub hA (W.loc rfl (W.int ⟨.int (t.2.2 : Nat), Sub.tup (j := 2) (by decide) (by decide) rfl rfl, W.sub hA (W.loc rfl (W.int ⟨.int (dz.2.2 : Nat), Sub.tup (j := 2) (by decide) (by decide) rfl rfl, _, Op.gt, ?_⟩))⟩)))))
          by_cases c1 : dz.2.2 < t.2.2
          · rw [show Mine.M.upd dz t = t from if_pos c1] at fin
            rw [if_pos (by simpa using c1)]
            refine WS.cons (WX.assign (W.loc rfl (WS.nil (WS.nil ?_))))
            exact fin _ (Le.of rfl rfl)
          · rw [show Mine.M.upd dz t = dz from if_neg c1] at fin
            rw [if_neg (by simpa using c1)]
            refine WS.nil (WS.nil ?_)
            exact fin _ (Le.of rfl rfl)
        · rw [eY]
          intro st₄ h
          rw [List.length_map, List.take_length] at h
          exact h
        intro st₄ hle₄
        refine WS.le hle₄ ?_
        generalize Mine.M.due (tp.1 + tp.2.2, tp.2.1 + tp.2.2, 0) Y = dd at best
        obtain ⟨b1, b2, b3, b4, _⟩ := id best.run
        have i1 := hIn tq (List.mem_of_getElem? htq)
        have e5 : longest one other (tp.1 + tp.2.2) tq.1 (tp.2.1 + tp.2.2) tq.2.1 = dd := by
          have := (longest_best (one := one) (other := other) (alo := tp.1 + tp.2.2) (ahi := tq.1) (blo := tp.2.1 + tp.2.2) (bhi := tq.2.1) (by (first | lia | omega)) (by (first | lia | omega))).uniq best
          exact Prod.ext this.1 (Prod.ext this.2.1 this.2.2)
        refine WS.cons (WX.ifs (WB.cmp hA (W.call (hA.less (by decide : 5 ≤ 15)) (W.own T ⟨_, rfl, Kpt.fn (get253 T.k) rfl, WL.cons (W.loc rfl (WL.cons (W.loc rfl (WL.cons (W.loc rfl (WL.cons (W.loc rfl (WL.cons (W.loc rfl (WL.cons (W.loc rfl (WL.nil ⟨_, longest_op T (by (first | lia | omega)) (by (first | lia | omega)) (by (first | lia | omega)) (by (first | lia | omega)) (by (first | lia | omega)) (by (first | lia | omega)), W.loc rfl ⟨false, neT3 (b := true) (decide_eq_true e5), ?_⟩⟩))))))))))))⟩))))
        rw [if_neg Bool.false_ne_true]
        refine WS.nil ?_
        refine WS.cons (WX.unpack (W.meth (f := 196) T.k (smOk _) (hA.less (by decide : 10 ≤ 15)) (Kpt.fn (T.k 196 _ (by rfl)) rfl) (W.loc rfl ⟨x, d, G, 10, rfl, .head _, .tail _ (.head _), G6, WL.cons (W.loc rfl (WL.cons (W.loc rfl (WL.cons (W.loc rfl (WL.cons (W.loc rfl (WL.nil ⟨[(x, .inst 242 d), (d, .attrs G 10), (m, .map (b2jV other) n)], [(L + 1, .cell (some (.int kd)))], _, List.Perm.refl _, (flm_fn T G1 G2 G3 G4 hms (by (first | lia | omega)) (by (first | lia | omega)) (by (first | lia | omega)) (by (first | lia | omega)) (by (first | lia | omega)) (by (first | lia | omega))).toFn, ?_⟩))))))))⟩)))
        rintro u objs ⟨bi, bj, bk, rfl, hbest, rfl⟩
        have e6 : ((bi, bj, bk) : T3) = dd := by
          have := hbest.uniq best
          exact Prod.ext this.1 (Prod.ext this.2.1 this.2.2)
        refine WF.tup hA (Unp.mat (matOk T)) (WFs.cons (WF.name (WFs.cons (WF.name (WFs.cons (WF.name (WFs.nil ?_)))))))
        refine WS.cons (WX.ifs (WB.cmp hA (W.tup (WL.cons (W.loc rfl (WL.cons (W.loc rfl (WL.cons (W.loc rfl (WL.nil ⟨Nat.le_of_ble_eq_true rfl, W.loc rfl ⟨false, neT3 (t := (bi, bj, bk)) (b := true) (decide_eq_true e6), ?_⟩⟩))))))))))
        rw [if_neg Bool.false_ne_true]
        refine WS.nil (WS.nil ?_)
        exact (Le.of rfl rfl)
      · intro st₃ h
        refine WS.nil ?_
        exact ⟨h.1, fun p hp => h.2 p (.tail _ (.tail _ (.tail _ hp)))⟩
    · exact fun st₂ h => h
    · intro st₂ hle
      refine WS.le hle ?_
      refine WS.cons (WX.ret (W.cmp hA (W.comp [] hA.handled (WI.lst hA.handled (W.meth (f := 203) T.k (smOk _) (hA.less (by decide : 14 ≤ 15)) (Kpt.fn (T.k 203 _ (by rfl)) rfl) (W.loc rfl ⟨x, d, G, 10, rfl, .head _, .tail _ (.head _), G7, WL.nil ⟨[(x, .inst 242 d), (d, .attrs G 10), (m, .map (b2jV other) n)], [(L + 1, .cell (some (.int kd)))], _, List.Perm.refl _, (gmb2_fn T G5).toFn, ?_⟩⟩))))))
      rintro u objs ⟨rfl, rfl⟩
      refine ⟨_, rfl, by simp; (first | lia | omega), outT, ?_, ?_⟩
      · intro C D acc k u hu
        rw [List.getElem?_map] at hu
        obtain ⟨t, _, rfl⟩ := Option.map_eq_some_iff.mp hu
        refine WF.tup hA (Unp.mat (matOk T)) (WFs.cons (WF.name (WFs.cons (WF.name (WFs.cons (WF.name (WFs.nil (WT.nil ?_))))))))
        rw [if_pos rfl]
        refine W.tup (WL.cons (W.loc rfl (WL.cons (W.loc rfl (WL.cons (W.loc rfl (WL.nil ⟨Nat.le_of_ble_eq_true rfl, ?_⟩)))))))
        exact ⟨rfl, rfl⟩
      rw [ek]
      refine W.loc rfl ⟨.bool true, eqL3 (decide_eq_true rfl), ?_⟩
      rfl
end
end Mine
end PtS12
section PtE10a
open PySem PySem.W PyProof.Rows
namespace Mine
theorem ints_of {R : WRecords} {cl : Str → Option Addr} {h : Heap} : ∀ {vs : List Value} {ds : List WData} {as : List Addr}, ReadsAllW R cl h vs ds as → (∀ d ∈ ds, ∃ i, d = .int i) → ∃ ns, IntsAre vs ns ∧ ns.length = ds.length
  | _, _, _, .nil, _ => ⟨[], .nil, rfl⟩
  | _, _, _, .cons r rs, hd => by
    obtain ⟨ns, h1, h2⟩ := ints_of rs fun d hd' => hd d (.tail _ hd')
    obtain ⟨i, rfl⟩ := hd _ (.head _)
    cases r
    exact ⟨i :: ns, .cons i _ h1, by simp [h2]⟩
theorem law10_call {R : WRecords} {prog : Program} {w : World} {s₁ : Shared} {mb : Str → Option Value} {cl : Str → Option Addr} {ds : List WData} {vs : List Value} {as : List Addr} (T : Tp w mb s₁.heap) (hr : ReadsAllW R cl s₁.heap vs [.list ds] as) (hd : ∀ d ∈ ds, ∃ i, d = .int i) (hz : ds.length ≤ 63) :
    wpAny (model prog w) callerA (call (.ref 258) vs) (fun v s' => v = .bool true ∧ (∀ b o, s₁.heap.get? b = some o → s'.heap.get? b = some o) ∧ s'.gens = s₁.gens ∧ s'.os = s₁.os) (fun _ _ => False) s₁ := by
  cases hr with
  | cons r rs =>
    cases rs
    cases r with
    | list e1 e2 e3 rs =>
      obtain ⟨ns, hi, hl⟩ := ints_of rs hd
      have hs : sizeLine = 16777216 := rfl
      have F := law_fn (prog := prog) T ⟨_, e1, e2, _, e3⟩ hi (by (first | lia | omega))
      refine wpAny_call (codeAny_mono (F callerA s₁ [] [.ref _] ⟨rfl, by decide, by decide⟩ (fun _ _ e => e) (Nat.le_refl _) ⟨(fun p hp => nomatch hp), rfl, List.nodup_nil, fun a ha => (nomatch ha), fun a ha => (nomatch ha)⟩ ⟨_, _, rfl, rfl, rfl⟩) fun r s' p => ?_)
      obtain ⟨x, rfl, v, objs', rv, L1, fr, kp, hg, ho, rfl⟩ := p
      cases rv
      exact ⟨rfl, fun b o e => kp b o e List.not_mem_nil, hg, ho⟩
theorem tp_of {w : World} {mg mb : Str → Option Value} {h : Heap} (K : (KK w.params).In h) (g : h.Ns mainGlobals mg) (b : h.Ns builtinsNs mb) (l : h.NoLimit) (bi : ∀ x : Str, x ≠ "__name__" → mb x = bootBuiltins x) : Tp w mb h ∧ mg = gl w.params := by
  have e : mg = gl w.params := by
    obtain ⟨o, es, ep, e1, e2, _, e3⟩ := g
    have k3 : h.get? 3 = some (o3 w.params) := K 3 _ (by rfl)
    have : some o = some (o3 w.params) := e1.symm.trans k3
    cases this
    funext x
    rw [← e3 x]
    unfold gl
    rw [show entriesOf (o3 w.params) = es by
      generalize o3 w.params = z at e2
      obtain ⟨c, d, dt, sl⟩ := z
      dsimp only at e2; subst e2; rfl]
  exact ⟨⟨K, e ▸ g, b, l, bi⟩, e⟩
end Mine
end PtE10a
section PtE10b
open PySem PySem.W PyProof.Rows
namespace Mine
theorem good_true (l : OpenLaw) {args : List WData} {cl : Str → Option Addr} {mean : ExcName → Option Value} {s₁ s' : Shared} (kp : ∀ b o, s₁.heap.get? b = some o → s'.heap.get? b = some o) (hg : s'.gens = #[]) (ho : s'.os = s₁.os) :
    GoodWG l.row.toRowW.claim cl mean args s₁ (.ok (.ret (.bool true))) s' := by
  refine ⟨.inl ⟨_, .bool true, [], rfl, fun _ => rfl, .bool true, ?_, fun _ => ⟨List.nodup_nil, fun a ha => (nomatch ha)⟩⟩, .of_keep kp, ho, ?_⟩
  · simp [RowW.claim, OpenLaw.row, WShape.has, WShape.arms, WTm.holds, WTm.value]
    rw [show same (WData.bool true) (WData.bool true) = true by simp [same]]
  · rw [hg]; exact fun y hy => by simp at hy
theorem pre_ints (l : OpenLaw) {k : Nat} (hm : l.most = some k) {args : List WData} (h : l.row.toRowW.claim.pre args = true) : ∃ ds, args = [.list ds] ∧ (∀ d ∈ ds, ∃ i, d = WData.int i) ∧ ds.length ≤ k := by
  obtain ⟨hsh, hp⟩ := pre_splitW h
  have hsh' : WShape.hasAll [] args [.list .int] = true := hsh
  have hp' : l.pre.holds [] { args := args } = true := hp
  obtain ⟨d, r, rfl, h1, h2⟩ := hasAllW_cons hsh'
  obtain rfl := hasAllW_nil h2
  obtain ⟨xs, rfl, h3⟩ := hasW_list h1
  refine ⟨xs, rfl, ?_, ?_⟩
  · intro d hd
    have : ∀ xs : List WData, WShape.hasItems [] xs .int = true → ∀ d ∈ xs, WShape.has [] d .int = true := by
      intro xs
      induction xs with
      | nil => intro _ d hd; cases hd
      | cons x xs ih =>
        intro h d hd
        simp only [WShape.hasItems, Bool.and_eq_true] at h
        rcases List.mem_cons.mp hd with rfl | hd
        · exact h.1
        · exact ih h.2 d hd
    exact hasW_int (this xs h3 d hd)
  · unfold OpenLaw.pre at hp'
    rw [hm] at hp'
    have hq := (holds_andW hp').1
    simp only [WTm.holds, WTm.value] at hq
    by_cases c : xs.length ≤ k
    · exact c
    · exfalso
      have e : less? (WData.int (k : Int)) (WData.int (xs.length : Int)) = some true := by
        show some (decide ((k : Int) < (xs.length : Int))) = some true
        rw [decide_eq_true (by omega)]
      revert hq
      simp [e]
end Mine
end PtE10b
section PtE10h
open PySem PySem.W PyProof.Rows
namespace Mine
theorem law258 (P : Params) : gl P "law" = some (.ref 258) := by rfl
end Mine
end PtE10h
section PtE10w
open PySem PySem.W PyProof.Rows
namespace Mine
theorem walk_abs (l : OpenLaw) (hm : l.most = some 63) {d : DefRec} {kwd : List (Str × PySem.Expr)} (hn : d.name = Str.ofString "law") :
    WalkO Qv lse (XL Qv []) (Hook.says hook) l.row.toRowW d kwd fun f vs => PySem.call f vs := by
  intro w s₀ s₁ mg mb G Y a o pm cd doc dV kV h2 h3 h4 h5 h6 h7 args vs as hpre hlay hrd hwl hlo
  clear h2 h3 h4 h5
  obtain ⟨T, e⟩ := tp_of (kIn_of Y) G.T.g G.T.b G.T.nolimit G.T.builtins
  have ha : a = 258 := by
    rw [e, hn] at h6
    have h9 : some (Value.ref a) = some (.ref 258) := h6.symm.trans (law258 _)
    injection h9 with h9; injection h9
  subst ha
  clear h6
  obtain ⟨ds, rfl, hd, hz⟩ := pre_ints l hm hpre
  refine wpAny_mono (law10_call T hrd hd hz) (fun v s' p => ?_) fun _ _ x => x.elim
  obtain ⟨rfl, kp, hg, ho⟩ := p
  exact good_true l kp (hg.trans h7) ho
theorem fin (l : OpenLaw) {d : DefRec} {kwd : List (Str × PySem.Expr)} (said : l.row.wellSaid = true) (hm : l.most = some 63)
    (left : LeftO l.prog Qv lse Xt (Hook.obs hook) (Hook.val hook) NN true)
    (hn : l.name = Str.ofString "law") (hwr : l.writes = false)
    (hd : defOf Qv (Str.ofString "law") = some (d, kwd)) (hp : l.prog.theDef (Str.ofString "law") = some (d.params, d.body, d.scope)) (hk : kwWritten? d.params.kwonlyargs d.params.kw_defaults = some kwd)
    (ok1 : chainsOk Qv = true) (ok2 : opensWell l.prog = true) (hb : l.prog.bare) (hw : l.row.toRowW.promised) : l.row.Holds := by
  refine PySem.W.holds_open (q := Qv) (loose := lse) (Xt := Xt) (XP := XL Qv []) (Yf := Hook.obs hook) (Ya := Hook.val hook) (YP := Hook.says hook) (N := NN) left (Hook.of hook) (Hook.keeps hook) (fun s e => xl_of s (Bool.and_eq_true_iff.mp e).1) XL.keeps (d := d) (kwd := kwd) ?_ ?_ hk (fun s e => recFacts_of (Bool.and_eq_true_iff.mp e).2) ?_ said ?_ hb hw ?_
  · rw [show l.row.name = l.name from rfl, hn]; exact hd
  · rw [show l.row.name = l.name from rfl, hn]; exact hp
  · show (!l.writes || _) = true
    rw [hwr]; rfl
  · show (chainsOk Qv && opensWell l.prog && _) = true
    rw [ok1, ok2]; rfl
  · exact walk_abs l hm (defOf_name hd)
end Mine
end PtE10w
open PySem PySem.W PyProof.Rows
namespace Mine
noncomputable def dk : DefRec × List (Str × PySem.Expr) := match defOf Qv (Str.ofString "law") with
  | some x => x
  | none => (⟨Str.ofString "", default, [], default, default⟩, [])
theorem f_d : defOf Qv (Str.ofString "law") = some (dk.1, dk.2) := by kernel_rfl
theorem f_p : pwQ.theDef (Str.ofString "law") = some (dk.1.params, dk.1.body, dk.1.scope) := by kernel_rfl
theorem f_k : kwWritten? dk.1.params.kwonlyargs dk.1.params.kw_defaults = some dk.2 := by kernel_rfl
theorem f_1 : chainsOk Qv = true := by decide +kernel
theorem f_2 : opensWell pwQ = true := by decide +kernel
theorem f_t : pwQ.tablesWhole = true := by decide +kernel
theorem f_b : pwQ.bare := ⟨rfl, rfl, rfl, rfl, rfl, f_t⟩
noncomputable def rwQ : OpenLaw := by
  refine (?g : (PySem.Challenge.rw_dm0055_10 = ⟨pwQ, ?a, ?b, ?c, ?d, ?e, ?f⟩) → OpenLaw) ?h
  case h => dsimp only [PySem.Challenge.rw_dm0055_10]; rfl
  case g => exact fun _ => ⟨pwQ, ?a, ?b, ?c, ?d, ?e, ?f⟩
theorem rwQ_eq : PySem.Challenge.rw_dm0055_10 = rwQ := by rfl
theorem f_w : rwQ.row.toRowW.promised := ⟨[.list []], by decide +kernel, by decide +kernel⟩
end Mine
theorem PySem.Challenge.cw_dm0055_10_holds : PySem.Challenge.rw_dm0055_10.Holds := by
  w_on
  rw [Mine.rwQ_eq]
  o_law
  exact Mine.fin Mine.rwQ (by assumption) rfl Mine.left rfl rfl Mine.f_d Mine.f_p Mine.f_k Mine.f_1 Mine.f_2 Mine.f_b Mine.f_w
