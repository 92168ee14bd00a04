import PyProof.Rows.All
import Wide.All
import OpenK.AllK
import Wide.FinOn
import Open.Tops
import PyProof.Rows.RaiseClass
import PyProof.WalksMore
import PyProof.Rows.WhileGen
import PyProof.ZipIter
import KE.KItemsList
import PySem.Challenge.RW_pd0025_01
local macro_rules | `(tactic| walk_at $s:str) => `(tactic| k_extra $s)
section
open PySem PySem.W PyProof.Rows
set_option Elab.async false
set_option maxRecDepth 100000
set_option maxHeartbeats 0
namespace Mine
noncomputable abbrev Ph {α : Type} (_ : α) : Type := Nat
noncomputable abbrev pick {α : Type} (x : α) (_ : Ph x) : α := x
noncomputable def ph_sq : Ph (PySem.Challenge.pw_pd0025_01.main.scope) := (0 : Nat)
noncomputable def sq : Scope := pick ⟨_, _, _, _, _⟩ ph_sq
theorem sq_eq : PySem.Challenge.pw_pd0025_01.main.scope = sq := by kernel_rfl
-- the whole program is never laid as one twin (its proof would be 9 MB): its pieces are, below
name_quick tw2360508843056743735 for Mine.sq by Mine.sq_eq
lay_quick PySem.W.piecesOf PySem.W.topFrame
open_shared hd for PySem.Challenge.pw_pd0025_01 leaving 14
noncomputable abbrev pwB : List Stmt := PySem.Challenge.pw_pd0025_01.main.body
noncomputable abbrev vals21 : List PySem.Expr := match pwB.drop 21 with | .Assign _ (.Dict _ vs _) _ :: _ => vs | _ => []
noncomputable def ph_bq19 : Ph ((pwB.drop 19).take 1) := (0 : Nat)
noncomputable def bq19 : List Stmt := pick [_] ph_bq19
noncomputable def ph_bq20 : Ph ((pwB.drop 20).take 1) := (0 : Nat)
noncomputable def bq20 : List Stmt := pick [_] ph_bq20
noncomputable def ph_bq22 : Ph ((pwB.drop 22).take 1) := (0 : Nat)
noncomputable def bq22 : List Stmt := pick [_] ph_bq22
noncomputable def ph_bq23 : Ph ((pwB.drop 23).take 1) := (0 : Nat)
noncomputable def bq23 : List Stmt := pick [_] ph_bq23
noncomputable def ph_bq24 : Ph ((pwB.drop 24).take 1) := (0 : Nat)
noncomputable def bq24 : List Stmt := pick [_] ph_bq24
noncomputable def ph_bq25 : Ph ((pwB.drop 25).take 1) := (0 : Nat)
noncomputable def bq25 : List Stmt := pick [_] ph_bq25
noncomputable def ph_bq26 : Ph ((pwB.drop 26).take 1) := (0 : Nat)
noncomputable def bq26 : List Stmt := pick [_] ph_bq26
noncomputable def ph_bq27 : Ph ((pwB.drop 27).take 1) := (0 : Nat)
noncomputable def bq27 : List Stmt := pick [_] ph_bq27
noncomputable def ph_bq28 : Ph ((pwB.drop 28).take 1) := (0 : Nat)
noncomputable def bq28 : List Stmt := pick [_] ph_bq28
noncomputable def ph_bq29 : Ph ((pwB.drop 29).take 1) := (0 : Nat)
noncomputable def bq29 : List Stmt := pick [_] ph_bq29
noncomputable def ph_bq30 : Ph ((pwB.drop 30).take 1) := (0 : Nat)
noncomputable def bq30 : List Stmt := pick [_] ph_bq30
noncomputable def ph_bq31 : Ph ((pwB.drop 31).take 1) := (0 : Nat)
noncomputable def bq31 : List Stmt := pick [_] ph_bq31
noncomputable def ph_bq32 : Ph ((pwB.drop 32).take 1) := (0 : Nat)
noncomputable def bq32 : List Stmt := pick [_] ph_bq32
noncomputable def ph_vq0 : Ph ((vals21.drop 0).take 26) := (0 : Nat)
noncomputable def vq0 : List PySem.Expr := pick [_, _, _, _, _, _, _, _, _, _, _, _, _, _, _, _, _, _, _, _, _, _, _, _, _, _] ph_vq0
noncomputable def ph_vq1 : Ph ((vals21.drop 26).take 26) := (0 : Nat)
noncomputable def vq1 : List PySem.Expr := pick [_, _, _, _, _, _, _, _, _, _, _, _, _, _, _, _, _, _, _, _, _, _, _, _, _, _] ph_vq1
noncomputable def ph_vq2 : Ph ((vals21.drop 52).take 26) := (0 : Nat)
noncomputable def vq2 : List PySem.Expr := pick [_, _, _, _, _, _, _, _, _, _, _, _, _, _, _, _, _, _, _, _, _, _, _, _, _, _] ph_vq2
noncomputable def ph_vq3 : Ph ((vals21.drop 78).take 26) := (0 : Nat)
noncomputable def vq3 : List PySem.Expr := pick [_, _, _, _, _, _, _, _, _, _, _, _, _, _, _, _, _, _, _, _, _, _, _, _, _, _] ph_vq3
noncomputable def ph_vq4 : Ph ((vals21.drop 104).take 26) := (0 : Nat)
noncomputable def vq4 : List PySem.Expr := pick [_, _, _, _, _, _, _, _, _, _, _, _, _, _, _, _, _, _, _, _, _, _, _, _, _, _] ph_vq4
noncomputable def ph_vq5 : Ph ((vals21.drop 130).take 26) := (0 : Nat)
noncomputable def vq5 : List PySem.Expr := pick [_, _, _, _, _, _, _, _, _, _, _, _, _, _, _, _, _, _, _, _, _, _, _, _, _, _] ph_vq5
noncomputable def ph_vq6 : Ph ((vals21.drop 156).take 26) := (0 : Nat)
noncomputable def vq6 : List PySem.Expr := pick [_, _, _, _, _, _, _, _, _, _, _, _, _, _, _, _, _, _, _, _, _, _, _, _, _, _] ph_vq6
noncomputable def ph_vq7 : Ph ((vals21.drop 182).take 26) := (0 : Nat)
noncomputable def vq7 : List PySem.Expr := pick [_, _, _, _, _, _, _, _, _, _, _, _, _, _, _, _, _, _, _, _, _, _, _, _, _, _] ph_vq7
noncomputable def ph_vq8 : Ph ((vals21.drop 208).take 26) := (0 : Nat)
noncomputable def vq8 : List PySem.Expr := pick [_, _, _, _, _, _, _, _, _, _, _, _, _, _, _, _, _, _, _, _, _, _, _, _, _, _] ph_vq8
noncomputable def ph_vq9 : Ph ((vals21.drop 234).take 26) := (0 : Nat)
noncomputable def vq9 : List PySem.Expr := pick [_, _, _, _, _, _, _, _, _, _, _, _, _, _, _, _, _, _, _, _, _, _, _, _, _, _] ph_vq9
noncomputable def ph_vq10 : Ph ((vals21.drop 260).take 26) := (0 : Nat)
noncomputable def vq10 : List PySem.Expr := pick [_, _, _, _, _, _, _, _, _, _, _, _, _, _, _, _, _, _, _, _, _, _, _, _, _, _] ph_vq10
noncomputable def ph_vq11 : Ph ((vals21.drop 286).take 26) := (0 : Nat)
noncomputable def vq11 : List PySem.Expr := pick [_, _, _, _, _, _, _, _, _, _, _, _, _, _, _, _, _, _, _, _, _, _, _, _, _, _] ph_vq11
noncomputable def ph_vq12 : Ph ((vals21.drop 312).take 26) := (0 : Nat)
noncomputable def vq12 : List PySem.Expr := pick [_, _, _, _, _, _, _, _, _, _, _, _, _, _, _, _, _, _, _, _, _, _, _, _, _, _] ph_vq12
noncomputable def ph_vq13 : Ph ((vals21.drop 338).take 26) := (0 : Nat)
noncomputable def vq13 : List PySem.Expr := pick [_, _, _, _, _, _, _, _, _, _, _, _, _, _, _, _, _, _, _, _, _, _, _, _, _, _] ph_vq13
noncomputable def ph_vq14 : Ph ((vals21.drop 364).take 26) := (0 : Nat)
noncomputable def vq14 : List PySem.Expr := pick [_, _, _, _, _, _, _, _, _, _, _, _, _, _, _, _, _, _, _, _, _, _, _, _, _, _] ph_vq14
noncomputable def ph_vq15 : Ph ((vals21.drop 390).take 26) := (0 : Nat)
noncomputable def vq15 : List PySem.Expr := pick [_, _, _, _, _, _, _, _, _, _, _, _, _, _, _, _, _, _, _, _, _, _, _, _, _, _] ph_vq15
noncomputable def ph_vq16 : Ph ((vals21.drop 416).take 26) := (0 : Nat)
noncomputable def vq16 : List PySem.Expr := pick [_, _, _, _, _, _, _, _, _, _, _, _, _, _, _, _, _, _, _, _, _, _, _, _, _, _] ph_vq16
noncomputable def ph_vq17 : Ph ((vals21.drop 442).take 26) := (0 : Nat)
noncomputable def vq17 : List PySem.Expr := pick [_, _, _, _, _, _, _, _, _, _, _, _, _, _, _, _, _, _, _, _, _, _, _, _, _, _] ph_vq17
noncomputable def ph_vq18 : Ph ((vals21.drop 468).take 26) := (0 : Nat)
noncomputable def vq18 : List PySem.Expr := pick [_, _, _, _, _, _, _, _, _, _, _, _, _, _, _, _, _, _, _, _, _, _, _, _, _, _] ph_vq18
noncomputable def ph_vq19 : Ph ((vals21.drop 494).take 26) := (0 : Nat)
noncomputable def vq19 : List PySem.Expr := pick [_, _, _, _, _, _, _, _, _, _, _, _, _, _, _, _, _, _, _, _, _, _, _, _, _, _] ph_vq19
noncomputable def ph_vq20 : Ph ((vals21.drop 520).take 26) := (0 : Nat)
noncomputable def vq20 : List PySem.Expr := pick [_, _, _, _, _, _, _, _, _, _, _, _, _, _, _, _, _, _, _, _, _, _, _, _, _, _] ph_vq20
noncomputable def ph_vq21 : Ph ((vals21.drop 546).take 26) := (0 : Nat)
noncomputable def vq21 : List PySem.Expr := pick [_, _, _, _, _, _, _, _, _, _, _, _, _, _, _, _, _, _, _, _, _, _, _, _, _, _] ph_vq21
noncomputable def ph_vq22 : Ph ((vals21.drop 572).take 26) := (0 : Nat)
noncomputable def vq22 : List PySem.Expr := pick [_, _, _, _, _, _, _, _, _, _, _, _, _, _, _, _, _, _, _, _, _, _, _, _, _, _] ph_vq22
noncomputable def ph_vq23 : Ph ((vals21.drop 598).take 26) := (0 : Nat)
noncomputable def vq23 : List PySem.Expr := pick [_, _, _, _, _, _, _, _, _, _, _, _, _, _, _, _, _, _, _, _, _, _, _, _, _, _] ph_vq23
noncomputable def ph_vq24 : Ph ((vals21.drop 624).take 26) := (0 : Nat)
noncomputable def vq24 : List PySem.Expr := pick [_, _, _, _, _, _, _, _, _, _, _, _, _, _, _, _, _, _, _, _, _, _, _, _, _, _] ph_vq24
noncomputable def vq : List PySem.Expr := vq0 ++ (vq1 ++ (vq2 ++ (vq3 ++ (vq4 ++ (vq5 ++ (vq6 ++ (vq7 ++ (vq8 ++ (vq9 ++ (vq10 ++ (vq11 ++ (vq12 ++ (vq13 ++ (vq14 ++ (vq15 ++ (vq16 ++ (vq17 ++ (vq18 ++ (vq19 ++ (vq20 ++ (vq21 ++ (vq22 ++ (vq23 ++ vq24)))))))))))))))))))))))
noncomputable abbrev parts21 : List PySem.Expr × List (Option PySem.Expr) × Pos × Pos := match pwB.drop 21 with | .Assign ts (.Dict ks _ p) q :: _ => (ts, ks, p, q) | _ => ([], [], ⟨0, 0, 0, 0⟩, ⟨0, 0, 0, 0⟩)
noncomputable def ph_tq21 : Ph (parts21.1) := (0 : Nat)
noncomputable def tq21 : List PySem.Expr := pick [_] ph_tq21
noncomputable def kq21 : List (Option PySem.Expr) := parts21.2.1
noncomputable def ph_pq21 : Ph (parts21.2.2.1) := (0 : Nat)
noncomputable def pq21 : Pos := pick ⟨_, _, _, _⟩ ph_pq21
noncomputable def ph_qq21 : Ph (parts21.2.2.2) := (0 : Nat)
noncomputable def qq21 : Pos := pick ⟨_, _, _, _⟩ ph_qq21
noncomputable def bq21 : List Stmt := [.Assign tq21 (.Dict kq21 vq pq21) qq21]
noncomputable def bq : List Stmt := hd.sts_4 ++ (hd.sts_41 ++ (hd.sts_92 ++ (bq19 ++ (bq20 ++ (bq21 ++ (bq22 ++ (bq23 ++ (bq24 ++ (bq25 ++ (bq26 ++ (bq27 ++ (bq28 ++ (bq29 ++ (bq30 ++ (bq31 ++ bq32)))))))))))))))
noncomputable def ph_gq : Ph (PySem.Challenge.pw_pd0025_01.given) := (0 : Nat)
noncomputable def gq : Given := pick ⟨_, _, _, _, _, _, _⟩ ph_gq
/-- the given program, by pieces -/
noncomputable def PP : Program := { main := { body := bq, scope := sq, futureAnnotations := false, file := "/claim/cut.py", more := [] }, modules := [], parses := [], absent := [], harvested := [], given := gq }
theorem pp_eq : PySem.Challenge.pw_pd0025_01 = PP := by kernel_rfl
noncomputable def bodyL : List Stmt := behindTheImports PP
noncomputable def partsAt (i : Nat) : Option (Arguments × List Stmt × Scope) := match bodyL.drop i with
  | .FunctionDef _ a b _ _ _ s _ _ _ :: _ => some (a, b, s)
  | _ => none
noncomputable def fnObj? (i : Nat) (cls : Value) (name : Str) (globals : Addr) (pm code : Value) : Option Obj := (partsAt i).map fun x =>
  ⟨cls, none, .func { name := name, qualname := name, params := x.1, body := .stmts x.2.1, scope := x.2.2, globals := globals, closure := [], defaults := .none, kwdefaults := .none, pyModule := pm, code := code }, #[]⟩
noncomputable abbrev cB : Code := Code.body bodyL hd.env_1
noncomputable abbrev annV : Option Value := some (.ref 6)
noncomputable abbrev fB : List Frame := [topFrame ⟨0, 0, 0, 0⟩]
noncomputable abbrev S (T : Params → BT) (n toks : Nat) (w : World) (os : OsState) : SharedT := ⟨T w.params, n, {}, ⟨[]⟩, {}, toks, os⟩
noncomputable def sts (i n : Nat) : List Stmt := (bodyL.drop i).take n
noncomputable def x137 (_ : Params) : Obj := { cls := Value.type "list", data := Data.seq #[Value.int 173 363, Value.int 847 364, Value.int 6150 365, Value.int 6155 366, Value.int 6156 367, Value.int 6157 368, Value.int 8203 369, Value.int 8204 370, Value.int 8205 371, Value.int 8288 372, Value.int 65279 373] }
noncomputable def x138 (_ : Params) : Obj := { cls := Value.type "range", data := Data.fields #[Value.int 65024 374, Value.int 65040 375, Value.int 1 376] }
noncomputable def x139 (_ : Params) : Obj := { cls := Value.type "list", data := Data.seq #[Value.int 65024 379, Value.int 65025 380, Value.int 65026 381, Value.int 65027 382, Value.int 65028 383, Value.int 65029 384, Value.int 65030 385, Value.int 65031 386, Value.int 65032 387, Value.int 65033 388, Value.int 65034 389, Value.int 65035 390, Value.int 65036 391, Value.int 65037 392, Value.int 65038 393, Value.int 65039 394] 18 }
noncomputable def x140 (_ : Params) : Obj := { cls := Value.type "range_iterator", data := Data.fields #[Value.int 65040 0, Value.int 0 0, Value.int 1 0] }
noncomputable def x141 (_ : Params) : Obj := { cls := Value.type "tuple", data := Data.seq #[] }
noncomputable def x142 (_ : Params) : Obj := { cls := Value.type "StopIteration", data := Data.fields #[Value.ref 141, Value.none, Value.none, Value.none, Value.bool Bool.false, Value.none] }
noncomputable def x143 (_ : Params) : Obj := { cls := Value.type "list", data := Data.seq #[Value.int 173 363, Value.int 847 364, Value.int 6150 365, Value.int 6155 366, Value.int 6156 367, Value.int 6157 368, Value.int 8203 369, Value.int 8204 370, Value.int 8205 371, Value.int 8288 372, Value.int 65279 373, Value.int 65024 379, Value.int 65025 380, Value.int 65026 381, Value.int 65027 382, Value.int 65028 383, Value.int 65029 384, Value.int 65030 385, Value.int 65031 386, Value.int 65032 387, Value.int 65033 388, Value.int 65034 389, Value.int 65035 390, Value.int 65036 391, Value.int 65037 392, Value.int 65038 393, Value.int 65039 394] }
noncomputable def x144 (P : Params) : Obj := { cls := Value.type "set", data := Data.set #[(65024, Value.int 65024 379), (65025, Value.int 65025 380), (65026, Value.int 65026 381), (65027, Value.int 65027 382), (65028, Value.int 65028 383), (65029, Value.int 65029 384), (6150, Value.int 6150 365), (65030, Value.int 65030 385), (65031, Value.int 65031 386), (65032, Value.int 65032 387), (65033, Value.int 65033 388), (6155, Value.int 6155 366), (6156, Value.int 6156 367), (6157, Value.int 6157 368), (8203, Value.int 8203 369), (8204, Value.int 8204 370), (8205, Value.int 8205 371), (65034, Value.int 65034 389), (65035, Value.int 65035 390), (65036, Value.int 65036 391), (65037, Value.int 65037 392), (65038, Value.int 65038 393), (65039, Value.int 65039 394), (173, Value.int 173 363), (847, Value.int 847 364), (8288, Value.int 8288 372), (65279, Value.int 65279 373)] 29 { mask := 127, place := #[0, 1, 2, 3, 4, 5, 6, 7, 8, 9, 10, 11, 12, 13, 14, 15, 16, 17, 18, 19, 20, 21, 22, 45, 79, 96, 127], dummies := #[], finger := 0, led := !P.followText "set-order", moves := 2, plain := Bool.true } }
noncomputable def x145 (_ : Params) : Obj := { cls := Value.type "list_iterator", data := Data.fields #[Value.none, Value.int 27 0] }
noncomputable def x146 (_ : Params) : Obj := { cls := Value.type "tuple", data := Data.seq #[] }
noncomputable def x147 (_ : Params) : Obj := { cls := Value.type "StopIteration", data := Data.fields #[Value.ref 146, Value.none, Value.none, Value.none, Value.bool Bool.false, Value.none] }
noncomputable def m20 (P : Params) : Obj := { cls := Value.type "dict", data := Data.dict #[{ hash := PyData.keyHash P (Str.ofString "__name__"), key := Value.str (Str.ofString "__name__") 165, val := Value.str (Str.ofString "cpy313.stringprep") 361 }, { hash := PyData.keyHash P (Str.ofString "__doc__"), key := Value.str (Str.ofString "__doc__") 166, val := Value.none }, { hash := PyData.keyHash P (Str.ofString "__package__"), key := Value.str (Str.ofString "__package__") 167, val := Value.none }, { hash := PyData.keyHash P (Str.ofString "__loader__"), key := Value.str (Str.ofString "__loader__") 168, val := Value.builtin "__main__.__loader__#opaque" }, { hash := PyData.keyHash P (Str.ofString "__spec__"), key := Value.str (Str.ofString "__spec__") 169, val := Value.none }, { hash := PyData.keyHash P (Str.ofString "__annotations__"), key := Value.str (Str.ofString "__annotations__") 170, val := Value.ref 6 }, { hash := PyData.keyHash P (Str.ofString "__builtins__"), key := Value.str (Str.ofString "__builtins__") 171, val := Value.ref 4 }, { hash := PyData.keyHash P (Str.ofString "__file__"), key := Value.str (Str.ofString "__file__") 173, val := Value.str (Str.ofString "/claim/cut.py") 172 }, { hash := PyData.keyHash P (Str.ofString "__cached__"), key := Value.str (Str.ofString "__cached__") 174, val := Value.none }, { hash := PyData.keyHash P (Str.ofString "_wall"), key := Value.str (Str.ofString "_wall") 193, val := Value.ref 21 }, { hash := PyData.keyHash P (Str.ofString "_plain_name"), key := Value.str (Str.ofString "_plain_name") 204, val := Value.ref 28 }, { hash := PyData.keyHash P (Str.ofString "ABCMeta"), key := Value.str (Str.ofString "ABCMeta") 230, val := Value.ref 45 }, { hash := PyData.keyHash P (Str.ofString "_ABCLike"), key := Value.str (Str.ofString "_ABCLike") 273, val := Value.ref 78 }, { hash := PyData.keyHash P (Str.ofString "_abc_plain_meta"), key := Value.str (Str.ofString "_abc_plain_meta") 280, val := Value.ref 87 }, { hash := PyData.keyHash P (Str.ofString "fspath"), key := Value.str (Str.ofString "fspath") 292, val := Value.ref 94 }, { hash := PyData.keyHash P (Str.ofString "_check_arg_types"), key := Value.str (Str.ofString "_check_arg_types") 305, val := Value.ref 101 }, { hash := PyData.keyHash P (Str.ofString "_get_sep"), key := Value.str (Str.ofString "_get_sep") 314, val := Value.ref 108 }, { hash := PyData.keyHash P (Str.ofString "join"), key := Value.str (Str.ofString "join") 325, val := Value.ref 115 }, { hash := PyData.keyHash P (Str.ofString "split"), key := Value.str (Str.ofString "split") 336, val := Value.ref 122 }, { hash := PyData.keyHash P (Str.ofString "splitroot"), key := Value.str (Str.ofString "splitroot") 345, val := Value.ref 129 }, { hash := PyData.keyHash P (Str.ofString "normpath"), key := Value.str (Str.ofString "normpath") 360, val := Value.ref 136 }, { hash := PyData.keyHash P (Str.ofString "b1_set"), key := Value.str (Str.ofString "b1_set") 422, val := Value.ref 144 }] 22 }
noncomputable def T20 (P : Params) : BT := ((((((((((((hd.tree_135 P).ins 137 (x137 P)).ins 138 (x138 P)).ins 139 (x139 P)).ins 140 (x140 P)).ins 141 (x141 P)).ins 142 (x142 P)).ins 143 (x143 P)).ins 144 (x144 P)).ins 145 (x145 P)).ins 146 (x146 P)).ins 147 (x147 P)).set 3 (fun _ => m20 P)
noncomputable def piece19 (w : World) (os : OsState) : Prop := segRunT treeTable PP w 11 annV 1 999 (S hd.tree_135 137 363 w os) (piecesOf (sts 19 1) hd.env_1 cB ⟨133, 0, 133, 8⟩ fB) = some (.next, S T20 148 423 w os, cB, ⟨134, 0, 134, 6⟩)
lay_quick Mine.piece19
theorem p19a (w : World) (os : OsState) : piece19 ((w.withFollow "set-order" false).withFollow "special-get-raises" false) os := by rw [PySem.W.Fast.te795243151158967707]; delta PySem.W.Fast.tw795243151158967707; kernel_rfl
theorem p19b (w : World) (os : OsState) : piece19 ((w.withFollow "set-order" true).withFollow "special-get-raises" false) os := by rw [PySem.W.Fast.te795243151158967707]; delta PySem.W.Fast.tw795243151158967707; kernel_rfl
theorem p19c (w : World) (os : OsState) : piece19 ((w.withFollow "set-order" false).withFollow "special-get-raises" true) os := by rw [PySem.W.Fast.te795243151158967707]; delta PySem.W.Fast.tw795243151158967707; kernel_rfl
theorem p19d (w : World) (os : OsState) : piece19 ((w.withFollow "set-order" true).withFollow "special-get-raises" true) os := by rw [PySem.W.Fast.te795243151158967707]; delta PySem.W.Fast.tw795243151158967707; kernel_rfl
theorem piece19_ok (w : World) (os : OsState) : piece19 w os :=
  byRow2 "special-get-raises" (P := fun w => piece19 w os)
    (fun w => byRow2 "set-order" (P := fun w => piece19 (w.withFollow "special-get-raises" false) os) (fun w => p19a w os) (fun w => p19b w os) w)
    (fun w => byRow2 "set-order" (P := fun w => piece19 (w.withFollow "special-get-raises" true) os) (fun w => p19c w os) (fun w => p19d w os) w) w
noncomputable def x148 (_ : Params) : Obj := { cls := Value.type "tuple", data := Data.seq #[] }
noncomputable def x149 (_ : Params) : Obj := { cls := Value.none, data := Data.fields #[] }
noncomputable def x150 (_ : Params) : Obj := { cls := Value.type "tuple", data := Data.seq #[Value.str (Str.ofString "code") 426] }
noncomputable def x151 (_ : Params) : Obj := { cls := Value.type "tuple", data := Data.seq #[] }
noncomputable def y152 : {o : Obj // fnObj? 20 (Value.none) (Str.ofString "in_table_b1") 0 (Value.none) (Value.none) = some o} := ⟨⟨_, _, .func ⟨_, _, _, .stmts _, _, _, _, _, _, _, _, _, _, _, _⟩, _⟩, rfl⟩
noncomputable def x152 (_ : Params) : Obj := y152.1
noncomputable def x153 (_ : Params) : Obj := { cls := Value.type "code", data := Data.fields #[Value.str (Str.ofString "in_table_b1") 423, Value.str (Str.ofString "in_table_b1") 424, Value.str (Str.ofString "/claim/cut.py") 425, Value.int 135 0, Value.int 1 0, Value.int 0 0, Value.int 0 0, Value.int 3 0, Value.ref 148, Value.bool Bool.true, Value.int 181 0, Value.ref 149, Value.none, Value.ref 150, Value.ref 151, Value.ref 152, Value.int 427 0, Value.int 135 0, Value.str (Str.ofString "/claim/cut.py") 428] }
noncomputable def y154 : {o : Obj // fnObj? 20 (Value.type "function") (Str.ofString "in_table_b1") 3 (Value.str (Str.ofString "cpy313.stringprep") 361) (Value.ref 153) = some o} := ⟨⟨_, _, .func ⟨_, _, _, .stmts _, _, _, _, _, _, _, _, _, _, _, _⟩, _⟩, rfl⟩
noncomputable def x154 (_ : Params) : Obj := y154.1
noncomputable def m21 (P : Params) : Obj := { cls := Value.type "dict", data := Data.dict #[{ hash := PyData.keyHash P (Str.ofString "__name__"), key := Value.str (Str.ofString "__name__") 165, val := Value.str (Str.ofString "cpy313.stringprep") 361 }, { hash := PyData.keyHash P (Str.ofString "__doc__"), key := Value.str (Str.ofString "__doc__") 166, val := Value.none }, { hash := PyData.keyHash P (Str.ofString "__package__"), key := Value.str (Str.ofString "__package__") 167, val := Value.none }, { hash := PyData.keyHash P (Str.ofString "__loader__"), key := Value.str (Str.ofString "__loader__") 168, val := Value.builtin "__main__.__loader__#opaque" }, { hash := PyData.keyHash P (Str.ofString "__spec__"), key := Value.str (Str.ofString "__spec__") 169, val := Value.none }, { hash := PyData.keyHash P (Str.ofString "__annotations__"), key := Value.str (Str.ofString "__annotations__") 170, val := Value.ref 6 }, { hash := PyData.keyHash P (Str.ofString "__builtins__"), key := Value.str (Str.ofString "__builtins__") 171, val := Value.ref 4 }, { hash := PyData.keyHash P (Str.ofString "__file__"), key := Value.str (Str.ofString "__file__") 173, val := Value.str (Str.ofString "/claim/cut.py") 172 }, { hash := PyData.keyHash P (Str.ofString "__cached__"), key := Value.str (Str.ofString "__cached__") 174, val := Value.none }, { hash := PyData.keyHash P (Str.ofString "_wall"), key := Value.str (Str.ofString "_wall") 193, val := Value.ref 21 }, { hash := PyData.keyHash P (Str.ofString "_plain_name"), key := Value.str (Str.ofString "_plain_name") 204, val := Value.ref 28 }, { hash := PyData.keyHash P (Str.ofString "ABCMeta"), key := Value.str (Str.ofString "ABCMeta") 230, val := Value.ref 45 }, { hash := PyData.keyHash P (Str.ofString "_ABCLike"), key := Value.str (Str.ofString "_ABCLike") 273, val := Value.ref 78 }, { hash := PyData.keyHash P (Str.ofString "_abc_plain_meta"), key := Value.str (Str.ofString "_abc_plain_meta") 280, val := Value.ref 87 }, { hash := PyData.keyHash P (Str.ofString "fspath"), key := Value.str (Str.ofString "fspath") 292, val := Value.ref 94 }, { hash := PyData.keyHash P (Str.ofString "_check_arg_types"), key := Value.str (Str.ofString "_check_arg_types") 305, val := Value.ref 101 }, { hash := PyData.keyHash P (Str.ofString "_get_sep"), key := Value.str (Str.ofString "_get_sep") 314, val := Value.ref 108 }, { hash := PyData.keyHash P (Str.ofString "join"), key := Value.str (Str.ofString "join") 325, val := Value.ref 115 }, { hash := PyData.keyHash P (Str.ofString "split"), key := Value.str (Str.ofString "split") 336, val := Value.ref 122 }, { hash := PyData.keyHash P (Str.ofString "splitroot"), key := Value.str (Str.ofString "splitroot") 345, val := Value.ref 129 }, { hash := PyData.keyHash P (Str.ofString "normpath"), key := Value.str (Str.ofString "normpath") 360, val := Value.ref 136 }, { hash := PyData.keyHash P (Str.ofString "b1_set"), key := Value.str (Str.ofString "b1_set") 422, val := Value.ref 144 }, { hash := PyData.keyHash P (Str.ofString "in_table_b1"), key := Value.str (Str.ofString "in_table_b1") 429, val := Value.ref 154 }] 23 }
noncomputable def c21 (_ : Params) : Obj := { cls := Value.none, data := Data.fields #[Value.int 1 0, Value.int 0 0, Value.ref 20, Value.int 5 0, Value.int 0 0, Value.ref 27, Value.int 11 0, Value.int 0 0, Value.ref 34, Value.int 16 0, Value.int 0 0, Value.ref 53, Value.int 31 0, Value.int 0 0, Value.ref 86, Value.int 35 0, Value.int 0 0, Value.ref 93, Value.int 52 0, Value.int 0 0, Value.ref 100, Value.int 64 0, Value.int 0 0, Value.ref 107, Value.int 69 0, Value.int 0 0, Value.ref 114, Value.int 86 0, Value.int 0 0, Value.ref 121, Value.int 94 0, Value.int 0 0, Value.ref 128, Value.int 108 0, Value.int 0 0, Value.ref 135, Value.int 135 0, Value.int 0 0, Value.ref 153] }
noncomputable def T21 (P : Params) : BT := (((((((((T20 P).ins 148 (x148 P)).ins 149 (x149 P)).ins 150 (x150 P)).ins 151 (x151 P)).ins 152 (x152 P)).ins 153 (x153 P)).ins 154 (x154 P)).set 3 (fun _ => m21 P)).set 12 (fun _ => c21 P)
noncomputable def piece20 (w : World) (os : OsState) : Prop := segRunT treeTable PP w 11 annV 1 30 (S T20 148 423 w os) (piecesOf (sts 20 1) hd.env_1 cB ⟨134, 0, 134, 6⟩ fB) = some (.next, S T21 155 430 w os, cB, ⟨135, 0, 136, 30⟩)
lay_quick Mine.piece20
theorem piece20_ok (w : World) (os : OsState) : piece20 w os := by
  rw [PySem.W.Fast.te15635563317660580870]; delta PySem.W.Fast.tw15635563317660580870; kernel_rfl
noncomputable def b3Row : List Stmt → Option (List (Option PySem.Expr) × List PySem.Expr × Pos)
  | .Assign _ (.Dict ks vs p) _ :: _ => some (ks, vs, p)
  | _ => none
noncomputable def b3Pairs : List (Option PySem.Expr) → List PySem.Expr → List (Int × Str)
  | some (.Constant (.int k) _ _) :: ks, .Constant (.str x) _ _ :: vs => (k, x) :: b3Pairs ks vs
  | _, _ => []
noncomputable def b3Tab : List (Int × Str) := match b3Row (sts 21 1) with
  | some (ks, vs, _) => b3Pairs ks vs
  | none => []
noncomputable def ents (d : Nat) : Nat → List (Int × Str) → List DictEntry
  | _, [] => []
  | t, e :: r => ⟨e.1, .int e.1 t, .str e.2 (t + 1)⟩ :: ents d (t + d) r
noncomputable def dObj (es : List DictEntry) (n : Nat) : Obj := { cls := .type "dict", data := .dict es.toArray n }
noncomputable def chunk (j : Nat) : List (Int × Str) := (b3Tab.drop (17 * j)).take 17
noncomputable def subObj (j : Nat) : Obj := dObj (ents 3 (430 + 51 * j) (chunk j)) 17
noncomputable def lastObj : Obj := dObj (ents 2 2368 (b3Tab.drop 646)) 4
noncomputable def x155 (_ : Params) : Obj := dObj (ents 3 430 (b3Tab.take 646) ++ ents 2 2368 (b3Tab.drop 646)) 650
noncomputable def m22 (P : Params) : Obj := { cls := Value.type "dict", data := Data.dict #[{ hash := PyData.keyHash P (Str.ofString "__name__"), key := Value.str (Str.ofString "__name__") 165, val := Value.str (Str.ofString "cpy313.stringprep") 361 }, { hash := PyData.keyHash P (Str.ofString "__doc__"), key := Value.str (Str.ofString "__doc__") 166, val := Value.none }, { hash := PyData.keyHash P (Str.ofString "__package__"), key := Value.str (Str.ofString "__package__") 167, val := Value.none }, { hash := PyData.keyHash P (Str.ofString "__loader__"), key := Value.str (Str.ofString "__loader__") 168, val := Value.builtin "__main__.__loader__#opaque" }, { hash := PyData.keyHash P (Str.ofString "__spec__"), key := Value.str (Str.ofString "__spec__") 169, val := Value.none }, { hash := PyData.keyHash P (Str.ofString "__annotations__"), key := Value.str (Str.ofString "__annotations__") 170, val := Value.ref 6 }, { hash := PyData.keyHash P (Str.ofString "__builtins__"), key := Value.str (Str.ofString "__builtins__") 171, val := Value.ref 4 }, { hash := PyData.keyHash P (Str.ofString "__file__"), key := Value.str (Str.ofString "__file__") 173, val := Value.str (Str.ofString "/claim/cut.py") 172 }, { hash := PyData.keyHash P (Str.ofString "__cached__"), key := Value.str (Str.ofString "__cached__") 174, val := Value.none }, { hash := PyData.keyHash P (Str.ofString "_wall"), key := Value.str (Str.ofString "_wall") 193, val := Value.ref 21 }, { hash := PyData.keyHash P (Str.ofString "_plain_name"), key := Value.str (Str.ofString "_plain_name") 204, val := Value.ref 28 }, { hash := PyData.keyHash P (Str.ofString "ABCMeta"), key := Value.str (Str.ofString "ABCMeta") 230, val := Value.ref 45 }, { hash := PyData.keyHash P (Str.ofString "_ABCLike"), key := Value.str (Str.ofString "_ABCLike") 273, val := Value.ref 78 }, { hash := PyData.keyHash P (Str.ofString "_abc_plain_meta"), key := Value.str (Str.ofString "_abc_plain_meta") 280, val := Value.ref 87 }, { hash := PyData.keyHash P (Str.ofString "fspath"), key := Value.str (Str.ofString "fspath") 292, val := Value.ref 94 }, { hash := PyData.keyHash P (Str.ofString "_check_arg_types"), key := Value.str (Str.ofString "_check_arg_types") 305, val := Value.ref 101 }, { hash := PyData.keyHash P (Str.ofString "_get_sep"), key := Value.str (Str.ofString "_get_sep") 314, val := Value.ref 108 }, { hash := PyData.keyHash P (Str.ofString "join"), key := Value.str (Str.ofString "join") 325, val := Value.ref 115 }, { hash := PyData.keyHash P (Str.ofString "split"), key := Value.str (Str.ofString "split") 336, val := Value.ref 122 }, { hash := PyData.keyHash P (Str.ofString "splitroot"), key := Value.str (Str.ofString "splitroot") 345, val := Value.ref 129 }, { hash := PyData.keyHash P (Str.ofString "normpath"), key := Value.str (Str.ofString "normpath") 360, val := Value.ref 136 }, { hash := PyData.keyHash P (Str.ofString "b1_set"), key := Value.str (Str.ofString "b1_set") 422, val := Value.ref 144 }, { hash := PyData.keyHash P (Str.ofString "in_table_b1"), key := Value.str (Str.ofString "in_table_b1") 429, val := Value.ref 154 }, { hash := PyData.keyHash P (Str.ofString "b3_exceptions"), key := Value.str (Str.ofString "b3_exceptions") 2380, val := Value.ref 155 }] 24 }
noncomputable def T22 (P : Params) : BT := ((((((((((((((((((((((((((((((((((((((((T21 P).ins 155 (x155 P)).ins 156 (subObj 1)).ins 157 (subObj 2)).ins 158 (subObj 3)).ins 159 (subObj 4)).ins 160 (subObj 5)).ins 161 (subObj 6)).ins 162 (subObj 7)).ins 163 (subObj 8)).ins 164 (subObj 9)).ins 165 (subObj 10)).ins 166 (subObj 11)).ins 167 (subObj 12)).ins 168 (subObj 13)).ins 169 (subObj 14)).ins 170 (subObj 15)).ins 171 (subObj 16)).ins 172 (subObj 17)).ins 173 (subObj 18)).ins 174 (subObj 19)).ins 175 (subObj 20)).ins 176 (subObj 21)).ins 177 (subObj 22)).ins 178 (subObj 23)).ins 179 (subObj 24)).ins 180 (subObj 25)).ins 181 (subObj 26)).ins 182 (subObj 27)).ins 183 (subObj 28)).ins 184 (subObj 29)).ins 185 (subObj 30)).ins 186 (subObj 31)).ins 187 (subObj 32)).ins 188 (subObj 33)).ins 189 (subObj 34)).ins 190 (subObj 35)).ins 191 (subObj 36)).ins 192 (subObj 37)).ins 193 lastObj).set 3 (fun _ => m22 P)
noncomputable def x194 (_ : Params) : Obj := { cls := Value.type "tuple", data := Data.seq #[] }
noncomputable def x195 (_ : Params) : Obj := { cls := Value.none, data := Data.fields #[] }
noncomputable def x196 (_ : Params) : Obj := { cls := Value.type "tuple", data := Data.seq #[Value.str (Str.ofString "code") 2384, Value.str (Str.ofString "r") 2385] }
noncomputable def x197 (_ : Params) : Obj := { cls := Value.type "tuple", data := Data.seq #[] }
noncomputable def y198 : {o : Obj // fnObj? 22 (Value.none) (Str.ofString "map_table_b3") 0 (Value.none) (Value.none) = some o} := ⟨⟨_, _, .func ⟨_, _, _, .stmts _, _, _, _, _, _, _, _, _, _, _, _⟩, _⟩, rfl⟩
noncomputable def x198 (_ : Params) : Obj := y198.1
noncomputable def x199 (_ : Params) : Obj := { cls := Value.type "code", data := Data.fields #[Value.str (Str.ofString "map_table_b3") 2381, Value.str (Str.ofString "map_table_b3") 2382, Value.str (Str.ofString "/claim/cut.py") 2383, Value.int 138 0, Value.int 1 0, Value.int 0 0, Value.int 0 0, Value.int 3 0, Value.ref 194, Value.bool Bool.true, Value.int 181 0, Value.ref 195, Value.none, Value.ref 196, Value.ref 197, Value.ref 198, Value.int 2386 0, Value.int 138 0, Value.str (Str.ofString "/claim/cut.py") 2387] }
noncomputable def y200 : {o : Obj // fnObj? 22 (Value.type "function") (Str.ofString "map_table_b3") 3 (Value.str (Str.ofString "cpy313.stringprep") 361) (Value.ref 199) = some o} := ⟨⟨_, _, .func ⟨_, _, _, .stmts _, _, _, _, _, _, _, _, _, _, _, _⟩, _⟩, rfl⟩
noncomputable def x200 (_ : Params) : Obj := y200.1
noncomputable def x201 (_ : Params) : Obj := { cls := Value.type "tuple", data := Data.seq #[] }
noncomputable def x202 (_ : Params) : Obj := { cls := Value.none, data := Data.fields #[] }
noncomputable def x203 (_ : Params) : Obj := { cls := Value.type "tuple", data := Data.seq #[Value.str (Str.ofString "turn") 2394, Value.str (Str.ofString "place") 2395] }
noncomputable def x204 (_ : Params) : Obj := { cls := Value.type "tuple", data := Data.seq #[] }
noncomputable def y205 : {o : Obj // fnObj? 24 (Value.none) (Str.ofString "_law_gone") 0 (Value.none) (Value.none) = some o} := ⟨⟨_, _, .func ⟨_, _, _, .stmts _, _, _, _, _, _, _, _, _, _, _, _⟩, _⟩, rfl⟩
noncomputable def x205 (_ : Params) : Obj := y205.1
noncomputable def x206 (_ : Params) : Obj := { cls := Value.type "code", data := Data.fields #[Value.str (Str.ofString "_law_gone") 2391, Value.str (Str.ofString "_law_gone") 2392, Value.str (Str.ofString "/claim/cut.py") 2393, Value.int 144 0, Value.int 1 0, Value.int 0 0, Value.int 0 0, Value.int 3 0, Value.ref 201, Value.bool Bool.true, Value.int 181 0, Value.ref 202, Value.none, Value.ref 203, Value.ref 204, Value.ref 205, Value.int 2396 0, Value.int 144 0, Value.str (Str.ofString "/claim/cut.py") 2397] }
noncomputable def y207 : {o : Obj // fnObj? 24 (Value.type "function") (Str.ofString "_law_gone") 3 (Value.str (Str.ofString "law_pd0025_01") 2389) (Value.ref 206) = some o} := ⟨⟨_, _, .func ⟨_, _, _, .stmts _, _, _, _, _, _, _, _, _, _, _, _⟩, _⟩, rfl⟩
noncomputable def x207 (_ : Params) : Obj := y207.1
noncomputable def x208 (_ : Params) : Obj := { cls := Value.type "tuple", data := Data.seq #[] }
noncomputable def x209 (_ : Params) : Obj := { cls := Value.none, data := Data.fields #[] }
noncomputable def x210 (_ : Params) : Obj := { cls := Value.type "tuple", data := Data.seq #[Value.str (Str.ofString "turn") 2402, Value.str (Str.ofString "code") 2403, Value.str (Str.ofString "plain") 2404] }
noncomputable def x211 (_ : Params) : Obj := { cls := Value.type "tuple", data := Data.seq #[] }
noncomputable def y212 : {o : Obj // fnObj? 25 (Value.none) (Str.ofString "_law_special") 0 (Value.none) (Value.none) = some o} := ⟨⟨_, _, .func ⟨_, _, _, .stmts _, _, _, _, _, _, _, _, _, _, _, _⟩, _⟩, rfl⟩
noncomputable def x212 (_ : Params) : Obj := y212.1
noncomputable def x213 (_ : Params) : Obj := { cls := Value.type "code", data := Data.fields #[Value.str (Str.ofString "_law_special") 2399, Value.str (Str.ofString "_law_special") 2400, Value.str (Str.ofString "/claim/cut.py") 2401, Value.int 147 0, Value.int 1 0, Value.int 0 0, Value.int 0 0, Value.int 3 0, Value.ref 208, Value.bool Bool.true, Value.int 181 0, Value.ref 209, Value.none, Value.ref 210, Value.ref 211, Value.ref 212, Value.int 2405 0, Value.int 147 0, Value.str (Str.ofString "/claim/cut.py") 2406] }
noncomputable def y214 : {o : Obj // fnObj? 25 (Value.type "function") (Str.ofString "_law_special") 3 (Value.str (Str.ofString "law_pd0025_01") 2389) (Value.ref 213) = some o} := ⟨⟨_, _, .func ⟨_, _, _, .stmts _, _, _, _, _, _, _, _, _, _, _, _⟩, _⟩, rfl⟩
noncomputable def x214 (_ : Params) : Obj := y214.1
noncomputable def x215 (_ : Params) : Obj := { cls := Value.type "tuple", data := Data.seq #[] }
noncomputable def x216 (_ : Params) : Obj := { cls := Value.none, data := Data.fields #[] }
noncomputable def x217 (_ : Params) : Obj := { cls := Value.type "tuple", data := Data.seq #[Value.str (Str.ofString "numbers") 2411, Value.str (Str.ofString "written") 2412, Value.str (Str.ofString "plain") 2413, Value.str (Str.ofString "number") 2414, Value.str (Str.ofString "figure") 2415, Value.str (Str.ofString "turn") 2416, Value.str (Str.ofString "sign") 2417, Value.str (Str.ofString "meant") 2418] }
noncomputable def x218 (_ : Params) : Obj := { cls := Value.type "tuple", data := Data.seq #[] }
noncomputable def y219 : {o : Obj // fnObj? 26 (Value.none) (Str.ofString "_law_spelled") 0 (Value.none) (Value.none) = some o} := ⟨⟨_, _, .func ⟨_, _, _, .stmts _, _, _, _, _, _, _, _, _, _, _, _⟩, _⟩, rfl⟩
noncomputable def x219 (_ : Params) : Obj := y219.1
noncomputable def x220 (_ : Params) : Obj := { cls := Value.type "code", data := Data.fields #[Value.str (Str.ofString "_law_spelled") 2408, Value.str (Str.ofString "_law_spelled") 2409, Value.str (Str.ofString "/claim/cut.py") 2410, Value.int 150 0, Value.int 1 0, Value.int 0 0, Value.int 0 0, Value.int 3 0, Value.ref 215, Value.bool Bool.true, Value.int 181 0, Value.ref 216, Value.none, Value.ref 217, Value.ref 218, Value.ref 219, Value.int 2419 0, Value.int 150 0, Value.str (Str.ofString "/claim/cut.py") 2420] }
noncomputable def y221 : {o : Obj // fnObj? 26 (Value.type "function") (Str.ofString "_law_spelled") 3 (Value.str (Str.ofString "law_pd0025_01") 2389) (Value.ref 220) = some o} := ⟨⟨_, _, .func ⟨_, _, _, .stmts _, _, _, _, _, _, _, _, _, _, _, _⟩, _⟩, rfl⟩
noncomputable def x221 (_ : Params) : Obj := y221.1
noncomputable def x222 (_ : Params) : Obj := { cls := Value.type "tuple", data := Data.seq #[] }
noncomputable def x223 (_ : Params) : Obj := { cls := Value.none, data := Data.fields #[] }
noncomputable def y224 : {o : Obj // fnObj? 27 (Value.none) (Str.ofString "_law_prepared") 0 (Value.none) (Value.none) = some o} := ⟨⟨_, _, .func ⟨_, _, _, .stmts _, _, _, _, _, _, _, _, _, _, _, _⟩, _⟩, rfl⟩
noncomputable def x224 (_ : Params) : Obj := y224.1
noncomputable def x225 (_ : Params) : Obj := { cls := Value.type "code", data := Data.fields #[Value.str (Str.ofString "_law_prepared") 2422, Value.str (Str.ofString "_law_prepared") 2423, Value.str (Str.ofString "/claim/cut.py") 2424, Value.int 167 0, Value.int 1 0, Value.int 0 0, Value.int 0 0, Value.int 3 0, Value.ref 222, Value.bool Bool.true, Value.int 181 0, Value.ref 223, Value.none, Value.none, Value.none, Value.ref 224, Value.int 2425 0, Value.int 167 0, Value.str (Str.ofString "/claim/cut.py") 2426] }
noncomputable def y226 : {o : Obj // fnObj? 27 (Value.type "function") (Str.ofString "_law_prepared") 3 (Value.str (Str.ofString "law_pd0025_01") 2389) (Value.ref 225) = some o} := ⟨⟨_, _, .func ⟨_, _, _, .stmts _, _, _, _, _, _, _, _, _, _, _, _⟩, _⟩, rfl⟩
noncomputable def x226 (_ : Params) : Obj := y226.1
noncomputable def x227 (_ : Params) : Obj := { cls := Value.type "tuple", data := Data.seq #[] }
noncomputable def x228 (_ : Params) : Obj := { cls := Value.none, data := Data.fields #[] }
noncomputable def x229 (_ : Params) : Obj := { cls := Value.type "tuple", data := Data.seq #[Value.str (Str.ofString "path") 2431, Value.str (Str.ofString "names") 2432, Value.str (Str.ofString "head") 2433, Value.str (Str.ofString "tail") 2434] }
noncomputable def x230 (_ : Params) : Obj := { cls := Value.type "tuple", data := Data.seq #[] }
noncomputable def y231 : {o : Obj // fnObj? 28 (Value.none) (Str.ofString "_law_by_names") 0 (Value.none) (Value.none) = some o} := ⟨⟨_, _, .func ⟨_, _, _, .stmts _, _, _, _, _, _, _, _, _, _, _, _⟩, _⟩, rfl⟩
noncomputable def x231 (_ : Params) : Obj := y231.1
noncomputable def x232 (_ : Params) : Obj := { cls := Value.type "code", data := Data.fields #[Value.str (Str.ofString "_law_by_names") 2428, Value.str (Str.ofString "_law_by_names") 2429, Value.str (Str.ofString "/claim/cut.py") 2430, Value.int 169 0, Value.int 1 0, Value.int 0 0, Value.int 0 0, Value.int 3 0, Value.ref 227, Value.bool Bool.true, Value.int 181 0, Value.ref 228, Value.none, Value.ref 229, Value.ref 230, Value.ref 231, Value.int 2435 0, Value.int 169 0, Value.str (Str.ofString "/claim/cut.py") 2436] }
noncomputable def y233 : {o : Obj // fnObj? 28 (Value.type "function") (Str.ofString "_law_by_names") 3 (Value.str (Str.ofString "law_pd0025_01") 2389) (Value.ref 232) = some o} := ⟨⟨_, _, .func ⟨_, _, _, .stmts _, _, _, _, _, _, _, _, _, _, _, _⟩, _⟩, rfl⟩
noncomputable def x233 (_ : Params) : Obj := y233.1
noncomputable def x234 (_ : Params) : Obj := { cls := Value.type "tuple", data := Data.seq #[] }
noncomputable def x235 (_ : Params) : Obj := { cls := Value.none, data := Data.fields #[] }
noncomputable def x236 (_ : Params) : Obj := { cls := Value.type "tuple", data := Data.seq #[Value.str (Str.ofString "path") 2441, Value.str (Str.ofString "ahead") 2442] }
noncomputable def x237 (_ : Params) : Obj := { cls := Value.type "tuple", data := Data.seq #[] }
noncomputable def y238 : {o : Obj // fnObj? 29 (Value.none) (Str.ofString "_law_root") 0 (Value.none) (Value.none) = some o} := ⟨⟨_, _, .func ⟨_, _, _, .stmts _, _, _, _, _, _, _, _, _, _, _, _⟩, _⟩, rfl⟩
noncomputable def x238 (_ : Params) : Obj := y238.1
noncomputable def x239 (_ : Params) : Obj := { cls := Value.type "code", data := Data.fields #[Value.str (Str.ofString "_law_root") 2438, Value.str (Str.ofString "_law_root") 2439, Value.str (Str.ofString "/claim/cut.py") 2440, Value.int 177 0, Value.int 1 0, Value.int 0 0, Value.int 0 0, Value.int 3 0, Value.ref 234, Value.bool Bool.true, Value.int 181 0, Value.ref 235, Value.none, Value.ref 236, Value.ref 237, Value.ref 238, Value.int 2443 0, Value.int 177 0, Value.str (Str.ofString "/claim/cut.py") 2444] }
noncomputable def y240 : {o : Obj // fnObj? 29 (Value.type "function") (Str.ofString "_law_root") 3 (Value.str (Str.ofString "law_pd0025_01") 2389) (Value.ref 239) = some o} := ⟨⟨_, _, .func ⟨_, _, _, .stmts _, _, _, _, _, _, _, _, _, _, _, _⟩, _⟩, rfl⟩
noncomputable def x240 (_ : Params) : Obj := y240.1
noncomputable def x241 (_ : Params) : Obj := { cls := Value.type "tuple", data := Data.seq #[] }
noncomputable def x242 (_ : Params) : Obj := { cls := Value.none, data := Data.fields #[] }
noncomputable def y243 : {o : Obj // fnObj? 30 (Value.none) (Str.ofString "_law_kept") 0 (Value.none) (Value.none) = some o} := ⟨⟨_, _, .func ⟨_, _, _, .stmts _, _, _, _, _, _, _, _, _, _, _, _⟩, _⟩, rfl⟩
noncomputable def x243 (_ : Params) : Obj := y243.1
noncomputable def x244 (_ : Params) : Obj := { cls := Value.type "code", data := Data.fields #[Value.str (Str.ofString "_law_kept") 2446, Value.str (Str.ofString "_law_kept") 2447, Value.str (Str.ofString "/claim/cut.py") 2448, Value.int 180 0, Value.int 2 0, Value.int 0 0, Value.int 0 0, Value.int 3 0, Value.ref 241, Value.bool Bool.true, Value.int 181 0, Value.ref 242, Value.none, Value.none, Value.none, Value.ref 243, Value.int 2449 0, Value.int 180 0, Value.str (Str.ofString "/claim/cut.py") 2450] }
noncomputable def y245 : {o : Obj // fnObj? 30 (Value.type "function") (Str.ofString "_law_kept") 3 (Value.str (Str.ofString "law_pd0025_01") 2389) (Value.ref 244) = some o} := ⟨⟨_, _, .func ⟨_, _, _, .stmts _, _, _, _, _, _, _, _, _, _, _, _⟩, _⟩, rfl⟩
noncomputable def x245 (_ : Params) : Obj := y245.1
noncomputable def x246 (_ : Params) : Obj := { cls := Value.type "tuple", data := Data.seq #[] }
noncomputable def x247 (_ : Params) : Obj := { cls := Value.none, data := Data.fields #[] }
noncomputable def y248 : {o : Obj // fnObj? 31 (Value.none) (Str.ofString "_law_straight") 0 (Value.none) (Value.none) = some o} := ⟨⟨_, _, .func ⟨_, _, _, .stmts _, _, _, _, _, _, _, _, _, _, _, _⟩, _⟩, rfl⟩
noncomputable def x248 (_ : Params) : Obj := y248.1
noncomputable def x249 (_ : Params) : Obj := { cls := Value.type "code", data := Data.fields #[Value.str (Str.ofString "_law_straight") 2452, Value.str (Str.ofString "_law_straight") 2453, Value.str (Str.ofString "/claim/cut.py") 2454, Value.int 190 0, Value.int 1 0, Value.int 0 0, Value.int 0 0, Value.int 3 0, Value.ref 246, Value.bool Bool.true, Value.int 181 0, Value.ref 247, Value.none, Value.none, Value.none, Value.ref 248, Value.int 2455 0, Value.int 190 0, Value.str (Str.ofString "/claim/cut.py") 2456] }
noncomputable def y250 : {o : Obj // fnObj? 31 (Value.type "function") (Str.ofString "_law_straight") 3 (Value.str (Str.ofString "law_pd0025_01") 2389) (Value.ref 249) = some o} := ⟨⟨_, _, .func ⟨_, _, _, .stmts _, _, _, _, _, _, _, _, _, _, _, _⟩, _⟩, rfl⟩
noncomputable def x250 (_ : Params) : Obj := y250.1
noncomputable def x251 (_ : Params) : Obj := { cls := Value.type "tuple", data := Data.seq #[] }
noncomputable def x252 (_ : Params) : Obj := { cls := Value.none, data := Data.fields #[] }
noncomputable def y253 : {o : Obj // fnObj? 32 (Value.none) (Str.ofString "law") 0 (Value.none) (Value.none) = some o} := ⟨⟨_, _, .func ⟨_, _, _, .stmts _, _, _, _, _, _, _, _, _, _, _, _⟩, _⟩, rfl⟩
noncomputable def x253 (_ : Params) : Obj := y253.1
noncomputable def x254 (_ : Params) : Obj := { cls := Value.type "code", data := Data.fields #[Value.str (Str.ofString "law") 2458, Value.str (Str.ofString "law") 2459, Value.str (Str.ofString "/claim/cut.py") 2460, Value.int 193 0, Value.int 1 0, Value.int 0 0, Value.int 0 0, Value.int 3 0, Value.ref 251, Value.bool Bool.true, Value.int 181 0, Value.ref 252, Value.none, Value.none, Value.none, Value.ref 253, Value.int 2461 0, Value.int 193 0, Value.str (Str.ofString "/claim/cut.py") 2462] }
noncomputable def y255 : {o : Obj // fnObj? 32 (Value.type "function") (Str.ofString "law") 3 (Value.str (Str.ofString "law_pd0025_01") 2389) (Value.ref 254) = some o} := ⟨⟨_, _, .func ⟨_, _, _, .stmts _, _, _, _, _, _, _, _, _, _, _, _⟩, _⟩, rfl⟩
noncomputable def x255 (_ : Params) : Obj := y255.1
noncomputable def m33 (P : Params) : Obj := { cls := Value.type "dict", data := Data.dict #[{ hash := PyData.keyHash P (Str.ofString "__name__"), key := Value.str (Str.ofString "__name__") 165, val := Value.str (Str.ofString "law_pd0025_01") 2389 }, { hash := PyData.keyHash P (Str.ofString "__doc__"), key := Value.str (Str.ofString "__doc__") 166, val := Value.none }, { hash := PyData.keyHash P (Str.ofString "__package__"), key := Value.str (Str.ofString "__package__") 167, val := Value.none }, { hash := PyData.keyHash P (Str.ofString "__loader__"), key := Value.str (Str.ofString "__loader__") 168, val := Value.builtin "__main__.__loader__#opaque" }, { hash := PyData.keyHash P (Str.ofString "__spec__"), key := Value.str (Str.ofString "__spec__") 169, val := Value.none }, { hash := PyData.keyHash P (Str.ofString "__annotations__"), key := Value.str (Str.ofString "__annotations__") 170, val := Value.ref 6 }, { hash := PyData.keyHash P (Str.ofString "__builtins__"), key := Value.str (Str.ofString "__builtins__") 171, val := Value.ref 4 }, { hash := PyData.keyHash P (Str.ofString "__file__"), key := Value.str (Str.ofString "__file__") 173, val := Value.str (Str.ofString "/claim/cut.py") 172 }, { hash := PyData.keyHash P (Str.ofString "__cached__"), key := Value.str (Str.ofString "__cached__") 174, val := Value.none }, { hash := PyData.keyHash P (Str.ofString "_wall"), key := Value.str (Str.ofString "_wall") 193, val := Value.ref 21 }, { hash := PyData.keyHash P (Str.ofString "_plain_name"), key := Value.str (Str.ofString "_plain_name") 204, val := Value.ref 28 }, { hash := PyData.keyHash P (Str.ofString "ABCMeta"), key := Value.str (Str.ofString "ABCMeta") 230, val := Value.ref 45 }, { hash := PyData.keyHash P (Str.ofString "_ABCLike"), key := Value.str (Str.ofString "_ABCLike") 273, val := Value.ref 78 }, { hash := PyData.keyHash P (Str.ofString "_abc_plain_meta"), key := Value.str (Str.ofString "_abc_plain_meta") 280, val := Value.ref 87 }, { hash := PyData.keyHash P (Str.ofString "fspath"), key := Value.str (Str.ofString "fspath") 292, val := Value.ref 94 }, { hash := PyData.keyHash P (Str.ofString "_check_arg_types"), key := Value.str (Str.ofString "_check_arg_types") 305, val := Value.ref 101 }, { hash := PyData.keyHash P (Str.ofString "_get_sep"), key := Value.str (Str.ofString "_get_sep") 314, val := Value.ref 108 }, { hash := PyData.keyHash P (Str.ofString "join"), key := Value.str (Str.ofString "join") 325, val := Value.ref 115 }, { hash := PyData.keyHash P (Str.ofString "split"), key := Value.str (Str.ofString "split") 336, val := Value.ref 122 }, { hash := PyData.keyHash P (Str.ofString "splitroot"), key := Value.str (Str.ofString "splitroot") 345, val := Value.ref 129 }, { hash := PyData.keyHash P (Str.ofString "normpath"), key := Value.str (Str.ofString "normpath") 360, val := Value.ref 136 }, { hash := PyData.keyHash P (Str.ofString "b1_set"), key := Value.str (Str.ofString "b1_set") 422, val := Value.ref 144 }, { hash := PyData.keyHash P (Str.ofString "in_table_b1"), key := Value.str (Str.ofString "in_table_b1") 429, val := Value.ref 154 }, { hash := PyData.keyHash P (Str.ofString "b3_exceptions"), key := Value.str (Str.ofString "b3_exceptions") 2380, val := Value.ref 155 }, { hash := PyData.keyHash P (Str.ofString "map_table_b3"), key := Value.str (Str.ofString "map_table_b3") 2388, val := Value.ref 200 }, { hash := PyData.keyHash P (Str.ofString "_law_gone"), key := Value.str (Str.ofString "_law_gone") 2398, val := Value.ref 207 }, { hash := PyData.keyHash P (Str.ofString "_law_special"), key := Value.str (Str.ofString "_law_special") 2407, val := Value.ref 214 }, { hash := PyData.keyHash P (Str.ofString "_law_spelled"), key := Value.str (Str.ofString "_law_spelled") 2421, val := Value.ref 221 }, { hash := PyData.keyHash P (Str.ofString "_law_prepared"), key := Value.str (Str.ofString "_law_prepared") 2427, val := Value.ref 226 }, { hash := PyData.keyHash P (Str.ofString "_law_by_names"), key := Value.str (Str.ofString "_law_by_names") 2437, val := Value.ref 233 }, { hash := PyData.keyHash P (Str.ofString "_law_root"), key := Value.str (Str.ofString "_law_root") 2445, val := Value.ref 240 }, { hash := PyData.keyHash P (Str.ofString "_law_kept"), key := Value.str (Str.ofString "_law_kept") 2451, val := Value.ref 245 }, { hash := PyData.keyHash P (Str.ofString "_law_straight"), key := Value.str (Str.ofString "_law_straight") 2457, val := Value.ref 250 }, { hash := PyData.keyHash P (Str.ofString "law"), key := Value.str (Str.ofString "law") 2463, val := Value.ref 255 }] 34 }
noncomputable def c33 (_ : Params) : Obj := { cls := Value.none, data := Data.fields #[Value.int 1 0, Value.int 0 0, Value.ref 20, Value.int 5 0, Value.int 0 0, Value.ref 27, Value.int 11 0, Value.int 0 0, Value.ref 34, Value.int 16 0, Value.int 0 0, Value.ref 53, Value.int 31 0, Value.int 0 0, Value.ref 86, Value.int 35 0, Value.int 0 0, Value.ref 93, Value.int 52 0, Value.int 0 0, Value.ref 100, Value.int 64 0, Value.int 0 0, Value.ref 107, Value.int 69 0, Value.int 0 0, Value.ref 114, Value.int 86 0, Value.int 0 0, Value.ref 121, Value.int 94 0, Value.int 0 0, Value.ref 128, Value.int 108 0, Value.int 0 0, Value.ref 135, Value.int 135 0, Value.int 0 0, Value.ref 153, Value.int 138 0, Value.int 0 0, Value.ref 199, Value.int 144 0, Value.int 0 0, Value.ref 206, Value.int 147 0, Value.int 0 0, Value.ref 213, Value.int 150 0, Value.int 0 0, Value.ref 220, Value.int 167 0, Value.int 0 0, Value.ref 225, Value.int 169 0, Value.int 0 0, Value.ref 232, Value.int 177 0, Value.int 0 0, Value.ref 239, Value.int 180 0, Value.int 0 0, Value.ref 244, Value.int 190 0, Value.int 0 0, Value.ref 249, Value.int 193 0, Value.int 0 0, Value.ref 254] }
noncomputable def T33 (P : Params) : BT := ((((((((((((((((((((((((((((((((((((((((((((((((((((((((((((((((T22 P).ins 194 (x194 P)).ins 195 (x195 P)).ins 196 (x196 P)).ins 197 (x197 P)).ins 198 (x198 P)).ins 199 (x199 P)).ins 200 (x200 P)).ins 201 (x201 P)).ins 202 (x202 P)).ins 203 (x203 P)).ins 204 (x204 P)).ins 205 (x205 P)).ins 206 (x206 P)).ins 207 (x207 P)).ins 208 (x208 P)).ins 209 (x209 P)).ins 210 (x210 P)).ins 211 (x211 P)).ins 212 (x212 P)).ins 213 (x213 P)).ins 214 (x214 P)).ins 215 (x215 P)).ins 216 (x216 P)).ins 217 (x217 P)).ins 218 (x218 P)).ins 219 (x219 P)).ins 220 (x220 P)).ins 221 (x221 P)).ins 222 (x222 P)).ins 223 (x223 P)).ins 224 (x224 P)).ins 225 (x225 P)).ins 226 (x226 P)).ins 227 (x227 P)).ins 228 (x228 P)).ins 229 (x229 P)).ins 230 (x230 P)).ins 231 (x231 P)).ins 232 (x232 P)).ins 233 (x233 P)).ins 234 (x234 P)).ins 235 (x235 P)).ins 236 (x236 P)).ins 237 (x237 P)).ins 238 (x238 P)).ins 239 (x239 P)).ins 240 (x240 P)).ins 241 (x241 P)).ins 242 (x242 P)).ins 243 (x243 P)).ins 244 (x244 P)).ins 245 (x245 P)).ins 246 (x246 P)).ins 247 (x247 P)).ins 248 (x248 P)).ins 249 (x249 P)).ins 250 (x250 P)).ins 251 (x251 P)).ins 252 (x252 P)).ins 253 (x253 P)).ins 254 (x254 P)).ins 255 (x255 P)).set 3 (fun _ => m33 P)).set 12 (fun _ => c33 P)
noncomputable def piece22 (w : World) (os : OsState) : Prop := segRunT treeTable PP w 11 annV 1 303 (S T22 194 2381 w os) (piecesOf (sts 22 11) hd.env_1 cB ⟨137, 0, 137, 13⟩ fB) = some (.next, S T33 256 2464 w os, cB, ⟨193, 0, 207, 67⟩)
lay_quick Mine.piece22
theorem piece22_ok (w : World) (os : OsState) : piece22 w os := by
  rw [PySem.W.Fast.te5726471591237050032]; delta PySem.W.Fast.tw5726471591237050032; kernel_rfl
end Mine
end
section
open PySem PySem.W PyProof.Rows
set_option Elab.async false
set_option maxRecDepth 100000
set_option maxHeartbeats 1000000
namespace Mine
theorem segGo_add {tb : String → Option Builtin} {p : Program} {w : World} {n₀ : Nat} {ann : Option Value} {b : Nat} : ∀ {n m : Nat} {s s1 : Shared} {t t1 : Thread} {r : Option (Shared × Thread)}, segGo tb p w n₀ ann b n s t = some (s1, t1) →
    segGo tb p w n₀ ann b m s1 t1 = r → segGo tb p w n₀ ann b (n + m) s t = r
  | 0, m, s, s1, t, t1, r, h, k => by
    obtain ⟨rfl, rfl⟩ : s = s1 ∧ t = t1 := by simpa [segGo] using h
    rw [Nat.zero_add]; exact k
  | n + 1, m, s, s1, t, t1, r, h, k => by
    rw [show n + 1 + m = n + m + 1 by omega]
    unfold segGo at h ⊢
    cases he : endAt b t with
    | some f => rw [he] at h; cases h
    | none =>
      rw [he] at h
      cases hk : stepOk n₀ ann t with
      | false => rw [hk] at h; cases h
      | true =>
        rw [hk] at h
        cases hs : step (denote tb) p w s t with
        | halt o s₂ => rw [hs] at h; cases h
        | go s₂ t₂ => rw [hs] at h; exact segGo_add h k
/-- a tree runs alone in n steps to its value, whatever stands behind it -/
noncomputable def Go {α : Type} (w : World) (p : Pos) (n : Nat) (s : Shared) (x : Sem α) (s' : Shared) (v : α) : Prop :=
  ∀ (K : α → Sem Fin) (H : Value → Sem Fin) (gd : Bool → Bool) (lv : List Value → List Value), segGo treeTable PP w 11 annV 1 n s ⟨x.wrap K H gd lv, cB, p, fB⟩ = some (s', ⟨K v, cB, p, fB⟩)
section
variable {α β : Type} {w : World} {p : Pos} {s s1 s2 : Shared}
theorem Go.pure (v : α) : Go w p 0 s (Pure.pure v : Sem α) s v := fun _ _ _ _ => rfl
theorem bind_wrap (x : Sem α) (f : α → Sem β) (K : β → Sem Fin) (H : Value → Sem Fin) (gd : Bool → Bool) (lv : List Value → List Value) :
    (x >>= f).wrap K H gd lv = x.wrap (fun a => (f a).wrap K H gd lv) H gd lv := by
  rw [Sem.bind_eq_wrap', Sem.wrap_wrap]
  rfl
theorem Go.bind {x : Sem α} {f : α → Sem β} {n m : Nat} {a : α} {b : β} (h1 : Go w p n s x s1 a) (h2 : Go w p m s1 (f a) s2 b) : Go w p (n + m) s (x >>= f) s2 b := fun K H gd lv => by
  rw [bind_wrap]
  exact segGo_add (h1 _ _ _ _) (h2 _ _ _ _)
theorem Go.keep {x : Sem α} {n : Nat} {a : α} (vs : List Value) (h : Go w p n s x s1 a) : Go w p n s (x.keep vs) s1 a := fun K H gd lv => by
  rw [Sem.keep_eq_wrap, Sem.wrap_wrap]
  exact h _ _ _ _
theorem Go.holding {x : Sem α} {n : Nat} {a : α} (vs : List Value) (h : Go w p n s x s1 a) : Go w p n s (holding vs x) s1 a := by
  unfold PySem.holding
  split
  · exact h
  · exact h.keep _
theorem Go.onRaise {x : Sem α} {n : Nat} {a : α} (r : Value → Sem Unit) (h : Go w p n s x s1 a) : Go w p n s (x.onRaise r) s1 a := fun K H gd lv => by
  rw [Sem.onRaise_eq_wrap, Sem.wrap_wrap]
  exact h _ _ _ _
theorem Go.load {a : Addr} {q : Option Value} {o : Obj} (h : s.heap.get? a = some o) : Go w p 1 s (loadPart a q) s o := fun K H gd lv => by
  obtain ⟨heap, gens, drawn, toks, os⟩ := s
  show segGo treeTable PP w 11 annV 1 1 ⟨heap, gens, drawn, toks, os⟩ ⟨.load a q fun o => K o, cB, p, fB⟩ = _
  unfold segGo
  rw [show endAt 1 ⟨.load a q fun o => K o, cB, p, fB⟩ = none from rfl, show stepOk 11 annV ⟨.load a q fun o => K o, cB, p, fB⟩ = true from rfl]
  dsimp only at h
  simp only [step, h]
  rfl
theorem Go.update {a : Addr} {q : Option Value} {f : Obj → Obj} {o : Obj} (h : s.heap.get? a = some o) (ha : 11 ≤ a) : Go w p 1 s (updatePart a q f) { s with heap := s.heap.update a f } () := fun K H gd lv => by
  obtain ⟨heap, gens, drawn, toks, os⟩ := s
  show segGo treeTable PP w 11 annV 1 1 ⟨heap, gens, drawn, toks, os⟩ ⟨.update a q f fun o => K o, cB, p, fB⟩ = _
  unfold segGo
  have hb : Nat.ble 11 a = true := Nat.ble_eq_true_of_le ha
  rw [show endAt 1 ⟨.update a q f fun o => K o, cB, p, fB⟩ = none from rfl, show stepOk 11 annV ⟨.update a q f fun o => K o, cB, p, fB⟩ = (true && (Nat.ble 11 a || a == mainNs || a == cStatics || annV == some (.ref a))) from rfl, hb]
  dsimp only at h
  simp only [step, h, Option.isSome_some, if_true, Bool.true_or, Bool.and_true]
  rfl
theorem Go.dictEntries {a : Addr} {q : Option Value} {es : List DictEntry} {n : Nat} (h : s.heap.get? a = some (dObj es n)) : Go w p 1 s (dictEntries a q) s es.toArray := by
  unfold PySem.dictEntries
  exact Go.bind (n := 1) (m := 0) (Go.load h) (Go.pure _)
theorem Go.dictEpoch {a : Addr} {q : Option Value} {es : List DictEntry} {n : Nat} (h : s.heap.get? a = some (dObj es n)) : Go w p 1 s (dictEpoch a q) s n := by
  unfold PySem.dictEpoch
  exact Go.bind (n := 1) (m := 0) (Go.load h) (Go.pure _)
theorem places_none (es : List DictEntry) (h : Int) (hn : ∀ e ∈ es, e.hash ≠ h) : placesWithHash es.toArray.size (fun i => es.toArray[i]?.map (·.hash)) h = [] := by
  unfold placesWithHash
  rw [List.filter_eq_nil_iff]
  intro i hi hp
  rw [beq_iff_eq] at hp
  dsimp only at hp
  rw [List.getElem?_toArray] at hp
  obtain ⟨e, he, h2⟩ := Option.map_eq_some_iff.mp hp
  exact hn e (List.mem_of_getElem? he) h2
theorem Go.dictFind {d : Addr} {k : Int} {t : Tok} {h : Int} {es : List DictEntry} {n : Nat} (hd : s.heap.get? d = some (dObj es n)) (hn : ∀ e ∈ es, e.hash ≠ h) : Go w p 1 s (dictFind d (.int k t) h) s none := by
  unfold PySem.dictFind
  refine Go.holding _ ?_
  refine Go.bind (n := 1) (m := 0) (Go.dictEntries hd) ?_
  dsimp only
  rw [places_none es h hn]
  show Go w p 0 s (if (Value.int k t :: ([] : List Value)).all carriedByValue = true then _ else _) s none
  rw [if_pos (by rfl)]
  show Go w p 0 s (dictWalkPlain d (.int k t) h es.toArray [] >>= _) s none
  exact Go.bind (n := 0) (m := 0) (Go.pure none) (Go.pure none)
theorem upd_const (h : Heap) (d : Addr) (f : Obj → Obj) (o : Obj) (e : h.get? d = some o) : h.update d f = h.update d (fun _ => f o) := by
  obtain ⟨e1, _⟩ := Heap.get?_some_iff.mp e
  cases h
  simp only [Heap.update, Heap.mk.injEq, and_true]
  apply Array.ext_getElem?
  intro i
  rw [Array.getElem?_modify, Array.getElem?_modify]
  by_cases hi : d = i
  · subst hi
    dsimp only at e1
    rw [e1]; rfl
  · simp [hi]
theorem upd_upd (h : Heap) (d : Addr) (o o' : Obj) : (h.update d (fun _ => o)).update d (fun _ => o') = h.update d (fun _ => o') := by
  cases h
  simp only [Heap.update, Heap.mk.injEq, and_true]
  apply Array.ext_getElem?
  intro i
  rw [Array.getElem?_modify, Array.getElem?_modify, Array.getElem?_modify]
  by_cases hi : d = i
  · simp [hi]
    cases ‹Array Obj›[i]? <;> rfl
  · simp [hi]
theorem upd_same (h : Heap) (d : Addr) (o : Obj) (e : h.get? d = some o) : h.update d (fun _ => o) = h := by
  obtain ⟨e1, _⟩ := Heap.get?_some_iff.mp e
  cases h
  simp only [Heap.update, Heap.mk.injEq, and_true]
  apply Array.ext_getElem?
  intro i
  rw [Array.getElem?_modify]
  by_cases hi : d = i
  · subst hi
    dsimp only at e1
    rw [if_pos rfl, e1]; rfl
  · simp [hi]
noncomputable abbrev putD (s : Shared) (d : Addr) (es : List DictEntry) (n : Nat) : Shared := { s with heap := s.heap.update d (fun _ => dObj es n) }
theorem putD_get {d : Addr} {o : Obj} {es : List DictEntry} {n : Nat} (h : s.heap.get? d = some o) : (putD s d es n).heap.get? d = some (dObj es n) := Heap.get?_update_self _ h rfl
theorem putD_get_ne {d a : Addr} {o : Obj} {es : List DictEntry} {n : Nat} (h : s.heap.get? a = some o) (hne : d ≠ a) : (putD s d es n).heap.get? a = some o := by
  show (s.heap.update d _).get? a = _
  rw [Heap.get?_update_other _ _ hne, h]
theorem Go.dictPut {d : Addr} {k : Int} {t : Tok} {h : Int} {v : Value} {o : Obj} {es : List DictEntry} {n : Nat} (h0 : s.heap.get? d = some o) (hn : ∀ e ∈ es, e.hash ≠ h) (hd11 : 11 ≤ d) (hsz : es.length < 100000) :
    Go w p 4 (putD s d es n) (dictPut d h (.int k t) v) (putD s d (es ++ [⟨h, .int k t, v⟩]) (n + 1)) () := by
  unfold PySem.dictPut
  refine Go.bind (n := 1) (m := 3) (Go.dictFind (putD_get h0) hn) ?_
  dsimp only
  unfold PySem.updateDictKeys
  refine Go.bind (n := 1) (m := 2) (Go.load (putD_get h0)) ?_
  show Go w p 2 (putD s d es n) (updatePart d _ (Obj.mapDictKeys fun x => x.push ⟨h, .int k t, v⟩) >>= fun _ => lookBehind d _) _ ()
  have e : (putD s d es n).heap.update d (Obj.mapDictKeys fun x => x.push ⟨h, .int k t, v⟩) = s.heap.update d (fun _ => dObj (es ++ [⟨h, .int k t, v⟩]) (n + 1)) := by
    rw [upd_const _ _ _ _ (putD_get h0)]
    show (s.heap.update d _).update d _ = _
    rw [upd_upd]
    congr 2
    simp [dObj, Obj.mapDictKeys]
  have hu := Go.update (w := w) (p := p) (s := putD s d es n) (q := none) (f := Obj.mapDictKeys fun x => x.push ⟨h, .int k t, v⟩) (putD_get h0) hd11
  rw [e] at hu
  refine Go.bind (n := 1) (m := 1) hu ?_
  unfold lookBehind
  refine Go.bind (n := 1) (m := 0) (Go.load (putD_get h0)) ?_
  have hp : (dObj (es ++ [⟨h, .int k t, v⟩]) (n + 1)).data.pastItsLine = none := by
    show (if (es ++ [_]).toArray.size > sizeLine + 1 then _ else _) = _
    rw [if_neg]
    simp only [List.size_toArray, List.length_append, List.length_singleton]
    have : sizeLine = 2 ^ 24 := rfl
    omega
  rw [hp]
  exact Go.pure _
theorem typeOf_dict {a : Addr} {es : List DictEntry} {n : Nat} (h : s.heap.get? a = some (dObj es n)) : Go w p 1 s (typeOf (.ref a)) s (.type "dict") := by
  unfold typeOf
  exact Go.bind (n := 1) (m := 0) (Go.load h) (Go.pure _)
theorem sub_dict : isSubtype (.type "dict") (.type "dict") = pure true := by kernel_rfl
theorem iter_dict : typeLookup (.type "dict") "__iter__" = pure (some (.builtin "dict.__iter__")) := by kernel_rfl
theorem iter_self : (some (Value.builtin "dict.__iter__") == some (Value.builtin "dict.__iter__")) = true := by kernel_rfl
theorem Go.merge {d a : Addr} {es es2 : List DictEntry} {n m : Nat} (hd : s.heap.get? d = some (dObj es n)) (ha : s.heap.get? a = some (dObj es2 m)) (hne : d ≠ a) (hd11 : 11 ≤ d) (ha2 : a ≠ sysModules)
    (he : es ≠ []) (hk : ∀ e ∈ es2, ∃ k t, e.key = .int k t) (hn : ((es ++ es2).map (·.hash)).Nodup) (hsz : (es ++ es2).length < 100000) :
    Go w p (6 * es2.length + 5) s (mergeMapping d (.ref a) false) (putD s d (es ++ es2) (n + es2.length)) () := by
  unfold mergeMapping
  rw [show 6 * es2.length + 5 = 1 + (1 + (1 + (1 + (1 + 6 * es2.length)))) by omega]
  unfold isInstance specialOf
  simp only [bind_assoc]
  refine Go.bind (n := 1) (typeOf_dict ha) ?_
  rw [sub_dict]
  simp only [pure_bind, if_true]
  refine Go.bind (n := 1) (typeOf_dict ha) ?_
  rw [iter_dict]
  simp only [pure_bind, iter_self]
  have hs : (a == sysModules) = false := beq_eq_false_iff_ne.mpr ha2
  simp only [hs, Bool.false_eq_true, if_false]
  refine Go.bind (n := 1) (Go.dictEntries hd) ?_
  have hem : es.toArray.isEmpty = false := by
    cases es with
    | nil => exact absurd rfl he
    | cons e r => rfl
  simp only [hem, Bool.false_eq_true, if_false]
  refine Go.bind (n := 1) (Go.dictEntries ha) ?_
  refine Go.bind (n := 1) (Go.dictEpoch ha) ?_
  refine Go.bind (n := 6 * es2.length) (m := 0) (s1 := putD s d (es ++ es2) (n + es2.length)) (a := PUnit.unit) ?_ (Go.pure ())
  have key : ∀ (k i : Nat), i + k = es2.length → ∀ (body : Nat → PUnit → Sem (ForInStep PUnit)), (∀ (i : Nat) (hi : i < es2.length), Go w p 6 (putD s d (es ++ es2.take i) (n + i)) (body i PUnit.unit) (putD s d (es ++ es2.take (i + 1)) (n + (i + 1))) (ForInStep.yield PUnit.unit)) →
      Go w p (6 * k) (putD s d (es ++ es2.take i) (n + i)) (forIn (List.range' i k) PUnit.unit body) (putD s d (es ++ es2) (n + es2.length)) PUnit.unit := by
    intro k
    induction k with
    | zero =>
      intro i hi body _
      have : i = es2.length := by omega
      subst this
      rw [List.take_length]
      exact Go.pure _
    | succ k ih =>
      intro i hi body hb
      rw [List.range'_succ, List.forIn_cons, show 6 * (k + 1) = 6 + 6 * k by omega]
      exact Go.bind (n := 6) (hb i (by omega)) (ih (i + 1) (by omega) body hb)
  have h0 : s = putD s d (es ++ es2.take 0) (n + 0) := by
    obtain ⟨heap, gens, drawn, toks, os⟩ := s
    show _ = (⟨heap.update d _, gens, drawn, toks, os⟩ : Shared)
    rw [List.take_zero, List.append_nil, Nat.add_zero, upd_same _ _ _ hd]
  rw [List.size_toArray, List.range_eq_range']
  refine (congrArg (fun t => Go w p (6 * es2.length) t _ _ _) h0).mpr (key es2.length 0 (by omega) _ ?_)
  intro i hi
  have hai : (putD s d (es ++ es2.take i) (n + i)).heap.get? a = some (dObj es2 m) := putD_get_ne ha hne
  refine Go.bind (n := 1) (m := 5) (Go.dictEntries hai) ?_
  rw [List.getElem?_toArray, List.getElem?_eq_getElem hi]
  dsimp only
  generalize hee : es2[i] = e
  obtain ⟨k, t, hke⟩ := hk e (hee ▸ List.getElem_mem hi)
  obtain ⟨eh, ek, ev⟩ := e
  dsimp only at hke
  subst hke
  simp only [Bool.false_eq_true, if_false]
  have ht : es2.take (i + 1) = es2.take i ++ [⟨eh, .int k t, ev⟩] := by
    rw [List.take_add_one, List.getElem?_eq_getElem hi, hee]; rfl
  refine Go.bind (n := 4) (m := 1) (a := ()) (s1 := putD s d (es ++ es2.take (i + 1)) (n + (i + 1))) (Go.holding _ ?_) ?_
  · rw [ht, ← List.append_assoc]
    refine Go.dictPut hd ?_ hd11 ?_
    · intro e hem2 hhe
      have hsplit : es ++ es2 = (es ++ es2.take i) ++ (⟨eh, .int k t, ev⟩ :: es2.drop (i + 1)) := by
        rw [← hee, List.append_assoc, ← List.drop_eq_getElem_cons hi, List.take_append_drop]
      rw [hsplit, List.map_append, List.nodup_append] at hn
      exact hn.2.2 _ (List.mem_map.mpr ⟨e, hem2, rfl⟩) _ (by simp) hhe
    · have := List.length_take_le i es2
      rw [List.length_append] at hsz ⊢
      omega
  · refine Go.bind (n := 1) (m := 0) (Go.dictEpoch (putD_get_ne ha hne)) ?_
    simp only [bne_self_eq_false, Bool.false_eq_true, if_false]
    exact Go.pure _
end
end Mine
end
section
open PySem PySem.W PyProof.Rows
set_option Elab.async false
set_option maxRecDepth 100000
set_option maxHeartbeats 1000000
namespace Mine
noncomputable abbrev DP := Sem Value × Sem Value
noncomputable abbrev DI := Option (Sem Value) × Sem Value
noncomputable abbrev DS := Option Addr × List DP
/-- a turn and the end of a dict display's loop, read off the display itself -/
noncomputable def ddP : (DI → DS → Sem (ForInStep DS)) × (DS → Sem Value) := by
  refine (?p : ∀ (F : DI → DS → Sem (ForInStep DS)) (G : DS → Sem Value), (∀ items, dictDisplay items = (forIn items ((none, []) : DS) F) >>= G) → (DI → DS → Sem (ForInStep DS)) × (DS → Sem Value)) _ _ (fun _ => rfl)
  exact fun F G _ => (F, G)
theorem dd_eq (items : List DI) : dictDisplay items = (forIn items ((none, []) : DS) ddP.1) >>= ddP.2 := rfl
noncomputable def flP : List DP → Option Addr → Sem (Option Addr) := by
  refine (?p : ∀ (FL : List DP → Option Addr → Sem (Option Addr)) (R : Option Addr → Sem Value), (∀ run main, ddP.2 (main, run) = FL run main >>= R) → (List DP → Option Addr → Sem (Option Addr))) _ _ (fun _ _ => rfl)
  exact fun FL _ _ => FL
theorem end_eq (run : List DP) (d : Addr) {w : World} {p : Pos} {n : Nat} {s s1 : Shared} (h : Go w p n s (flP run (some d)) s1 (some d)) : Go w p n s (ddP.2 (some d, run)) s1 (.ref d) :=
  Go.bind (m := 0) h (Go.pure _)
theorem turn_eq (k v : Sem Value) (main : Option Addr) (run : List DP) : ddP.1 (some k, v) (main, run) =
    if ((run ++ [(k, v)]).length == 17) = true then flP (run ++ [(k, v)]) main >>= fun main => pure (.yield (main, [])) else pure (.yield (main, run ++ [(k, v)])) := rfl
variable {w : World} {p : Pos} {s s1 s2 : Shared}
theorem go_fl0 {run : List DP} {n : Nat} {d : Addr} (hr : run ≠ []) (h : Go w p n s (subDict run) s1 d) : Go w p n s (flP run none) s1 (some d) := by
  show Go w p n s (if run.isEmpty = true then _ else _) s1 (some d)
  rw [if_neg (by simpa using hr)]
  exact Go.bind (m := 0) h (Go.pure _)
theorem go_fl1 {run : List DP} {n m : Nat} {d sub : Addr} (hr : run ≠ []) (h : Go w p n s (subDict run) s1 sub) (h2 : Go w p m s1 (mergeMapping d (.ref sub) false) s2 ()) : Go w p (n + m) s (flP run (some d)) s2 (some d) := by
  show Go w p (n + m) s (if run.isEmpty = true then _ else _) s2 (some d)
  rw [if_neg (by simpa using hr)]
  exact Go.bind (Go.holding _ h) (Go.bind (n := m) (m := 0) (Go.onRaise _ (Go.holding _ h2)) (Go.pure _))
noncomputable abbrev itemOf (q : DP) : DI := (some q.1, q.2)
theorem acc_eq : ∀ (c : List DP) (rest : List DI) (main : Option Addr) (run : List DP), run.length + c.length < 17 → forIn (c.map itemOf ++ rest) ((main, run) : DS) ddP.1 = forIn rest ((main, run ++ c) : DS) ddP.1
  | [], rest, main, run, _ => by simp
  | (k, v) :: c, rest, main, run, h => by
    rw [List.length_cons] at h
    rw [List.map_cons, List.cons_append, List.forIn_cons, turn_eq, if_neg (by simp; omega), pure_bind]
    show forIn (c.map itemOf ++ rest) ((main, run ++ [(k, v)]) : DS) ddP.1 = _
    rw [acc_eq c rest main (run ++ [(k, v)]) (by rw [List.length_append]; simp; omega), List.append_assoc]
    rfl
theorem chunk_eq (c : List DP) (rest : List DI) (main : Option Addr) (hc : c.length = 17) : forIn (c.map itemOf ++ rest) ((main, []) : DS) ddP.1 = flP c main >>= fun main => forIn rest ((main, []) : DS) ddP.1 := by
  have hne : c ≠ [] := by rintro rfl; simp at hc
  obtain ⟨a, ⟨k, v⟩, rfl⟩ : ∃ a b, c = a ++ [b] := ⟨c.dropLast, c.getLast hne, (List.dropLast_concat_getLast hne).symm⟩
  have ha : a.length = 16 := by simpa using hc
  rw [List.map_append, List.append_assoc, acc_eq a _ main [] (by simp; omega)]
  rw [List.nil_append]
  show forIn (itemOf (k, v) :: rest) ((main, a) : DS) ddP.1 = _
  rw [List.forIn_cons, turn_eq, if_pos (by simp [ha])]
  rw [bind_assoc]
  rfl
theorem go_chunk {c : List DP} {rest : List DI} {main d : Option Addr} {n m : Nat} {v : Value} (hc : c.length = 17) (h : Go w p n s (flP c main) s1 d) (h2 : Go w p m s1 (forIn rest ((d, []) : DS) ddP.1 >>= ddP.2) s2 v) :
    Go w p (n + m) s (forIn (c.map itemOf ++ rest) ((main, []) : DS) ddP.1 >>= ddP.2) s2 v := by
  rw [chunk_eq c rest main hc, bind_assoc]
  exact Go.bind h h2
theorem go_last {c : List DP} {d : Addr} {n : Nat} (hc : c.length < 17) (h : Go w p n s (flP c (some d)) s1 (some d)) : Go w p n s (forIn (c.map itemOf) ((some d, []) : DS) ddP.1 >>= ddP.2) s1 (.ref d) := by
  have := acc_eq c [] (some d) [] (by simpa using hc)
  rw [List.append_nil] at this
  rw [this]
  show Go w p n s (pure (some d, [] ++ c) >>= ddP.2) s1 (.ref d)
  rw [pure_bind, List.nil_append]
  exact end_eq c d h
end Mine
end
section
open PySem PySem.W PyProof.Rows
set_option Elab.async false
set_option maxRecDepth 100000
set_option maxHeartbeats 0
namespace Mine
noncomputable def b3Parts (l : List Stmt) : List PySem.Expr × List (Option PySem.Expr) × List PySem.Expr × Pos := match l with
  | .Assign ts (.Dict ks vs p) _ :: _ => (ts, ks, vs, p)
  | _ => ([], [], [], ⟨0, 0, 0, 0⟩)
noncomputable abbrev bp := b3Parts (sts 21 1)
noncomputable def b3vals : List (Sem Value) := (evalEach bp.2.2.1 hd.env_1).map fun v => do let x ← v; standAt bp.2.2.2; pure x
noncomputable def items : List DI := (evalEachOpt bp.2.1 hd.env_1).zip b3vals
noncomputable def ps : List DP := (evalEach (bp.2.1.filterMap id) hd.env_1).zip b3vals
theorem zip_some (env : Env) : ∀ (ks : List (Option PySem.Expr)) (vs : List (Sem Value)), (ks.all Option.isSome) = true → (evalEachOpt ks env).zip vs = ((evalEach (ks.filterMap id) env).zip vs).map itemOf
  | [], _, _ => rfl
  | none :: _, _, h => by simp at h
  | some e :: ks, [], _ => by simp
  | some e :: ks, v :: vs, h => by
    have ih := zip_some env ks vs (by simpa using h)
    show (some (eval e env), v) :: (evalEachOpt ks env).zip vs = (some (eval e env), v) :: ((evalEach (ks.filterMap id) env).zip vs).map itemOf
    rw [ih]
theorem items_eq : items = ps.map itemOf := zip_some _ _ _ (by kernel_rfl)
noncomputable def Cx (x : Sem Value) : Sem Fin := ((do let v ← x; assignStores hd.env_1 v none ((assignEach bp.1 hd.env_1).map (·.2)) : Sem Flow) >>= fun f => match f with | .next => execs [] hd.env_1 | f => pure f).wrap doneF deadEnd id id
noncomputable def main (j : Nat) : Obj := dObj (ents 3 430 (b3Tab.take (17 * (j + 1)))) (17 * (j + 1))
noncomputable def TT : Nat → Params → BT
  | 0, P => (T21 P).ins 155 (main 0)
  | j + 1, P => ((TT j P).ins (156 + j) (subObj (j + 1))).set 155 (fun _ => main (j + 1))
noncomputable def TU (j : Nat) (P : Params) : BT := (TT j P).ins (156 + j) (subObj (j + 1))
noncomputable def TL (P : Params) : BT := (TT 37 P).ins 193 lastObj
noncomputable def TE (P : Params) : BT := (TL P).set 155 (fun _ => x155 P)
noncomputable def grp (j : Nat) : List DP := (ps.drop (17 * j)).take 17
noncomputable def st0 (w : World) (os : OsState) : Prop := segGoT treeTable PP w 11 annV 1 2 (S T21 155 430 w os) (piecesOf (sts 21 1) hd.env_1 cB ⟨135, 0, 136, 30⟩ fB) = some (S T21 155 430 w os, ⟨Cx (dictDisplay items), cB, ⟨137, 16, 137, 8704⟩, fB⟩)
noncomputable def sub0 (w : World) (os : OsState) : Prop := ∀ (K : Addr → Sem Fin) (H : Value → Sem Fin) (gd : Bool → Bool) (lv : List Value → List Value),
  segGoT treeTable PP w 11 annV 1 223 (S T21 155 430 w os) ⟨(subDict (grp 0)).wrap K H gd lv, cB, ⟨137, 16, 137, 8704⟩, fB⟩ = some (S (TT 0) 156 481 w os, ⟨K 155, cB, ⟨137, 16, 137, 8704⟩, fB⟩)
noncomputable def subj (j : Nat) (w : World) (os : OsState) : Prop := ∀ (K : Addr → Sem Fin) (H : Value → Sem Fin) (gd : Bool → Bool) (lv : List Value → List Value),
  segGoT treeTable PP w 11 annV 1 223 (S (TT j) (156 + j) (481 + 51 * j) w os) ⟨(subDict (grp (j + 1))).wrap K H gd lv, cB, ⟨137, 16, 137, 8704⟩, fB⟩ = some (S (TU j) (157 + j) (532 + 51 * j) w os, ⟨K (156 + j), cB, ⟨137, 16, 137, 8704⟩, fB⟩)
noncomputable def subl (w : World) (os : OsState) : Prop := ∀ (K : Addr → Sem Fin) (H : Value → Sem Fin) (gd : Bool → Bool) (lv : List Value → List Value),
  segGoT treeTable PP w 11 annV 1 53 (S (TT 37) 193 2368 w os) ⟨(subDict (grp 38)).wrap K H gd lv, cB, ⟨137, 16, 137, 8704⟩, fB⟩ = some (S TL 194 2380 w os, ⟨K 193, cB, ⟨137, 16, 137, 8704⟩, fB⟩)
noncomputable def fin21 (w : World) (os : OsState) : Prop := segRunT treeTable PP w 11 annV 1 8 (S TE 194 2380 w os) ⟨Cx (pure (.ref 155)), cB, ⟨137, 16, 137, 8704⟩, fB⟩ = some (.next, S T22 194 2381 w os, cB, ⟨137, 0, 137, 13⟩)
lay_quick Mine.st0 Mine.sub0 Mine.subj Mine.subl Mine.fin21
theorem st0_ok (w : World) (os : OsState) : st0 w os := by
  refine byRow2 "special-get-raises" (P := fun w => st0 w os) ?_ ?_ w <;> intro w
  · rw [PySem.W.Fast.te7240301041371478685]; delta PySem.W.Fast.tw7240301041371478685; kernel_rfl
  · rw [PySem.W.Fast.te7240301041371478685]; delta PySem.W.Fast.tw7240301041371478685; kernel_rfl
theorem sub0_ok (w : World) (os : OsState) : sub0 w os := by
  refine byRow2 "special-get-raises" (P := fun w => sub0 w os) ?_ ?_ w <;> intro w
  · rw [PySem.W.Fast.te15740046445855297738]; delta PySem.W.Fast.tw15740046445855297738; intro K H gd lv; kernel_rfl
  · rw [PySem.W.Fast.te15740046445855297738]; delta PySem.W.Fast.tw15740046445855297738; intro K H gd lv; kernel_rfl
theorem sub1_ok (w : World) (os : OsState) : subj 0 w os := by
  refine byRow2 "special-get-raises" (P := fun w => subj 0 w os) ?_ ?_ w <;> intro w
  · rw [PySem.W.Fast.te4457248258159362470]; delta PySem.W.Fast.tw4457248258159362470; intro K H gd lv; kernel_rfl
  · rw [PySem.W.Fast.te4457248258159362470]; delta PySem.W.Fast.tw4457248258159362470; intro K H gd lv; kernel_rfl
theorem sub2_ok (w : World) (os : OsState) : subj 1 w os := by
  refine byRow2 "special-get-raises" (P := fun w => subj 1 w os) ?_ ?_ w <;> intro w
  · rw [PySem.W.Fast.te4457248258159362470]; delta PySem.W.Fast.tw4457248258159362470; intro K H gd lv; kernel_rfl
  · rw [PySem.W.Fast.te4457248258159362470]; delta PySem.W.Fast.tw4457248258159362470; intro K H gd lv; kernel_rfl
theorem sub3_ok (w : World) (os : OsState) : subj 2 w os := by
  refine byRow2 "special-get-raises" (P := fun w => subj 2 w os) ?_ ?_ w <;> intro w
  · rw [PySem.W.Fast.te4457248258159362470]; delta PySem.W.Fast.tw4457248258159362470; intro K H gd lv; kernel_rfl
  · rw [PySem.W.Fast.te4457248258159362470]; delta PySem.W.Fast.tw4457248258159362470; intro K H gd lv; kernel_rfl
theorem sub4_ok (w : World) (os : OsState) : subj 3 w os := by
  refine byRow2 "special-get-raises" (P := fun w => subj 3 w os) ?_ ?_ w <;> intro w
  · rw [PySem.W.Fast.te4457248258159362470]; delta PySem.W.Fast.tw4457248258159362470; intro K H gd lv; kernel_rfl
  · rw [PySem.W.Fast.te4457248258159362470]; delta PySem.W.Fast.tw4457248258159362470; intro K H gd lv; kernel_rfl
theorem sub5_ok (w : World) (os : OsState) : subj 4 w os := by
  refine byRow2 "special-get-raises" (P := fun w => subj 4 w os) ?_ ?_ w <;> intro w
  · rw [PySem.W.Fast.te4457248258159362470]; delta PySem.W.Fast.tw4457248258159362470; intro K H gd lv; kernel_rfl
  · rw [PySem.W.Fast.te4457248258159362470]; delta PySem.W.Fast.tw4457248258159362470; intro K H gd lv; kernel_rfl
theorem sub6_ok (w : World) (os : OsState) : subj 5 w os := by
  refine byRow2 "special-get-raises" (P := fun w => subj 5 w os) ?_ ?_ w <;> intro w
  · rw [PySem.W.Fast.te4457248258159362470]; delta PySem.W.Fast.tw4457248258159362470; intro K H gd lv; kernel_rfl
  · rw [PySem.W.Fast.te4457248258159362470]; delta PySem.W.Fast.tw4457248258159362470; intro K H gd lv; kernel_rfl
theorem sub7_ok (w : World) (os : OsState) : subj 6 w os := by
  refine byRow2 "special-get-raises" (P := fun w => subj 6 w os) ?_ ?_ w <;> intro w
  · rw [PySem.W.Fast.te4457248258159362470]; delta PySem.W.Fast.tw4457248258159362470; intro K H gd lv; kernel_rfl
  · rw [PySem.W.Fast.te4457248258159362470]; delta PySem.W.Fast.tw4457248258159362470; intro K H gd lv; kernel_rfl
theorem sub8_ok (w : World) (os : OsState) : subj 7 w os := by
  refine byRow2 "special-get-raises" (P := fun w => subj 7 w os) ?_ ?_ w <;> intro w
  · rw [PySem.W.Fast.te4457248258159362470]; delta PySem.W.Fast.tw4457248258159362470; intro K H gd lv; kernel_rfl
  · rw [PySem.W.Fast.te4457248258159362470]; delta PySem.W.Fast.tw4457248258159362470; intro K H gd lv; kernel_rfl
theorem sub9_ok (w : World) (os : OsState) : subj 8 w os := by
  refine byRow2 "special-get-raises" (P := fun w => subj 8 w os) ?_ ?_ w <;> intro w
  · rw [PySem.W.Fast.te4457248258159362470]; delta PySem.W.Fast.tw4457248258159362470; intro K H gd lv; kernel_rfl
  · rw [PySem.W.Fast.te4457248258159362470]; delta PySem.W.Fast.tw4457248258159362470; intro K H gd lv; kernel_rfl
theorem sub10_ok (w : World) (os : OsState) : subj 9 w os := by
  refine byRow2 "special-get-raises" (P := fun w => subj 9 w os) ?_ ?_ w <;> intro w
  · rw [PySem.W.Fast.te4457248258159362470]; delta PySem.W.Fast.tw4457248258159362470; intro K H gd lv; kernel_rfl
  · rw [PySem.W.Fast.te4457248258159362470]; delta PySem.W.Fast.tw4457248258159362470; intro K H gd lv; kernel_rfl
theorem sub11_ok (w : World) (os : OsState) : subj 10 w os := by
  refine byRow2 "special-get-raises" (P := fun w => subj 10 w os) ?_ ?_ w <;> intro w
  · rw [PySem.W.Fast.te4457248258159362470]; delta PySem.W.Fast.tw4457248258159362470; intro K H gd lv; kernel_rfl
  · rw [PySem.W.Fast.te4457248258159362470]; delta PySem.W.Fast.tw4457248258159362470; intro K H gd lv; kernel_rfl
theorem sub12_ok (w : World) (os : OsState) : subj 11 w os := by
  refine byRow2 "special-get-raises" (P := fun w => subj 11 w os) ?_ ?_ w <;> intro w
  · rw [PySem.W.Fast.te4457248258159362470]; delta PySem.W.Fast.tw4457248258159362470; intro K H gd lv; kernel_rfl
  · rw [PySem.W.Fast.te4457248258159362470]; delta PySem.W.Fast.tw4457248258159362470; intro K H gd lv; kernel_rfl
theorem sub13_ok (w : World) (os : OsState) : subj 12 w os := by
  refine byRow2 "special-get-raises" (P := fun w => subj 12 w os) ?_ ?_ w <;> intro w
  · rw [PySem.W.Fast.te4457248258159362470]; delta PySem.W.Fast.tw4457248258159362470; intro K H gd lv; kernel_rfl
  · rw [PySem.W.Fast.te4457248258159362470]; delta PySem.W.Fast.tw4457248258159362470; intro K H gd lv; kernel_rfl
theorem sub14_ok (w : World) (os : OsState) : subj 13 w os := by
  refine byRow2 "special-get-raises" (P := fun w => subj 13 w os) ?_ ?_ w <;> intro w
  · rw [PySem.W.Fast.te4457248258159362470]; delta PySem.W.Fast.tw4457248258159362470; intro K H gd lv; kernel_rfl
  · rw [PySem.W.Fast.te4457248258159362470]; delta PySem.W.Fast.tw4457248258159362470; intro K H gd lv; kernel_rfl
theorem sub15_ok (w : World) (os : OsState) : subj 14 w os := by
  refine byRow2 "special-get-raises" (P := fun w => subj 14 w os) ?_ ?_ w <;> intro w
  · rw [PySem.W.Fast.te4457248258159362470]; delta PySem.W.Fast.tw4457248258159362470; intro K H gd lv; kernel_rfl
  · rw [PySem.W.Fast.te4457248258159362470]; delta PySem.W.Fast.tw4457248258159362470; intro K H gd lv; kernel_rfl
theorem sub16_ok (w : World) (os : OsState) : subj 15 w os := by
  refine byRow2 "special-get-raises" (P := fun w => subj 15 w os) ?_ ?_ w <;> intro w
  · rw [PySem.W.Fast.te4457248258159362470]; delta PySem.W.Fast.tw4457248258159362470; intro K H gd lv; kernel_rfl
  · rw [PySem.W.Fast.te4457248258159362470]; delta PySem.W.Fast.tw4457248258159362470; intro K H gd lv; kernel_rfl
theorem sub17_ok (w : World) (os : OsState) : subj 16 w os := by
  refine byRow2 "special-get-raises" (P := fun w => subj 16 w os) ?_ ?_ w <;> intro w
  · rw [PySem.W.Fast.te4457248258159362470]; delta PySem.W.Fast.tw4457248258159362470; intro K H gd lv; kernel_rfl
  · rw [PySem.W.Fast.te4457248258159362470]; delta PySem.W.Fast.tw4457248258159362470; intro K H gd lv; kernel_rfl
theorem sub18_ok (w : World) (os : OsState) : subj 17 w os := by
  refine byRow2 "special-get-raises" (P := fun w => subj 17 w os) ?_ ?_ w <;> intro w
  · rw [PySem.W.Fast.te4457248258159362470]; delta PySem.W.Fast.tw4457248258159362470; intro K H gd lv; kernel_rfl
  · rw [PySem.W.Fast.te4457248258159362470]; delta PySem.W.Fast.tw4457248258159362470; intro K H gd lv; kernel_rfl
theorem sub19_ok (w : World) (os : OsState) : subj 18 w os := by
  refine byRow2 "special-get-raises" (P := fun w => subj 18 w os) ?_ ?_ w <;> intro w
  · rw [PySem.W.Fast.te4457248258159362470]; delta PySem.W.Fast.tw4457248258159362470; intro K H gd lv; kernel_rfl
  · rw [PySem.W.Fast.te4457248258159362470]; delta PySem.W.Fast.tw4457248258159362470; intro K H gd lv; kernel_rfl
theorem sub20_ok (w : World) (os : OsState) : subj 19 w os := by
  refine byRow2 "special-get-raises" (P := fun w => subj 19 w os) ?_ ?_ w <;> intro w
  · rw [PySem.W.Fast.te4457248258159362470]; delta PySem.W.Fast.tw4457248258159362470; intro K H gd lv; kernel_rfl
  · rw [PySem.W.Fast.te4457248258159362470]; delta PySem.W.Fast.tw4457248258159362470; intro K H gd lv; kernel_rfl
theorem sub21_ok (w : World) (os : OsState) : subj 20 w os := by
  refine byRow2 "special-get-raises" (P := fun w => subj 20 w os) ?_ ?_ w <;> intro w
  · rw [PySem.W.Fast.te4457248258159362470]; delta PySem.W.Fast.tw4457248258159362470; intro K H gd lv; kernel_rfl
  · rw [PySem.W.Fast.te4457248258159362470]; delta PySem.W.Fast.tw4457248258159362470; intro K H gd lv; kernel_rfl
theorem sub22_ok (w : World) (os : OsState) : subj 21 w os := by
  refine byRow2 "special-get-raises" (P := fun w => subj 21 w os) ?_ ?_ w <;> intro w
  · rw [PySem.W.Fast.te4457248258159362470]; delta PySem.W.Fast.tw4457248258159362470; intro K H gd lv; kernel_rfl
  · rw [PySem.W.Fast.te4457248258159362470]; delta PySem.W.Fast.tw4457248258159362470; intro K H gd lv; kernel_rfl
theorem sub23_ok (w : World) (os : OsState) : subj 22 w os := by
  refine byRow2 "special-get-raises" (P := fun w => subj 22 w os) ?_ ?_ w <;> intro w
  · rw [PySem.W.Fast.te4457248258159362470]; delta PySem.W.Fast.tw4457248258159362470; intro K H gd lv; kernel_rfl
  · rw [PySem.W.Fast.te4457248258159362470]; delta PySem.W.Fast.tw4457248258159362470; intro K H gd lv; kernel_rfl
theorem sub24_ok (w : World) (os : OsState) : subj 23 w os := by
  refine byRow2 "special-get-raises" (P := fun w => subj 23 w os) ?_ ?_ w <;> intro w
  · rw [PySem.W.Fast.te4457248258159362470]; delta PySem.W.Fast.tw4457248258159362470; intro K H gd lv; kernel_rfl
  · rw [PySem.W.Fast.te4457248258159362470]; delta PySem.W.Fast.tw4457248258159362470; intro K H gd lv; kernel_rfl
theorem sub25_ok (w : World) (os : OsState) : subj 24 w os := by
  refine byRow2 "special-get-raises" (P := fun w => subj 24 w os) ?_ ?_ w <;> intro w
  · rw [PySem.W.Fast.te4457248258159362470]; delta PySem.W.Fast.tw4457248258159362470; intro K H gd lv; kernel_rfl
  · rw [PySem.W.Fast.te4457248258159362470]; delta PySem.W.Fast.tw4457248258159362470; intro K H gd lv; kernel_rfl
theorem sub26_ok (w : World) (os : OsState) : subj 25 w os := by
  refine byRow2 "special-get-raises" (P := fun w => subj 25 w os) ?_ ?_ w <;> intro w
  · rw [PySem.W.Fast.te4457248258159362470]; delta PySem.W.Fast.tw4457248258159362470; intro K H gd lv; kernel_rfl
  · rw [PySem.W.Fast.te4457248258159362470]; delta PySem.W.Fast.tw4457248258159362470; intro K H gd lv; kernel_rfl
theorem sub27_ok (w : World) (os : OsState) : subj 26 w os := by
  refine byRow2 "special-get-raises" (P := fun w => subj 26 w os) ?_ ?_ w <;> intro w
  · rw [PySem.W.Fast.te4457248258159362470]; delta PySem.W.Fast.tw4457248258159362470; intro K H gd lv; kernel_rfl
  · rw [PySem.W.Fast.te4457248258159362470]; delta PySem.W.Fast.tw4457248258159362470; intro K H gd lv; kernel_rfl
theorem sub28_ok (w : World) (os : OsState) : subj 27 w os := by
  refine byRow2 "special-get-raises" (P := fun w => subj 27 w os) ?_ ?_ w <;> intro w
  · rw [PySem.W.Fast.te4457248258159362470]; delta PySem.W.Fast.tw4457248258159362470; intro K H gd lv; kernel_rfl
  · rw [PySem.W.Fast.te4457248258159362470]; delta PySem.W.Fast.tw4457248258159362470; intro K H gd lv; kernel_rfl
theorem sub29_ok (w : World) (os : OsState) : subj 28 w os := by
  refine byRow2 "special-get-raises" (P := fun w => subj 28 w os) ?_ ?_ w <;> intro w
  · rw [PySem.W.Fast.te4457248258159362470]; delta PySem.W.Fast.tw4457248258159362470; intro K H gd lv; kernel_rfl
  · rw [PySem.W.Fast.te4457248258159362470]; delta PySem.W.Fast.tw4457248258159362470; intro K H gd lv; kernel_rfl
theorem sub30_ok (w : World) (os : OsState) : subj 29 w os := by
  refine byRow2 "special-get-raises" (P := fun w => subj 29 w os) ?_ ?_ w <;> intro w
  · rw [PySem.W.Fast.te4457248258159362470]; delta PySem.W.Fast.tw4457248258159362470; intro K H gd lv; kernel_rfl
  · rw [PySem.W.Fast.te4457248258159362470]; delta PySem.W.Fast.tw4457248258159362470; intro K H gd lv; kernel_rfl
theorem sub31_ok (w : World) (os : OsState) : subj 30 w os := by
  refine byRow2 "special-get-raises" (P := fun w => subj 30 w os) ?_ ?_ w <;> intro w
  · rw [PySem.W.Fast.te4457248258159362470]; delta PySem.W.Fast.tw4457248258159362470; intro K H gd lv; kernel_rfl
  · rw [PySem.W.Fast.te4457248258159362470]; delta PySem.W.Fast.tw4457248258159362470; intro K H gd lv; kernel_rfl
theorem sub32_ok (w : World) (os : OsState) : subj 31 w os := by
  refine byRow2 "special-get-raises" (P := fun w => subj 31 w os) ?_ ?_ w <;> intro w
  · rw [PySem.W.Fast.te4457248258159362470]; delta PySem.W.Fast.tw4457248258159362470; intro K H gd lv; kernel_rfl
  · rw [PySem.W.Fast.te4457248258159362470]; delta PySem.W.Fast.tw4457248258159362470; intro K H gd lv; kernel_rfl
theorem sub33_ok (w : World) (os : OsState) : subj 32 w os := by
  refine byRow2 "special-get-raises" (P := fun w => subj 32 w os) ?_ ?_ w <;> intro w
  · rw [PySem.W.Fast.te4457248258159362470]; delta PySem.W.Fast.tw4457248258159362470; intro K H gd lv; kernel_rfl
  · rw [PySem.W.Fast.te4457248258159362470]; delta PySem.W.Fast.tw4457248258159362470; intro K H gd lv; kernel_rfl
theorem sub34_ok (w : World) (os : OsState) : subj 33 w os := by
  refine byRow2 "special-get-raises" (P := fun w => subj 33 w os) ?_ ?_ w <;> intro w
  · rw [PySem.W.Fast.te4457248258159362470]; delta PySem.W.Fast.tw4457248258159362470; intro K H gd lv; kernel_rfl
  · rw [PySem.W.Fast.te4457248258159362470]; delta PySem.W.Fast.tw4457248258159362470; intro K H gd lv; kernel_rfl
theorem sub35_ok (w : World) (os : OsState) : subj 34 w os := by
  refine byRow2 "special-get-raises" (P := fun w => subj 34 w os) ?_ ?_ w <;> intro w
  · rw [PySem.W.Fast.te4457248258159362470]; delta PySem.W.Fast.tw4457248258159362470; intro K H gd lv; kernel_rfl
  · rw [PySem.W.Fast.te4457248258159362470]; delta PySem.W.Fast.tw4457248258159362470; intro K H gd lv; kernel_rfl
theorem sub36_ok (w : World) (os : OsState) : subj 35 w os := by
  refine byRow2 "special-get-raises" (P := fun w => subj 35 w os) ?_ ?_ w <;> intro w
  · rw [PySem.W.Fast.te4457248258159362470]; delta PySem.W.Fast.tw4457248258159362470; intro K H gd lv; kernel_rfl
  · rw [PySem.W.Fast.te4457248258159362470]; delta PySem.W.Fast.tw4457248258159362470; intro K H gd lv; kernel_rfl
theorem sub37_ok (w : World) (os : OsState) : subj 36 w os := by
  refine byRow2 "special-get-raises" (P := fun w => subj 36 w os) ?_ ?_ w <;> intro w
  · rw [PySem.W.Fast.te4457248258159362470]; delta PySem.W.Fast.tw4457248258159362470; intro K H gd lv; kernel_rfl
  · rw [PySem.W.Fast.te4457248258159362470]; delta PySem.W.Fast.tw4457248258159362470; intro K H gd lv; kernel_rfl
theorem subl_ok (w : World) (os : OsState) : subl w os := by
  refine byRow2 "special-get-raises" (P := fun w => subl w os) ?_ ?_ w <;> intro w
  · rw [PySem.W.Fast.te9500483428728838778]; delta PySem.W.Fast.tw9500483428728838778; intro K H gd lv; kernel_rfl
  · rw [PySem.W.Fast.te9500483428728838778]; delta PySem.W.Fast.tw9500483428728838778; intro K H gd lv; kernel_rfl
theorem fin21_ok (w : World) (os : OsState) : fin21 w os := by
  refine byRow2 "special-get-raises" (P := fun w => fin21 w os) ?_ ?_ w <;> intro w
  · rw [PySem.W.Fast.te5217971788885745755]; delta PySem.W.Fast.tw5217971788885745755; kernel_rfl
  · rw [PySem.W.Fast.te5217971788885745755]; delta PySem.W.Fast.tw5217971788885745755; kernel_rfl
end Mine
end
section
open PySem PySem.W PyProof.Rows
set_option Elab.async false
set_option maxRecDepth 100000
set_option maxHeartbeats 1000000
namespace Mine
noncomputable def rising : List Int → Bool
  | a :: b :: r => decide (a < b) && rising (b :: r)
  | _ => true
theorem rising_lt : ∀ {l : List Int} {a : Int}, rising (a :: l) = true → ∀ b ∈ l, a < b
  | [], _, _, _, h => by cases h
  | c :: l, a, hr, b, hb => by
    simp only [rising, Bool.and_eq_true, decide_eq_true_eq] at hr
    rcases List.mem_cons.mp hb with rfl | hb
    · exact hr.1
    · exact Int.lt_trans hr.1 (rising_lt hr.2 b hb)
theorem rising_nodup : ∀ {l : List Int}, rising l = true → l.Nodup
  | [], _ => List.nodup_nil
  | a :: l, h => by
    refine List.nodup_cons.mpr ⟨fun hm => absurd (rising_lt h a hm) (Int.lt_irrefl _), rising_nodup (l := l) ?_⟩
    cases l with
    | nil => rfl
    | cons b r => simp only [rising, Bool.and_eq_true] at h; exact h.2
noncomputable def b3rising : Prop := rising (b3Tab.map (·.1)) = true
noncomputable def tabLen : Prop := b3Tab.length = 650
lay_quick Mine.b3rising Mine.tabLen
theorem b3rising_ok : b3rising := by rw [PySem.W.Fast.te893196924545387913]; delta PySem.W.Fast.tw893196924545387913; kernel_rfl
theorem tabLen_ok : b3Tab.length = 650 := by
  show tabLen
  rw [PySem.W.Fast.te2523220381649696690]; delta PySem.W.Fast.tw2523220381649696690; kernel_rfl
theorem psLen_ok : ps.length = 650 := by kernel_rfl
theorem ents_append (d : Nat) : ∀ (a b : List (Int × Str)) (t : Nat), ents d t (a ++ b) = ents d t a ++ ents d (t + d * a.length) b
  | [], b, t => by simp [ents]
  | e :: a, b, t => by
    rw [List.cons_append]
    simp only [ents, List.cons_append, List.length_cons]
    rw [ents_append d a b (t + d), show t + d + d * a.length = t + d * (a.length + 1) by rw [Nat.mul_add, Nat.mul_one]; omega]
theorem ents_length (d : Nat) : ∀ (a : List (Int × Str)) (t : Nat), (ents d t a).length = a.length
  | [], _ => rfl
  | e :: a, t => by simp only [ents, List.length_cons, ents_length d a]
theorem ents_hash (d : Nat) : ∀ (a : List (Int × Str)) (t : Nat), (ents d t a).map (·.hash) = a.map (·.1)
  | [], _ => rfl
  | e :: a, t => by simp only [ents, List.map_cons, ents_hash d a]
theorem ents_key (d : Nat) : ∀ (a : List (Int × Str)) (t : Nat), ∀ e ∈ ents d t a, ∃ k u, e.key = .int k u
  | [], _, e, h => by simp [ents] at h
  | x :: a, t, e, h => by
    simp only [ents, List.mem_cons] at h
    rcases h with rfl | h
    · exact ⟨_, _, rfl⟩
    · exact ents_key d a _ e h
theorem tab_nodup : (b3Tab.map (·.1)).Nodup := rising_nodup b3rising_ok
noncomputable abbrev p21 : Pos := ⟨137, 16, 137, 8704⟩
noncomputable abbrev R (j : Nat) : Sem Value := forIn ((ps.drop (17 * j)).map itemOf) ((some 155, []) : DS) ddP.1 >>= ddP.2
theorem grp_len {j : Nat} (h : 17 * (j + 1) ≤ 650) : (grp j).length = 17 := by
  unfold grp
  rw [List.length_take, List.length_drop, psLen_ok]; omega
theorem grp_split (j : Nat) : ps.drop (17 * j) = grp j ++ ps.drop (17 * (j + 1)) := by
  unfold grp
  rw [show 17 * (j + 1) = 17 * j + 17 by omega, ← List.drop_drop, List.take_append_drop]
theorem go_of {α : Type} {w : World} {p : Pos} {n : Nat} {s s' : SharedT} {x : Sem α} {v : α} (h : ∀ (K : α → Sem Fin) (H : Value → Sem Fin) (gd : Bool → Bool) (lv : List Value → List Value), segGoT treeTable PP w 11 annV 1 n s ⟨x.wrap K H gd lv, cB, p, fB⟩ = some (s', ⟨K v, cB, p, fB⟩)) :
    Go w p n s.abs x s'.abs v := fun K H gd lv => segGo_of (h K H gd lv)
theorem put_abs {T : BT} {n toks : Nat} {os : OsState} {o o' : Obj} {es : List DictEntry} {k : Nat} (g : T.get 155 = some o) (ho : dObj es k = o') :
    putD (⟨T, n, {}, ⟨[]⟩, {}, toks, os⟩ : SharedT).abs 155 es k = (⟨T.set 155 (fun _ => o'), n, {}, ⟨[]⟩, {}, toks, os⟩ : SharedT).abs := by
  unfold SharedT.abs putD
  rw [absHeap_set g, ho]
theorem get_abs {T : BT} {n toks a : Nat} {os : OsState} {es : List DictEntry} {k : Nat} (h : a < n) (g : T.get a = some (dObj es k)) : (⟨T, n, {}, ⟨[]⟩, {}, toks, os⟩ : SharedT).abs.heap.get? a = some (dObj es k) := by
  unfold SharedT.abs
  dsimp only
  rw [abs_get h g]
  rfl
theorem ne_sys {a : Nat} (h : 155 < a) : (a : Addr) ≠ sysModules := fun e => absurd (show 155 < sysModules from e ▸ h) (by decide)
theorem step21 (w : World) (os : OsState) (j : Nat) (hj : 17 * (j + 2) ≤ 650) (hs : subj j w os) (g1 : (TU j w.params).get 155 = some (main j)) (g2 : (TU j w.params).get (156 + j) = some (subObj (j + 1)))
    {m : Nat} {s2 : Shared} {v : Value} (h : Go w p21 m (S (TT (j + 1)) (156 + (j + 1)) (481 + 51 * (j + 1)) w os).abs (R (j + 2)) s2 v) :
    Go w p21 (330 + m) (S (TT j) (156 + j) (481 + 51 * j) w os).abs (R (j + 1)) s2 v := by
  have hlen : (chunk (j + 1)).length = 17 := by
    unfold chunk
    rw [List.length_take, List.length_drop, tabLen_ok]; omega
  have htk : (b3Tab.take (17 * (j + 1))).length = 17 * (j + 1) := by
    rw [List.length_take, tabLen_ok]; omega
  have hcat : b3Tab.take (17 * (j + 2)) = b3Tab.take (17 * (j + 1)) ++ chunk (j + 1) := by
    unfold chunk
    rw [show 17 * (j + 2) = 17 * (j + 1) + 17 by omega, List.take_add]
  have hent : ents 3 430 (b3Tab.take (17 * (j + 1))) ++ ents 3 (430 + 51 * (j + 1)) (chunk (j + 1)) = ents 3 430 (b3Tab.take (17 * (j + 2))) := by
    rw [hcat, ents_append, htk, show 430 + 3 * (17 * (j + 1)) = 430 + 51 * (j + 1) by omega]
  unfold R
  rw [grp_split (j + 1), List.map_append]
  refine go_chunk (n := 330) (m := m) (d := some 155) (grp_len hj) (s1 := (S (TT (j + 1)) (156 + (j + 1)) (481 + 51 * (j + 1)) w os).abs) ?_ h
  have hne : grp (j + 1) ≠ [] := by
    intro e
    have := grp_len (j := j + 1) hj
    rw [e] at this; simp at this
  have hm := Go.merge (w := w) (p := p21) (s := (S (TU j) (157 + j) (532 + 51 * j) w os).abs) (d := 155) (a := 156 + j) (es := ents 3 430 (b3Tab.take (17 * (j + 1)))) (n := 17 * (j + 1)) (es2 := ents 3 (430 + 51 * (j + 1)) (chunk (j + 1))) (m := 17)
    (get_abs (by omega) g1) (get_abs (by omega) g2) (fun e : (155 : Nat) = 156 + j => by omega) (show 11 ≤ (155 : Nat) by omega) (ne_sys (by omega))
    (by
      intro e
      have := congrArg List.length e
      rw [ents_length, htk] at this
      simp at this)
    (ents_key 3 _ _)
    (by
      rw [hent, ents_hash]
      exact List.Nodup.sublist ((List.take_sublist _ _).map _) tab_nodup)
    (by rw [hent, ents_length, List.length_take, tabLen_ok]; omega)
  rw [put_abs (o' := main (j + 1)) g1 (by
    unfold main
    rw [hent, ents_length, hlen]
    rfl), ents_length, hlen] at hm
  rw [show 481 + 51 * (j + 1) = 532 + 51 * j by omega, show 156 + (j + 1) = 157 + j by omega]
  exact go_fl1 (n := 223) (m := 107) hne (go_of hs) hm
theorem ga0 (P : Params) : (TU 0 P).get 155 = some (main 0) := by kernel_rfl
theorem gb0 (P : Params) : (TU 0 P).get (156 + 0) = some (subObj (0 + 1)) := by kernel_rfl
theorem ga1 (P : Params) : (TU 1 P).get 155 = some (main 1) := by kernel_rfl
theorem gb1 (P : Params) : (TU 1 P).get (156 + 1) = some (subObj (1 + 1)) := by kernel_rfl
theorem ga2 (P : Params) : (TU 2 P).get 155 = some (main 2) := by kernel_rfl
theorem gb2 (P : Params) : (TU 2 P).get (156 + 2) = some (subObj (2 + 1)) := by kernel_rfl
theorem ga3 (P : Params) : (TU 3 P).get 155 = some (main 3) := by kernel_rfl
theorem gb3 (P : Params) : (TU 3 P).get (156 + 3) = some (subObj (3 + 1)) := by kernel_rfl
theorem ga4 (P : Params) : (TU 4 P).get 155 = some (main 4) := by kernel_rfl
theorem gb4 (P : Params) : (TU 4 P).get (156 + 4) = some (subObj (4 + 1)) := by kernel_rfl
theorem ga5 (P : Params) : (TU 5 P).get 155 = some (main 5) := by kernel_rfl
theorem gb5 (P : Params) : (TU 5 P).get (156 + 5) = some (subObj (5 + 1)) := by kernel_rfl
theorem ga6 (P : Params) : (TU 6 P).get 155 = some (main 6) := by kernel_rfl
theorem gb6 (P : Params) : (TU 6 P).get (156 + 6) = some (subObj (6 + 1)) := by kernel_rfl
theorem ga7 (P : Params) : (TU 7 P).get 155 = some (main 7) := by kernel_rfl
theorem gb7 (P : Params) : (TU 7 P).get (156 + 7) = some (subObj (7 + 1)) := by kernel_rfl
theorem ga8 (P : Params) : (TU 8 P).get 155 = some (main 8) := by kernel_rfl
theorem gb8 (P : Params) : (TU 8 P).get (156 + 8) = some (subObj (8 + 1)) := by kernel_rfl
theorem ga9 (P : Params) : (TU 9 P).get 155 = some (main 9) := by kernel_rfl
theorem gb9 (P : Params) : (TU 9 P).get (156 + 9) = some (subObj (9 + 1)) := by kernel_rfl
theorem ga10 (P : Params) : (TU 10 P).get 155 = some (main 10) := by kernel_rfl
theorem gb10 (P : Params) : (TU 10 P).get (156 + 10) = some (subObj (10 + 1)) := by kernel_rfl
theorem ga11 (P : Params) : (TU 11 P).get 155 = some (main 11) := by kernel_rfl
theorem gb11 (P : Params) : (TU 11 P).get (156 + 11) = some (subObj (11 + 1)) := by kernel_rfl
theorem ga12 (P : Params) : (TU 12 P).get 155 = some (main 12) := by kernel_rfl
theorem gb12 (P : Params) : (TU 12 P).get (156 + 12) = some (subObj (12 + 1)) := by kernel_rfl
theorem ga13 (P : Params) : (TU 13 P).get 155 = some (main 13) := by kernel_rfl
theorem gb13 (P : Params) : (TU 13 P).get (156 + 13) = some (subObj (13 + 1)) := by kernel_rfl
theorem ga14 (P : Params) : (TU 14 P).get 155 = some (main 14) := by kernel_rfl
theorem gb14 (P : Params) : (TU 14 P).get (156 + 14) = some (subObj (14 + 1)) := by kernel_rfl
theorem ga15 (P : Params) : (TU 15 P).get 155 = some (main 15) := by kernel_rfl
theorem gb15 (P : Params) : (TU 15 P).get (156 + 15) = some (subObj (15 + 1)) := by kernel_rfl
theorem ga16 (P : Params) : (TU 16 P).get 155 = some (main 16) := by kernel_rfl
theorem gb16 (P : Params) : (TU 16 P).get (156 + 16) = some (subObj (16 + 1)) := by kernel_rfl
theorem ga17 (P : Params) : (TU 17 P).get 155 = some (main 17) := by kernel_rfl
theorem gb17 (P : Params) : (TU 17 P).get (156 + 17) = some (subObj (17 + 1)) := by kernel_rfl
theorem ga18 (P : Params) : (TU 18 P).get 155 = some (main 18) := by kernel_rfl
theorem gb18 (P : Params) : (TU 18 P).get (156 + 18) = some (subObj (18 + 1)) := by kernel_rfl
theorem ga19 (P : Params) : (TU 19 P).get 155 = some (main 19) := by kernel_rfl
theorem gb19 (P : Params) : (TU 19 P).get (156 + 19) = some (subObj (19 + 1)) := by kernel_rfl
theorem ga20 (P : Params) : (TU 20 P).get 155 = some (main 20) := by kernel_rfl
theorem gb20 (P : Params) : (TU 20 P).get (156 + 20) = some (subObj (20 + 1)) := by kernel_rfl
theorem ga21 (P : Params) : (TU 21 P).get 155 = some (main 21) := by kernel_rfl
theorem gb21 (P : Params) : (TU 21 P).get (156 + 21) = some (subObj (21 + 1)) := by kernel_rfl
theorem ga22 (P : Params) : (TU 22 P).get 155 = some (main 22) := by kernel_rfl
theorem gb22 (P : Params) : (TU 22 P).get (156 + 22) = some (subObj (22 + 1)) := by kernel_rfl
theorem ga23 (P : Params) : (TU 23 P).get 155 = some (main 23) := by kernel_rfl
theorem gb23 (P : Params) : (TU 23 P).get (156 + 23) = some (subObj (23 + 1)) := by kernel_rfl
theorem ga24 (P : Params) : (TU 24 P).get 155 = some (main 24) := by kernel_rfl
theorem gb24 (P : Params) : (TU 24 P).get (156 + 24) = some (subObj (24 + 1)) := by kernel_rfl
theorem ga25 (P : Params) : (TU 25 P).get 155 = some (main 25) := by kernel_rfl
theorem gb25 (P : Params) : (TU 25 P).get (156 + 25) = some (subObj (25 + 1)) := by kernel_rfl
theorem ga26 (P : Params) : (TU 26 P).get 155 = some (main 26) := by kernel_rfl
theorem gb26 (P : Params) : (TU 26 P).get (156 + 26) = some (subObj (26 + 1)) := by kernel_rfl
theorem ga27 (P : Params) : (TU 27 P).get 155 = some (main 27) := by kernel_rfl
theorem gb27 (P : Params) : (TU 27 P).get (156 + 27) = some (subObj (27 + 1)) := by kernel_rfl
theorem ga28 (P : Params) : (TU 28 P).get 155 = some (main 28) := by kernel_rfl
theorem gb28 (P : Params) : (TU 28 P).get (156 + 28) = some (subObj (28 + 1)) := by kernel_rfl
theorem ga29 (P : Params) : (TU 29 P).get 155 = some (main 29) := by kernel_rfl
theorem gb29 (P : Params) : (TU 29 P).get (156 + 29) = some (subObj (29 + 1)) := by kernel_rfl
theorem ga30 (P : Params) : (TU 30 P).get 155 = some (main 30) := by kernel_rfl
theorem gb30 (P : Params) : (TU 30 P).get (156 + 30) = some (subObj (30 + 1)) := by kernel_rfl
theorem ga31 (P : Params) : (TU 31 P).get 155 = some (main 31) := by kernel_rfl
theorem gb31 (P : Params) : (TU 31 P).get (156 + 31) = some (subObj (31 + 1)) := by kernel_rfl
theorem ga32 (P : Params) : (TU 32 P).get 155 = some (main 32) := by kernel_rfl
theorem gb32 (P : Params) : (TU 32 P).get (156 + 32) = some (subObj (32 + 1)) := by kernel_rfl
theorem ga33 (P : Params) : (TU 33 P).get 155 = some (main 33) := by kernel_rfl
theorem gb33 (P : Params) : (TU 33 P).get (156 + 33) = some (subObj (33 + 1)) := by kernel_rfl
theorem ga34 (P : Params) : (TU 34 P).get 155 = some (main 34) := by kernel_rfl
theorem gb34 (P : Params) : (TU 34 P).get (156 + 34) = some (subObj (34 + 1)) := by kernel_rfl
theorem ga35 (P : Params) : (TU 35 P).get 155 = some (main 35) := by kernel_rfl
theorem gb35 (P : Params) : (TU 35 P).get (156 + 35) = some (subObj (35 + 1)) := by kernel_rfl
theorem ga36 (P : Params) : (TU 36 P).get 155 = some (main 36) := by kernel_rfl
theorem gb36 (P : Params) : (TU 36 P).get (156 + 36) = some (subObj (36 + 1)) := by kernel_rfl
theorem subAll (w : World) (os : OsState) : ∀ j : Nat, j < 37 → subj j w os ∧ (TU j w.params).get 155 = some (main j) ∧ (TU j w.params).get (156 + j) = some (subObj (j + 1))
  | 0, _ => ⟨sub1_ok w os, ga0 _, gb0 _⟩
  | 1, _ => ⟨sub2_ok w os, ga1 _, gb1 _⟩
  | 2, _ => ⟨sub3_ok w os, ga2 _, gb2 _⟩
  | 3, _ => ⟨sub4_ok w os, ga3 _, gb3 _⟩
  | 4, _ => ⟨sub5_ok w os, ga4 _, gb4 _⟩
  | 5, _ => ⟨sub6_ok w os, ga5 _, gb5 _⟩
  | 6, _ => ⟨sub7_ok w os, ga6 _, gb6 _⟩
  | 7, _ => ⟨sub8_ok w os, ga7 _, gb7 _⟩
  | 8, _ => ⟨sub9_ok w os, ga8 _, gb8 _⟩
  | 9, _ => ⟨sub10_ok w os, ga9 _, gb9 _⟩
  | 10, _ => ⟨sub11_ok w os, ga10 _, gb10 _⟩
  | 11, _ => ⟨sub12_ok w os, ga11 _, gb11 _⟩
  | 12, _ => ⟨sub13_ok w os, ga12 _, gb12 _⟩
  | 13, _ => ⟨sub14_ok w os, ga13 _, gb13 _⟩
  | 14, _ => ⟨sub15_ok w os, ga14 _, gb14 _⟩
  | 15, _ => ⟨sub16_ok w os, ga15 _, gb15 _⟩
  | 16, _ => ⟨sub17_ok w os, ga16 _, gb16 _⟩
  | 17, _ => ⟨sub18_ok w os, ga17 _, gb17 _⟩
  | 18, _ => ⟨sub19_ok w os, ga18 _, gb18 _⟩
  | 19, _ => ⟨sub20_ok w os, ga19 _, gb19 _⟩
  | 20, _ => ⟨sub21_ok w os, ga20 _, gb20 _⟩
  | 21, _ => ⟨sub22_ok w os, ga21 _, gb21 _⟩
  | 22, _ => ⟨sub23_ok w os, ga22 _, gb22 _⟩
  | 23, _ => ⟨sub24_ok w os, ga23 _, gb23 _⟩
  | 24, _ => ⟨sub25_ok w os, ga24 _, gb24 _⟩
  | 25, _ => ⟨sub26_ok w os, ga25 _, gb25 _⟩
  | 26, _ => ⟨sub27_ok w os, ga26 _, gb26 _⟩
  | 27, _ => ⟨sub28_ok w os, ga27 _, gb27 _⟩
  | 28, _ => ⟨sub29_ok w os, ga28 _, gb28 _⟩
  | 29, _ => ⟨sub30_ok w os, ga29 _, gb29 _⟩
  | 30, _ => ⟨sub31_ok w os, ga30 _, gb30 _⟩
  | 31, _ => ⟨sub32_ok w os, ga31 _, gb31 _⟩
  | 32, _ => ⟨sub33_ok w os, ga32 _, gb32 _⟩
  | 33, _ => ⟨sub34_ok w os, ga33 _, gb33 _⟩
  | 34, _ => ⟨sub35_ok w os, ga34 _, gb34 _⟩
  | 35, _ => ⟨sub36_ok w os, ga35 _, gb35 _⟩
  | 36, _ => ⟨sub37_ok w os, ga36 _, gb36 _⟩
  | n + 37, h => absurd h (by omega)
theorem gal (P : Params) : (TL P).get 155 = some (main 37) := by kernel_rfl
theorem gbl (P : Params) : (TL P).get 193 = some lastObj := by kernel_rfl
theorem last21 (w : World) (os : OsState) : Go w p21 82 (S (TT 37) (156 + 37) (481 + 51 * 37) w os).abs (R 38) (S TE 194 2380 w os).abs (.ref 155) := by
  have hl : ps.drop (17 * 38) = grp 38 := by
    unfold grp
    rw [List.take_of_length_le]
    rw [List.length_drop, psLen_ok]; omega
  have hlen : (b3Tab.drop 646).length = 4 := by rw [List.length_drop, tabLen_ok]
  have htk : (b3Tab.take 646).length = 646 := by rw [List.length_take, tabLen_ok]; omega
  unfold R
  rw [hl]
  refine go_last (n := 82) ?_ ?_
  · unfold grp
    rw [List.length_take, List.length_drop, psLen_ok]; omega
  have hne : grp 38 ≠ [] := by
    intro e
    have : (grp 38).length = 4 := by
      unfold grp
      rw [List.length_take, List.length_drop, psLen_ok]; omega
    rw [e] at this; simp at this
  have hm := Go.merge (w := w) (p := p21) (s := (S TL 194 2380 w os).abs) (d := 155) (a := 193) (es := ents 3 430 (b3Tab.take (17 * (37 + 1)))) (n := 17 * (37 + 1)) (es2 := ents 2 2368 (b3Tab.drop 646)) (m := 4)
    (get_abs (by omega) (gal _)) (get_abs (by omega) (gbl _)) (fun e : (155 : Nat) = 193 => by omega) (show 11 ≤ (155 : Nat) by omega) (ne_sys (by omega))
    (by
      intro e
      have := congrArg List.length e
      rw [ents_length, htk] at this
      simp at this)
    (ents_key 2 _ _)
    (by
      rw [List.map_append, ents_hash, ents_hash, ← List.map_append, List.take_append_drop]
      exact tab_nodup)
    (by rw [List.length_append, ents_length, ents_length, htk, hlen]; omega)
  rw [put_abs (o' := x155 w.params) (gal _) (by
    unfold x155
    rw [ents_length, hlen]), ents_length, hlen] at hm
  exact go_fl1 (n := 53) (m := 29) hne (go_of (subl_ok w os)) hm
theorem chain21 (w : World) (os : OsState) : ∀ k j : Nat, j + k = 37 → Go w p21 (82 + 330 * k) (S (TT j) (156 + j) (481 + 51 * j) w os).abs (R (j + 1)) (S TE 194 2380 w os).abs (.ref 155)
  | 0, j, h => by
    obtain rfl : j = 37 := by omega
    exact last21 w os
  | k + 1, j, h => by
    have ih := chain21 w os k (j + 1) (by omega)
    obtain ⟨h1, h2, h3⟩ := subAll w os j (by omega)
    rw [show 82 + 330 * (k + 1) = 330 + (82 + 330 * k) by omega]
    exact step21 w os j (by omega) h1 h2 h3 ih
theorem all21 (w : World) (os : OsState) : Go w p21 12515 (S T21 155 430 w os).abs (dictDisplay items) (S TE 194 2380 w os).abs (.ref 155) := by
  rw [dd_eq, items_eq]
  have h0 : ps = grp 0 ++ ps.drop (17 * 1) := grp_split 0
  have hb : forIn (ps.map itemOf) ((none, []) : DS) ddP.1 = forIn ((grp 0).map itemOf ++ (ps.drop (17 * 1)).map itemOf) ((none, []) : DS) ddP.1 := by
    rw [← List.map_append, ← h0]
  rw [hb]
  have hne : grp 0 ≠ [] := by
    intro e
    have := grp_len (j := 0) (by omega)
    rw [e] at this; simp at this
  refine go_chunk (n := 223) (m := 12292) (d := some 155) (grp_len (by omega)) (go_fl0 hne (go_of (sub0_ok w os))) ?_
  exact chain21 w os 37 0 rfl
theorem piece21_ok (w : World) (os : OsState) : segRun treeTable PP w 11 annV 1 12525 (S T21 155 430 w os).abs (piecesOf (sts 21 1) hd.env_1 cB ⟨135, 0, 136, 30⟩ fB) = some (.next, (S T22 194 2381 w os).abs, cB, ⟨137, 0, 137, 13⟩) := by
  refine seg_go (n := 2) (N := 12523) (segGo_of (st0_ok w os)) ?_
  have hK : ∃ K : Value → Sem Fin, Cx (dictDisplay items) = (dictDisplay items).wrap K deadEnd id id ∧ K (.ref 155) = Cx (pure (.ref 155)) := by
    unfold Cx
    simp only [bind_wrap]
    exact ⟨_, rfl, rfl⟩
  obtain ⟨K, h1, h2⟩ := hK
  rw [h1]
  refine seg_go (n := 12515) (N := 8) (all21 w os K deadEnd id id) ?_
  rw [h2]
  exact segRun_of (fin21_ok w os)
end Mine
end
section
open PySem PySem.W PyProof.Rows
set_option Elab.async false
set_option maxRecDepth 100000
set_option maxHeartbeats 0
namespace Mine
noncomputable def h33_0 (P : Params) : List Obj := [PySem.W.boot_o_0 P, PySem.W.boot_o_1 P, PySem.W.boot_o_2 P, m33 P, PySem.W.boot_o_4 P, PySem.W.boot_o_5 P, PySem.W.boot_o_6 P, PySem.W.boot_o_7 P, PySem.W.boot_o_8 P, PySem.W.boot_o_9 P, PySem.W.boot_o_10 P, hd.o_1 P, c33 P, hd.o_3 P, hd.o_4 P, hd.o_7 P]
noncomputable def h33_1 (P : Params) : List Obj := [hd.o_8 P, hd.o_9 P, hd.o_10 P, hd.o_11 P, hd.o_12 P, hd.o_13 P, hd.o_14 P, hd.o_15 P, hd.o_16 P, hd.o_17 P, hd.o_18 P, hd.o_19 P, hd.o_20 P, hd.o_21 P, hd.o_22 P, hd.o_23 P]
noncomputable def h33_2 (P : Params) : List Obj := [hd.o_24 P, hd.o_25 P, hd.o_26 P, hd.o_27 P, hd.o_28 P, hd.o_29 P, hd.o_30 P, hd.o_31 P, hd.o_32 P, hd.o_33 P, hd.o_34 P, hd.o_35 P, hd.o_36 P, hd.o_43 P, hd.o_38 P, hd.o_39 P]
noncomputable def h33_3 (P : Params) : List Obj := [hd.o_44 P, hd.o_45 P, hd.o_46 P, hd.o_47 P, hd.o_48 P, hd.o_49 P, hd.o_50 P, hd.o_51 P, hd.o_52 P, hd.o_53 P, hd.o_54 P, hd.o_55 P, hd.o_56 P, hd.o_57 P, hd.o_58 P, hd.o_59 P]
noncomputable def h33_4 (P : Params) : List Obj := [hd.o_60 P, hd.o_61 P, hd.o_62 P, hd.o_63 P, hd.o_64 P, hd.o_65 P, hd.o_66 P, hd.o_67 P, hd.o_68 P, hd.o_69 P, hd.o_70 P, hd.o_71 P, hd.o_72 P, hd.o_73 P, hd.o_74 P, hd.o_75 P]
noncomputable def h33_5 (P : Params) : List Obj := [hd.o_76 P, hd.o_77 P, hd.o_78 P, hd.o_79 P, hd.o_80 P, hd.o_81 P, hd.o_82 P, hd.o_83 P, hd.o_84 P, hd.o_85 P, hd.o_86 P, hd.o_87 P, hd.o_88 P, hd.o_89 P, hd.o_90 P, hd.o_94 P]
noncomputable def h33_6 (P : Params) : List Obj := [hd.o_95 P, hd.o_96 P, hd.o_97 P, hd.o_98 P, hd.o_99 P, hd.o_100 P, hd.o_101 P, hd.o_102 P, hd.o_103 P, hd.o_104 P, hd.o_105 P, hd.o_106 P, hd.o_107 P, hd.o_108 P, hd.o_109 P, hd.o_110 P]
noncomputable def h33_7 (P : Params) : List Obj := [hd.o_111 P, hd.o_112 P, hd.o_113 P, hd.o_114 P, hd.o_115 P, hd.o_116 P, hd.o_117 P, hd.o_118 P, hd.o_119 P, hd.o_120 P, hd.o_121 P, hd.o_122 P, hd.o_123 P, hd.o_124 P, hd.o_125 P, hd.o_126 P]
noncomputable def h33_8 (P : Params) : List Obj := [hd.o_127 P, hd.o_128 P, hd.o_129 P, hd.o_130 P, hd.o_131 P, hd.o_132 P, hd.o_133 P, hd.o_134 P, hd.o_135 P, x137 P, x138 P, x139 P, x140 P, x141 P, x142 P, x143 P]
noncomputable def h33_9 (P : Params) : List Obj := [x144 P, x145 P, x146 P, x147 P, x148 P, x149 P, x150 P, x151 P, x152 P, x153 P, x154 P, x155 P, subObj 1, subObj 2, subObj 3, subObj 4]
noncomputable def h33_10 (P : Params) : List Obj := [subObj 5, subObj 6, subObj 7, subObj 8, subObj 9, subObj 10, subObj 11, subObj 12, subObj 13, subObj 14, subObj 15, subObj 16, subObj 17, subObj 18, subObj 19, subObj 20]
noncomputable def h33_11 (P : Params) : List Obj := [subObj 21, subObj 22, subObj 23, subObj 24, subObj 25, subObj 26, subObj 27, subObj 28, subObj 29, subObj 30, subObj 31, subObj 32, subObj 33, subObj 34, subObj 35, subObj 36]
noncomputable def h33_12 (P : Params) : List Obj := [subObj 37, lastObj, x194 P, x195 P, x196 P, x197 P, x198 P, x199 P, x200 P, x201 P, x202 P, x203 P, x204 P, x205 P, x206 P, x207 P]
noncomputable def h33_13 (P : Params) : List Obj := [x208 P, x209 P, x210 P, x211 P, x212 P, x213 P, x214 P, x215 P, x216 P, x217 P, x218 P, x219 P, x220 P, x221 P, x222 P, x223 P]
noncomputable def h33_14 (P : Params) : List Obj := [x224 P, x225 P, x226 P, x227 P, x228 P, x229 P, x230 P, x231 P, x232 P, x233 P, x234 P, x235 P, x236 P, x237 P, x238 P, x239 P]
noncomputable def h33_15 (P : Params) : List Obj := [x240 P, x241 P, x242 P, x243 P, x244 P, x245 P, x246 P, x247 P, x248 P, x249 P, x250 P, x251 P, x252 P, x253 P, x254 P, x255 P]
noncomputable def H33 (P : Params) : Heap := ⟨⟨h33_0 P ++ (h33_1 P ++ (h33_2 P ++ (h33_3 P ++ (h33_4 P ++ (h33_5 P ++ (h33_6 P ++ (h33_7 P ++ (h33_8 P ++ (h33_9 P ++ (h33_10 P ++ (h33_11 P ++ (h33_12 P ++ (h33_13 P ++ (h33_14 P ++ (h33_15 P)))))))))))))))⟩, {}⟩
noncomputable def pre0 (w : World) (os : OsState) : Prop := topGo treeTable PP w 11 annV 12 ⟨boot_heap w.params, ⟨[]⟩, boot_drawn, boot_toks, os⟩ (topStub PP) = some ((S hd.tree_4 15 187 w os).abs, ⟨denote treeTable cB, cB, ⟨0, 0, 0, 0⟩, fB⟩)
lay_quick Mine.pre0
theorem pre0_ok (w : World) (os : OsState) : pre0 w os := by rw [PySem.W.Fast.te14444360981795027603]; delta PySem.W.Fast.tw14444360981795027603; kernel_rfl
noncomputable def blk0 (w : World) (os : OsState) : Prop := segRun treeTable PP w 11 annV 1 1 (S hd.tree_4 15 187 w os).abs (blockOf bodyL hd.env_1 cB ⟨0, 0, 0, 0⟩ fB) = some (.next, (S hd.tree_4 15 187 w os).abs, cB, ⟨0, 0, 0, 0⟩)
lay_quick Mine.blk0
theorem blk0_ok (w : World) (os : OsState) : blk0 w os := by rw [PySem.W.Fast.te13798539928262688122]; delta PySem.W.Fast.tw13798539928262688122; kernel_rfl
noncomputable def fin0 (w : World) (os : OsState) : Prop := topRun treeTable PP w 11 annV 2 (S T33 256 2464 w os).abs ⟨doneF .next, cB, ⟨193, 0, 207, 67⟩, fB⟩ = some ⟨H33 w.params, ⟨[]⟩, {}, 2464, os⟩
lay_quick Mine.fin0
theorem fin0_ok (w : World) (os : OsState) : fin0 w os := by rw [PySem.W.Fast.te1882490324460003365]; delta PySem.W.Fast.tw1882490324460003365; kernel_rfl
noncomputable def siz0 (w : World) : Prop := ((boot_heap w.params).isNs mainGlobals && (⟨[]⟩ : Array GenState).size == 0, (boot_heap w.params).objs.size, (boot_heap w.params).nsMap mainGlobals "__annotations__") = (true, 11, annV)
lay_quick Mine.siz0
theorem siz0_ok (w : World) : siz0 w := by rw [PySem.W.Fast.te17821940108048192620]; delta PySem.W.Fast.tw17821940108048192620; kernel_rfl
theorem bodyEq : hd.sts_4 ++ (hd.sts_41 ++ (hd.sts_92 ++ (sts 19 1 ++ (sts 20 1 ++ (sts 21 1 ++ (sts 22 11 ++ [])))))) = bodyL := by kernel_rfl
theorem run0 (w : World) (os : OsState) : topRun treeTable PP w 11 annV (12 + (1 + (297 + (389 + (215 + (999 + (30 + (12525 + (303 + 2)))))))))
    ⟨boot_heap w.params, ⟨[]⟩, boot_drawn, boot_toks, os⟩ (topStub PP) = some ⟨H33 w.params, ⟨[]⟩, {}, 2464, os⟩ := by
  refine go_top (pre0_ok w os) (piece_block (blk0_ok w os) ?_)
  have h := hd.chain PP bodyL w os _ _ _ (piece_app (segRun_of (piece19_ok w os)) (piece_app (segRun_of (piece20_ok w os)) (piece_app (piece21_ok w os) (piece_app (segRun_of (piece22_ok w os)) (piece_nil (fin0_ok w os))))))
  rw [bodyEq] at h
  exact h
end Mine
end
section
open PySem PySem.W PyProof.Rows
set_option Elab.async false
set_option maxRecDepth 100000
set_option maxHeartbeats 0
namespace Mine
noncomputable def qV : Program := view PP [0, 2, 4, 6, 7, 9, 11, 13, 14, 15, 16, 17, 19, 20, 21, 22, 24, 25, 26, 27, 28, 29, 30, 31, 32]
noncomputable abbrev looseL : List Str := [Str.ofString "b1_set", Str.ofString "b3_exceptions"]
noncomputable abbrev rowR : OpenRow := PySem.Challenge.rw_pd0025_01.row
noncomputable def K (P : Params) : Frag := (nat_lit 2, PySem.W.boot_o_2 P) :: (nat_lit 3, m33 P) :: (nat_lit 15, hd.o_7 P) :: (nat_lit 17, hd.o_9 P) :: (nat_lit 18, hd.o_10 P) :: (nat_lit 20, hd.o_12 P) :: (nat_lit 21, hd.o_13 P) :: (nat_lit 22, hd.o_14 P) :: (nat_lit 24, hd.o_16 P) :: (nat_lit 25, hd.o_17 P) :: (nat_lit 27, hd.o_19 P) :: (nat_lit 28, hd.o_20 P) :: (nat_lit 29, hd.o_21 P) :: (nat_lit 36, hd.o_28 P) :: (nat_lit 38, hd.o_30 P) :: (nat_lit 39, hd.o_31 P) :: (nat_lit 41, hd.o_33 P) :: (nat_lit 42, hd.o_34 P) :: (nat_lit 43, hd.o_35 P) :: (nat_lit 44, hd.o_36 P) :: (nat_lit 45, hd.o_43 P) :: (nat_lit 48, hd.o_44 P) :: (nat_lit 55, hd.o_51 P) :: (nat_lit 57, hd.o_53 P) :: (nat_lit 58, hd.o_54 P) :: (nat_lit 60, hd.o_56 P) :: (nat_lit 61, hd.o_57 P) :: (nat_lit 62, hd.o_58 P) :: (nat_lit 64, hd.o_60 P) :: (nat_lit 65, hd.o_61 P) :: (nat_lit 67, hd.o_63 P) :: (nat_lit 68, hd.o_64 P) :: (nat_lit 69, hd.o_65 P) :: (nat_lit 71, hd.o_67 P) :: (nat_lit 72, hd.o_68 P) :: (nat_lit 74, hd.o_70 P) :: (nat_lit 75, hd.o_71 P) :: (nat_lit 76, hd.o_72 P) :: (nat_lit 77, hd.o_73 P) :: (nat_lit 78, hd.o_74 P) :: (nat_lit 81, hd.o_77 P) :: (nat_lit 83, hd.o_79 P) :: (nat_lit 84, hd.o_80 P) :: (nat_lit 86, hd.o_82 P) :: (nat_lit 87, hd.o_83 P) :: (nat_lit 88, hd.o_84 P) :: (nat_lit 90, hd.o_86 P) :: (nat_lit 91, hd.o_87 P) :: (nat_lit 93, hd.o_89 P) :: (nat_lit 94, hd.o_90 P) :: (nat_lit 95, hd.o_94 P) :: (nat_lit 97, hd.o_96 P) :: (nat_lit 98, hd.o_97 P) :: (nat_lit 100, hd.o_99 P) :: (nat_lit 101, hd.o_100 P) :: (nat_lit 102, hd.o_101 P) :: (nat_lit 104, hd.o_103 P) :: (nat_lit 105, hd.o_104 P) :: (nat_lit 107, hd.o_106 P) :: (nat_lit 108, hd.o_107 P) :: (nat_lit 109, hd.o_108 P) :: (nat_lit 111, hd.o_110 P) :: (nat_lit 112, hd.o_111 P) :: (nat_lit 114, hd.o_113 P) :: (nat_lit 115, hd.o_114 P) :: (nat_lit 116, hd.o_115 P) :: (nat_lit 118, hd.o_117 P) :: (nat_lit 119, hd.o_118 P) :: (nat_lit 121, hd.o_120 P) :: (nat_lit 122, hd.o_121 P) :: (nat_lit 123, hd.o_122 P) :: (nat_lit 125, hd.o_124 P) :: (nat_lit 126, hd.o_125 P) :: (nat_lit 128, hd.o_127 P) :: (nat_lit 129, hd.o_128 P) :: (nat_lit 130, hd.o_129 P) :: (nat_lit 132, hd.o_131 P) :: (nat_lit 133, hd.o_132 P) :: (nat_lit 135, hd.o_134 P) :: (nat_lit 136, hd.o_135 P) :: (nat_lit 144, x144 P) :: (nat_lit 148, x148 P) :: (nat_lit 150, x150 P) :: (nat_lit 151, x151 P) :: (nat_lit 153, x153 P) :: (nat_lit 154, x154 P) :: (nat_lit 155, x155 P) :: (nat_lit 194, x194 P) :: (nat_lit 196, x196 P) :: (nat_lit 197, x197 P) :: (nat_lit 199, x199 P) :: (nat_lit 200, x200 P) :: (nat_lit 201, x201 P) :: (nat_lit 203, x203 P) :: (nat_lit 204, x204 P) :: (nat_lit 206, x206 P) :: (nat_lit 207, x207 P) :: (nat_lit 208, x208 P) :: (nat_lit 210, x210 P) :: (nat_lit 211, x211 P) :: (nat_lit 213, x213 P) :: (nat_lit 214, x214 P) :: (nat_lit 215, x215 P) :: (nat_lit 217, x217 P) :: (nat_lit 218, x218 P) :: (nat_lit 220, x220 P) :: (nat_lit 221, x221 P) :: (nat_lit 222, x222 P) :: (nat_lit 225, x225 P) :: (nat_lit 226, x226 P) :: (nat_lit 227, x227 P) :: (nat_lit 229, x229 P) :: (nat_lit 230, x230 P) :: (nat_lit 232, x232 P) :: (nat_lit 233, x233 P) :: (nat_lit 234, x234 P) :: (nat_lit 236, x236 P) :: (nat_lit 237, x237 P) :: (nat_lit 239, x239 P) :: (nat_lit 240, x240 P) :: (nat_lit 241, x241 P) :: (nat_lit 244, x244 P) :: (nat_lit 245, x245 P) :: (nat_lit 246, x246 P) :: (nat_lit 249, x249 P) :: (nat_lit 250, x250 P) :: (nat_lit 251, x251 P) :: (nat_lit 254, x254 P) :: (nat_lit 255, x255 P) :: []
noncomputable abbrev kAs : List Addr := [nat_lit 2, nat_lit 3, nat_lit 15, nat_lit 17, nat_lit 18, nat_lit 20, nat_lit 21, nat_lit 22, nat_lit 24, nat_lit 25, nat_lit 27, nat_lit 28, nat_lit 29, nat_lit 36, nat_lit 38, nat_lit 39, nat_lit 41, nat_lit 42, nat_lit 43, nat_lit 44, nat_lit 45, nat_lit 48, nat_lit 55, nat_lit 57, nat_lit 58, nat_lit 60, nat_lit 61, nat_lit 62, nat_lit 64, nat_lit 65, nat_lit 67, nat_lit 68, nat_lit 69, nat_lit 71, nat_lit 72, nat_lit 74, nat_lit 75, nat_lit 76, nat_lit 77, nat_lit 78, nat_lit 81, nat_lit 83, nat_lit 84, nat_lit 86, nat_lit 87, nat_lit 88, nat_lit 90, nat_lit 91, nat_lit 93, nat_lit 94, nat_lit 95, nat_lit 97, nat_lit 98, nat_lit 100, nat_lit 101, nat_lit 102, nat_lit 104, nat_lit 105, nat_lit 107, nat_lit 108, nat_lit 109, nat_lit 111, nat_lit 112, nat_lit 114, nat_lit 115, nat_lit 116, nat_lit 118, nat_lit 119, nat_lit 121, nat_lit 122, nat_lit 123, nat_lit 125, nat_lit 126, nat_lit 128, nat_lit 129, nat_lit 130, nat_lit 132, nat_lit 133, nat_lit 135, nat_lit 136, nat_lit 144, nat_lit 148, nat_lit 150, nat_lit 151, nat_lit 153, nat_lit 154, nat_lit 155, nat_lit 194, nat_lit 196, nat_lit 197, nat_lit 199, nat_lit 200, nat_lit 201, nat_lit 203, nat_lit 204, nat_lit 206, nat_lit 207, nat_lit 208, nat_lit 210, nat_lit 211, nat_lit 213, nat_lit 214, nat_lit 215, nat_lit 217, nat_lit 218, nat_lit 220, nat_lit 221, nat_lit 222, nat_lit 225, nat_lit 226, nat_lit 227, nat_lit 229, nat_lit 230, nat_lit 232, nat_lit 233, nat_lit 234, nat_lit 236, nat_lit 237, nat_lit 239, nat_lit 240, nat_lit 241, nat_lit 244, nat_lit 245, nat_lit 246, nat_lit 249, nat_lit 250, nat_lit 251, nat_lit 254, nat_lit 255]
theorem kAs_ok : ∀ P, kAs = (K P).map (·.1) := fun _ => by kernel_rfl
noncomputable abbrev hookK : Hook := kHook K kAs kAs_ok
noncomputable abbrev sF (w : World) (os : OsState) : Shared := ⟨H33 w.params, ⟨[]⟩, {}, 2464, os⟩
noncomputable abbrev XtK : Shared → Bool := fun s => xlAt qV [] s && recOk (RowW.records rowR.toRowW) s
noncomputable def lk1 (w : World) (os : OsState) : Prop := (staticsOk (importedModules PP.main.body) (boot_heap w.params) (H33 w.params) && namesBound PP (H33 w.params) && gensDone (sF w os) && laidKept (boot_heap w.params) (H33 w.params)) = true
lay_quick Mine.lk1
theorem lk1_ok (w : World) (os : OsState) : lk1 w os := by rw [PySem.W.Fast.te789351446613279169]; delta PySem.W.Fast.tw789351446613279169; kernel_rfl
noncomputable def lk2 (w : World) (os : OsState) : Prop := seen ((recsOf qV).map (·.name)) (ownsOf qV) [] { sF w os with gens := #[] } = expectedOf qV
lay_quick Mine.lk2
theorem lk2_ok (w : World) (os : OsState) : lk2 w os := by rw [PySem.W.Fast.te3882062993937625271]; delta PySem.W.Fast.tw3882062993937625271; kernel_rfl
noncomputable def lk3 (w : World) (os : OsState) : Prop := (sF w os).heap.bltView = bltViewBooted
lay_quick Mine.lk3
theorem lk3_ok (w : World) (os : OsState) : lk3 w os := by rw [PySem.W.Fast.te10652773601820900024]; delta PySem.W.Fast.tw10652773601820900024; kernel_rfl
/-- keys that rise -/
noncomputable def upFrom (k : Int) : List (PyData × PyData) → Bool
  | [] => true
  | (.int a, _) :: r => decide (k < a) && upFrom a r
  | _ => false
theorem up_has : ∀ {D : List (PyData × PyData)} {k j : Int}, upFrom k D = true → j ≤ k → hasIntKey j D = false
  | [], _, _, _, _ => rfl
  | (.int a, _) :: r, k, j, h, hj => by
    simp only [upFrom, Bool.and_eq_true, decide_eq_true_eq] at h
    simp only [hasIntKey, Bool.or_eq_false_iff, beq_eq_false_iff_ne]
    exact ⟨by omega, up_has h.2 (by omega)⟩
theorem up_apart : ∀ {D : List (PyData × PyData)} {k : Int}, upFrom k D = true → keysApartInt D = true
  | [], _, _ => rfl
  | (.int a, _) :: r, k, h => by
    simp only [upFrom, Bool.and_eq_true, decide_eq_true_eq] at h
    simp only [keysApartInt, Bool.and_eq_true, Bool.not_eq_true']
    exact ⟨up_has h.2 (Int.le_refl _), up_apart h.2⟩
noncomputable def nmB3 : Str := Str.ofString "b3_exceptions"
noncomputable def nmB1 : Str := Str.ofString "b1_set"
theorem vNs : valNames qV = [nmB1, nmB3] := by kernel_rfl
noncomputable def tD : List (PyData × PyData) := (tabIntOf qV nmB3).getD []
theorem tD_eq : tabIntOf qV nmB3 = some tD := by kernel_rfl
theorem tNs (w : World) (os : OsState) : (sF w os).heap.nsMap mainGlobals nmB3 = some (.ref 155) := by kernel_rfl
theorem tGet (w : World) (os : OsState) : (sF w os).heap.get? 155 = some (x155 w.params) := by kernel_rfl
noncomputable def tEnts : Prop := entriesAreInt (ents 3 430 (b3Tab.take 646) ++ ents 2 2368 (b3Tab.drop 646)) tD = true
noncomputable def tUp : Prop := upFrom (-1) tD = true
lay_quick Mine.tEnts Mine.tUp
theorem tEnts_ok : tEnts := by rw [PySem.W.Fast.te9647101911061359490]; delta PySem.W.Fast.tw9647101911061359490; kernel_rfl
theorem tUp_ok : tUp := by rw [PySem.W.Fast.te7504408420742674622]; delta PySem.W.Fast.tw7504408420742674622; kernel_rfl
theorem tab_ok (w : World) (os : OsState) : (sF w os).heap.tabIntOk nmB3 tD = true := by
  unfold Heap.tabIntOk
  rw [tNs]
  dsimp only
  rw [tGet w os]
  show ((("dict" : String) == "dict") && ((#[] : Array (Option Value)).size == 0) && entriesAreInt ((ents 3 430 (b3Tab.take 646) ++ ents 2 2368 (b3Tab.drop 646)).toArray.toList) tD && keysApartInt tD && ((155 : Addr) != sysModules)) = true
  rw [up_apart tUp_ok, List.toList_toArray, show entriesAreInt _ _ = true from tEnts_ok]
  rfl
theorem tabs_ok (w : World) (os : OsState) : tablesOk qV (sF w os).heap = true := by
  unfold tablesOk
  rw [vNs, List.all_cons, List.all_cons, List.all_nil]
  dsimp only
  rw [tD_eq]
  dsimp only
  rw [tab_ok w os]
  kernel_rfl
noncomputable def lk4 (w : World) (os : OsState) : Prop := ((sF w os).heap.keysOk (looseW qV looseL) ((recsOf qV).map (·.name)) ((litsOf qV).map (·.1)) ((clssOf qV (looseW qV looseL)).map (·.name)) && (sF w os).heap.accountedOkI (importedModules PP.main.body) && (sF w os).heap.isNs mainGlobals && (sF w os).heap.isNs builtinsNs && tablesOk qV (sF w os).heap && XtK (sF w os) && (if true then (sF w os).gens.size == 0 else !leftWithCleanup (sF w os).gens)) = true
noncomputable def lk4a (w : World) (os : OsState) : Prop := ((sF w os).heap.keysOk (looseW qV looseL) ((recsOf qV).map (·.name)) ((litsOf qV).map (·.1)) ((clssOf qV (looseW qV looseL)).map (·.name)) && (sF w os).heap.accountedOkI (importedModules PP.main.body) && (sF w os).heap.isNs mainGlobals && (sF w os).heap.isNs builtinsNs) = true
noncomputable def lk4b (w : World) (os : OsState) : Prop := (XtK (sF w os)) = true
noncomputable def lk4c (w : World) (os : OsState) : Prop := ((if true then (sF w os).gens.size == 0 else !leftWithCleanup (sF w os).gens)) = true
lay_quick Mine.lk4a Mine.lk4b Mine.lk4c
theorem lk4a_ok (w : World) (os : OsState) : lk4a w os := by rw [PySem.W.Fast.te14947992007382832206]; delta PySem.W.Fast.tw14947992007382832206; kernel_rfl
theorem lk4b_ok (w : World) (os : OsState) : lk4b w os := by rw [PySem.W.Fast.te11402495970879995409]; delta PySem.W.Fast.tw11402495970879995409; kernel_rfl
theorem lk4c_ok (w : World) (os : OsState) : lk4c w os := by rw [PySem.W.Fast.te5156865834700008578]; delta PySem.W.Fast.tw5156865834700008578; kernel_rfl
theorem lk4_ok (w : World) (os : OsState) : lk4 w os := by
  unfold lk4
  rw [Bool.and_eq_true, Bool.and_eq_true, Bool.and_eq_true]
  exact ⟨⟨⟨lk4a_ok w os, tabs_ok w os⟩, lk4b_ok w os⟩, lk4c_ok w os⟩
noncomputable def lk5 (w : World) (os : OsState) : Prop := tabsOk qV (sF w os) = true
lay_quick Mine.lk5
theorem lk5_ok (w : World) (os : OsState) : lk5 w os := by rw [PySem.W.Fast.te12754949040100919815]; delta PySem.W.Fast.tw12754949040100919815; kernel_rfl
noncomputable def lk6 (w : World) (os : OsState) : Prop := pinSeenD qV (drecsOf qV) (sF w os) = pinGoodD (drecsOf qV)
lay_quick Mine.lk6
theorem lk6_ok (w : World) (os : OsState) : lk6 w os := by rw [PySem.W.Fast.te16509567366033878932]; delta PySem.W.Fast.tw16509567366033878932; kernel_rfl
noncomputable def lk7 (w : World) (os : OsState) : Prop := plainSeenE qV (looseW qV looseL) (sF w os) = plainGoodE qV (looseW qV looseL)
lay_quick Mine.lk7
theorem lk7_ok (w : World) (os : OsState) : lk7 w os := by rw [PySem.W.Fast.te264925144256968054]; delta PySem.W.Fast.tw264925144256968054; kernel_rfl
noncomputable def lk8 (w : World) (os : OsState) : Prop := plainSeenD qV looseL (sF w os) = plainGoodD qV looseL
lay_quick Mine.lk8
theorem lk8_ok (w : World) (os : OsState) : lk8 w os := by rw [PySem.W.Fast.te3856478365576117784]; delta PySem.W.Fast.tw3856478365576117784; kernel_rfl
noncomputable def lk9 (w : World) (os : OsState) : Prop := wideSeen qV (sF w os) = wideGood qV
lay_quick Mine.lk9
theorem lk9_ok (w : World) (os : OsState) : lk9 w os := by rw [PySem.W.Fast.te10685170428811586246]; delta PySem.W.Fast.tw10685170428811586246; kernel_rfl
noncomputable def lk10 (w : World) (os : OsState) : Prop := clsSeenW qV looseL (sF w os) = clsGoodW qV looseL
lay_quick Mine.lk10
theorem lk10_ok (w : World) (os : OsState) : lk10 w os := by rw [PySem.W.Fast.te1919525953537812421]; delta PySem.W.Fast.tw1919525953537812421; kernel_rfl
noncomputable def lk11 (w : World) (os : OsState) : Prop := kAs.map (sF w os).heap.get? = (K w.params).map fun p => some p.2
theorem lk11_ok (w : World) (os : OsState) : lk11 w os := by unfold lk11; kernel_rfl
theorem left0 : LeftO PP qV looseL XtK (Hook.obs hookK) (Hook.val hookK) 29628 :=
  LeftO.of_pieces (boot_open (by kernel_rfl) (by decide) (fun s => by kernel_rfl)) siz0_ok run0 (by decide) fun w => funext fun os =>
    looks_pair (lk1_ok w os) (looks_pair (looks_pair (lk2_ok w os) (looks_pair (lk3_ok w os) (looks_pair (lk4_ok w os) (looks_pair (lk5_ok w os) (looks_pair (lk6_ok w os) (looks_pair (lk7_ok w os) (looks_pair (lk8_ok w os) (looks_pair (lk9_ok w os) (lk10_ok w os))))))))) (lk11_ok w os))
end Mine
end
section
open PySem PySem.W PyProof.Rows
set_option Elab.async false
set_option maxRecDepth 100000
set_option maxHeartbeats 0
namespace Mine
theorem left1 : LeftO PySem.Challenge.pw_pd0025_01 qV looseL XtK (Hook.obs hookK) (Hook.val hookK) 29628 := by
  rw [pp_eq]
  exact left0
theorem head (hc : ∀ (d : DefRec) (kwd : List (Str × PySem.Expr)), defOf qV rowR.name = some (d, kwd) → WalkO qV looseL (XL qV []) (Hook.says hookK) rowR.toRowW d kwd fun f vs => PySem.call f vs) : PySem.Challenge.rw_pd0025_01.Holds := by
  w_on
  o_law
  refine holds_open (q := qV) (loose := looseL) (Xt := XtK) (XP := XL qV []) (Yf := Hook.obs hookK) (Ya := Hook.val hookK) (YP := Hook.says hookK) (N := 29628) left1 (Hook.of hookK) (Hook.keeps hookK) (fun s e => xl_of s (Bool.and_eq_true_iff.mp e).1) XL.keeps (by rfl) (by rfl) (by rfl) (fun s e => recFacts_of (Bool.and_eq_true_iff.mp e).2) (by rfl) (by assumption) (by decide +kernel) ⟨rfl, rfl, rfl, rfl, rfl, by decide +kernel⟩ ?hw ?hc
  case hw => w_witness2
  case hc => exact hc _ _ (by rfl)
end Mine
end
section
open PySem PySem.Calls PySem.W PyProof.Rows
set_option Elab.async false
set_option maxRecDepth 100000
set_option maxHeartbeats 4000000
namespace Mine
theorem kind_issubn : builtinKind "issubclass.nested" = none := by decide +kernel
theorem plain_issubn : plainId "issubclass.nested" = true := by decide +kernel
theorem args_issubn (a b c : Value) : argsOk "issubclass.nested" ⟨[a, b, c], []⟩ := by unfold argsOk; kernel_rfl
theorem sub_str_str : isSubtype (.type "str") (.type "str") = pure true := by kernel_rfl
theorem issub_one (tk : Tok) : Meets (Builtin.«issubclass.nested» ⟨[.type "str", .type "str", .int 1 tk], []⟩) (fun _ R s => R (.ok (.ret (.bool true))) s) := by
  intro prog w A R s hs
  have hself := sub_str_str
  have f1 := F.isi_sub_tuple
  repeat (any_goals (first | assumption | (rw [hself]) | wp_step))
theorem issub_tup {prog : Program} {w : World} {A : Around} {E : Value → Shared → Prop} {s : Shared} {Q : Value → Shared → Prop} {tp : Addr} {dd : Option Addr} {n : Nat} {sl : Array (Option Value)} {its : List Value}
    (htp : s.heap.get? tp = some ⟨.type "tuple", dd, .seq its.toArray n, sl⟩) (hits : its = [.type "str", .type "bytes"]) (h : Q (.bool true) s) :
    wpAny (model prog w) A (call (.builtin "issubclass") [.type "str", .ref tp]) Q E s := by
  refine call_issubclass (S := fun _ R s => (s.heap.get? tp = some ⟨.type "tuple", dd, .seq its.toArray n, sl⟩) ∧ R (.ok (.ret (.bool true))) s) (fun prog w A R s hs => issubclass_outer ?_) ⟨htp, h⟩
  obtain ⟨h, g, d, tt, os⟩ := s
  obtain ⟨htp, hq⟩ := hs
  have hT2 : (⟨h, g, d, tt, os⟩ : Shared).TypeIs (.ref tp) "tuple" := ⟨_, htp, rfl⟩
  have f1 := F.isi_sub_tuple
  unfold Builtin.«issubclass.nested»
  repeat (any_goals (first | assumption | wp_step))
  refine wpAny_arrayLoop ?_
  simp only [Option.getD_some, List.toList_toArray]
  subst hits
  rw [List.forIn_cons]
  refine wpAny_bind (wpAny_bind (call_function_meets kind_issubn plain_issubn F.entry_issubclass_nested (args_issubn _ _ _) (issub_one _) ?_))
  show wpAny _ _ (truthy (.bool true) >>= _) _ _ _
  refine wpAny_bind (m := truthy (.bool true)) (wpAny_pure ?_)
  exact wpAny_bind (wpAny_pure (wpAny_pure (wpAny_pure (wpAny_pure hq))))
theorem drop1 {h₀ h : Heap} {L : Addr} {b : Addr × Obj} {news : List (Addr × Obj)} (N : News h₀ L h (b :: news)) : News h₀ L h news := fun p hp => N p (.tail _ hp)
theorem drop2 {h₀ h : Heap} {L : Addr} {a b : Addr × Obj} {news : List (Addr × Obj)} (N : News h₀ L h (a :: b :: news)) : News h₀ L h (a :: news) := fun p hp => N p (by
  rcases List.mem_cons.mp hp with h | h
  · exact h ▸ .head _
  · exact .tail _ (.tail _ h))
theorem ltAll {d : Addr} {l : List (Addr × Obj)} (h : AllLt d l) : ∀ p ∈ l, p.1 < d := by
  induction l with
  | nil => intro p hp; cases hp
  | cons a r ih =>
    intro p hp
    rcases List.mem_cons.mp hp with e | e
    · rw [e]; exact h.1
    · exact ih h.2 p e
end Mine
end
section
open PySem PySem.Spec PySem.Builtin PySem.Builtin.Str PyProof PyProof.Rows
set_option Elab.async false
set_option maxHeartbeats 4000000
set_option linter.unusedSimpArgs false
namespace Mine
noncomputable abbrev toL (x : Str) : List Nat := x.cps.toList
noncomputable abbrev mkS (l : List Nat) : Str := ⟨l.toArray⟩
theorem mkS_toL (x : Str) : mkS (toL x) = x := by cases x; simp [toL]
theorem toL_mkS (l : List Nat) : toL (mkS l) = l := by simp [toL]
theorem str_of_toL {x : Str} {l : List Nat} (h : toL x = l) : x = mkS l := by rw [← h, mkS_toL]
theorem mkS_inj {a b : List Nat} (h : mkS a = mkS b) : a = b := by have := congrArg toL h; simpa using this
theorem str_ext {x y : Str} (h : toL x = toL y) : x = y := by rw [str_of_toL h, mkS_toL]
theorem slash_is : Str.ofString "/" = mkS [47] := by decide +kernel
theorem dot_is : Str.ofString "." = mkS [46] := by decide +kernel
theorem dotdot_is : Str.ofString ".." = mkS [46, 46] := by decide +kernel
theorem empty_is : Str.ofString "" = mkS [] := by decide +kernel
theorem length_toL (x : Str) : x.length = (toL x).length := by simp [toL, Str.length]
theorem toL_append (a b : Str) : toL (a ++ b) = toL a ++ toL b := by
  show (a.cps ++ b.cps).toList = _
  simp
theorem idx_hi (l : Option Int) (k len : Nat) : strSliceIndices l (some (k : Int)) 1 len = strSliceIndices l (some ((min k len : Nat) : Int)) 1 len := by
  have e : max (0 : Int) (min (k : Int) (len : Int)) = max 0 (min ((min k len : Nat) : Int) (len : Int)) := by omega
  have h1 : ¬ ((k : Int) < 0) := by omega
  have h2 : ¬ (((min k len : Nat) : Int) < 0) := by omega
  unfold strSliceIndices
  have h3 : ((1 : Int) > 0) := by decide
  simp only [h1, h2, h3, if_false, if_true, e]
theorem idx_lo (u : Option Int) (k len : Nat) : strSliceIndices (some (k : Int)) u 1 len = strSliceIndices (some ((min k len : Nat) : Int)) u 1 len := by
  have e : max (0 : Int) (min (k : Int) (len : Int)) = max 0 (min ((min k len : Nat) : Int) (len : Int)) := by omega
  have h1 : ¬ ((k : Int) < 0) := by omega
  have h2 : ¬ (((min k len : Nat) : Int) < 0) := by omega
  unfold strSliceIndices
  have h3 : ((1 : Int) > 0) := by decide
  simp only [h1, h2, h3, if_false, if_true, e]
theorem sl_to (x : Str) (k : Nat) : toL (Txt.slice x none (some (k : Int))) = (toL x).take k := by
  have e : Txt.slice x none (some (k : Int)) = StrLaws.sliceText x none (some ((min k x.length : Nat) : Int)) := by
    unfold Txt.slice StrLaws.sliceText
    rw [idx_hi]
  have hl : x.cps.toList.length = x.length := by simp [Str.length]
  rw [e, StrLaws.sliceText_to ⟨by omega, by omega⟩]
  show (((x.cps.toList.drop 0).take _).toArray).toList = _
  simp only [List.drop_zero, List.toList_toArray, Int.sub_zero, Int.toNat_natCast]
  rw [← hl, List.take_eq_take_iff]
  simp
theorem sl_from (x : Str) (k : Nat) : toL (Txt.slice x (some (k : Int)) none) = (toL x).drop k := by
  have e : Txt.slice x (some (k : Int)) none = StrLaws.sliceText x (some ((min k x.length : Nat) : Int)) none := by
    unfold Txt.slice StrLaws.sliceText
    rw [idx_lo]
  have hl : x.cps.toList.length = x.length := by simp [Str.length]
  rw [e, StrLaws.sliceText_from ⟨by omega, by omega⟩]
  show (((x.cps.toList.drop _).take _).toArray).toList = _
  simp only [List.toList_toArray, Int.toNat_natCast]
  rw [List.take_of_length_le (by simp [hl])]
  by_cases h : k ≤ x.length
  · rw [Nat.min_eq_left h]
  · rw [Nat.min_eq_right (by omega), List.drop_of_length_le (by rw [hl]; omega), List.drop_of_length_le (by show x.cps.toList.length ≤ _; omega)]
theorem sl_mid (x : Str) (a b : Nat) (hab : a ≤ b) : toL (Txt.slice x (some (a : Int)) (some (b : Int))) = ((toL x).drop a).take (b - a) := by
  have e : Txt.slice x (some (a : Int)) (some (b : Int)) = StrLaws.sliceText x (some ((min a x.length : Nat) : Int)) (some ((min b x.length : Nat) : Int)) := by
    unfold Txt.slice StrLaws.sliceText
    rw [idx_lo, idx_hi]
  have hl : x.cps.toList.length = x.length := by simp [Str.length]
  rw [e, StrLaws.sliceText_plain ⟨by omega, by omega, by omega⟩]
  show (((x.cps.toList.drop _).take _).toArray).toList = _
  simp only [List.toList_toArray, Int.toNat_natCast]
  by_cases h : a ≤ x.length
  · rw [Nat.min_eq_left h, List.take_eq_take_iff]
    simp [hl]; omega
  · rw [List.drop_of_length_le (by rw [hl]; omega), List.drop_of_length_le (by show x.cps.toList.length ≤ _; omega)]
    simp
/-- the last slash -/
theorem rfind_spec (x : Str) : (Txt.rfind x (Str.ofString "/") = -1 ∧ 47 ∉ toL x) ∨ ∃ i : Nat, Txt.rfind x (Str.ofString "/") = (i : Int) ∧ (toL x)[i]? = some 47 ∧ 47 ∉ (toL x).drop (i + 1) := by
  rw [slash_is]
  unfold Txt.rfind
  have hat : ∀ i, StrLaws.At x (mkS [47]) x.length i ↔ (toL x)[i]? = some 47 := fun i => StrLaws.subAt_one x 47 i
  rcases StrLaws.last_spec x (mkS [47]) with ⟨h1, h2⟩ | ⟨i, h1, h2, h3⟩
  · left
    rw [h1]
    refine ⟨rfl, fun hm => ?_⟩
    obtain ⟨i, hi, e⟩ := List.getElem_of_mem hm
    exact h2 i ((hat i).mpr (by rw [List.getElem?_eq_getElem hi, e]))
  · right
    refine ⟨i, by rw [h1], (hat i).mp h2, fun hm => ?_⟩
    obtain ⟨j, hj, e⟩ := List.getElem_of_mem hm
    rw [List.getElem_drop] at e
    refine h3 (i + 1 + j) (by omega) ((hat _).mpr ?_)
    have hj' : i + 1 + j < (toL x).length := by rw [List.length_drop] at hj; omega
    rw [List.getElem?_eq_getElem hj', e]
/-- pieces between slashes -/
noncomputable def cut (c : Nat) : List Nat → List (List Nat)
  | [] => [[]]
  | a :: l => if a = c then [] :: cut c l else match cut c l with
    | p :: r => (a :: p) :: r
    | [] => [[a]]
noncomputable def glue (c : Nat) : List (List Nat) → List Nat
  | [] => []
  | [p] => p
  | p :: r => p ++ c :: glue c r
theorem cut_ne (c : Nat) (l : List Nat) : cut c l ≠ [] := by
  cases l with
  | nil => simp [cut]
  | cons a l => unfold cut; split <;> (try split) <;> simp
theorem glue_cons (c : Nat) (p : List Nat) {r : List (List Nat)} (h : r ≠ []) : glue c (p :: r) = p ++ c :: glue c r := by
  cases r with
  | nil => exact absurd rfl h
  | cons q r => rfl
theorem cut_append_sep (c : Nat) : ∀ (p l : List Nat), c ∉ p → cut c (p ++ c :: l) = p :: cut c l
  | [], l, _ => by simp [cut]
  | a :: p, l, h => by
    have h1 : a ≠ c := fun e => h (by simp [e])
    have h2 : c ∉ p := fun e => h (List.mem_cons_of_mem _ e)
    simp only [List.cons_append, cut, h1, if_false, cut_append_sep c p l h2]
theorem cut_free (c : Nat) : ∀ (p : List Nat), c ∉ p → cut c p = [p]
  | [], _ => rfl
  | a :: p, h => by
    have h1 : a ≠ c := fun e => h (by simp [e])
    have h2 : c ∉ p := fun e => h (List.mem_cons_of_mem _ e)
    simp only [cut, h1, if_false, cut_free c p h2]
theorem cut_glue (c : Nat) : ∀ (ps : List (List Nat)), ps ≠ [] → (∀ p ∈ ps, c ∉ p) → cut c (glue c ps) = ps
  | [], h, _ => absurd rfl h
  | [p], _, h => cut_free c p (h p (by simp))
  | p :: q :: r, _, h => by
    rw [glue_cons c p (by simp), cut_append_sep c _ _ (h p (by simp)), cut_glue c (q :: r) (by simp) fun x hx => h x (List.mem_cons_of_mem _ hx)]
theorem glue_cut (c : Nat) : ∀ l : List Nat, glue c (cut c l) = l
  | [] => rfl
  | a :: l => by
    have ih := glue_cut c l
    unfold cut
    split
    · rename_i h
      rw [glue_cons c _ (cut_ne c l), ih, h]; rfl
    · split
      · rename_i p r e
        rw [e] at ih
        cases r with
        | nil => simp only [glue] at ih ⊢; rw [ih]
        | cons q r => rw [glue_cons c _ (by simp)] at ih ⊢; rw [List.cons_append, ih]
      · rename_i e; exact absurd e (cut_ne c l)
theorem cut_mem (c : Nat) : ∀ (l : List Nat), ∀ p ∈ cut c l, c ∉ p
  | [], p, h => by simp [cut] at h; simp [h]
  | a :: l, p, h => by
    unfold cut at h
    split at h
    · rcases List.mem_cons.mp h with h | h
      · simp [h]
      · exact cut_mem c l p h
    · rename_i hac
      split at h
      · rename_i q r e
        have ih := cut_mem c l
        rw [e] at ih
        rcases List.mem_cons.mp h with h | h
        · subst h
          intro hm
          rcases List.mem_cons.mp hm with hm | hm
          · exact hac hm.symm
          · exact ih q (by simp) hm
        · exact ih p (List.mem_cons_of_mem _ h)
      · rename_i e; exact absurd e (cut_ne c l)
theorem join_toL (sep : Nat) : ∀ (ps : List Str), toL (Str.join (mkS [sep]) ps) = glue sep (ps.map toL)
  | [] => by simp [Str.join, glue, Str.empty]
  | [x] => by simp [Str.join, glue]
  | x :: y :: r => by
    have ih := join_toL sep (y :: r)
    rw [show Str.join (mkS [sep]) (x :: y :: r) = x ++ mkS [sep] ++ Str.join (mkS [sep]) (y :: r) from rfl, toL_append, toL_append, ih]
    show _ = glue sep (toL x :: (y :: r).map toL)
    rw [glue_cons sep (toL x) (r := (y :: r).map toL) (by simp), List.append_assoc]
    rfl
theorem split_toL (x : Str) : (Txt.split x (Str.ofString "/")).map toL = cut 47 (toL x) := by
  rw [slash_is]
  have h1 := StrLaws.join_split x (mkS [47])
  have h2 := StrLaws.split_free x 47
  have h3 := split_pos x (mkS [47])
  have h4 := join_toL 47 (Txt.split x (mkS [47]))
  rw [h1] at h4
  rw [h4, cut_glue]
  · intro e; rw [List.map_eq_nil_iff] at e; rw [e] at h3; simp at h3
  · intro p hp
    obtain ⟨y, hy, rfl⟩ := List.mem_map.mp hp
    exact h2 y hy
theorem take_rev (g : Nat → Bool) (l : List Nat) : l.take (l.length - (l.reverse.takeWhile g).length) = (l.reverse.dropWhile g).reverse := by
  have h : l.reverse.takeWhile g ++ l.reverse.dropWhile g = l.reverse := List.takeWhile_append_dropWhile
  have h2 : l = (l.reverse.dropWhile g).reverse ++ (l.reverse.takeWhile g).reverse := by
    rw [← List.reverse_append, h, List.reverse_reverse]
  generalize ht : l.reverse.takeWhile g = T at *
  generalize hd : l.reverse.dropWhile g = D at *
  rw [h2]
  simp
theorem rstrip_toL (x : Str) : toL (Txt.rstripChars x (Str.ofString "/")) = ((toL x).reverse.dropWhile (· == 47)).reverse := by
  rw [slash_is]
  unfold Txt.rstripChars
  rw [stripBy_eq]
  show (strSub x _ _).cps.toList = _
  rw [StrLaws.strSub_toList]
  have hc : (fun c => (mkS [47]).cps.contains c) = fun c : Nat => c == 47 := by
    funext c
    simp
    rfl
  simp only [stripLo, stripHi, if_false, if_true, List.drop_zero, Nat.sub_zero, Bool.false_eq_true]
  rw [show (mkS [47]).cps.contains = fun c : Nat => c == 47 from hc, length_toL]
  exact take_rev _ _
theorem lstrip_toL (x : Str) : toL (Txt.lstripChars x (Str.ofString "/")) = (toL x).dropWhile (· == 47) := by
  rw [slash_is]
  unfold Txt.lstripChars
  rw [stripBy_eq]
  show (strSub x _ _).cps.toList = _
  rw [StrLaws.strSub_toList]
  have hc : (fun c => (mkS [47]).cps.contains c) = fun c : Nat => c == 47 := by
    funext c
    simp
    rfl
  simp only [stripLo, stripHi, if_false, if_true, Bool.false_eq_true]
  rw [show (mkS [47]).cps.contains = fun c : Nat => c == 47 from hc, length_toL]
  have h : (toL x).takeWhile (· == 47) ++ (toL x).dropWhile (· == 47) = toL x := List.takeWhile_append_dropWhile
  generalize (toL x).takeWhile (· == 47) = T at *
  generalize (toL x).dropWhile (· == 47) = D at *
  show ((toL x).drop T.length).take ((toL x).length - T.length) = D
  rw [← h]
  simp
theorem mul_toL (n : Nat) : toL (Txt.mul (Str.ofString "/") (n : Int)) = List.replicate n 47 := by
  rw [slash_is]
  unfold Txt.mul
  split
  · rename_i h; have : n = 0 := by omega
    subst this; rfl
  · split
    · rename_i h1 h2
      have : n = 1 := by simp [Str.length] at h2; omega
      subst this; rfl
    · show ((List.replicate ((n : Int)).toNat _).foldl (· ++ ·) #[]).toList = _
      have key : ∀ (k : Nat) (acc : Array Nat), ((List.replicate k (mkS [47]).cps).foldl (· ++ ·) acc).toList = acc.toList ++ List.replicate k 47 := by
        intro k
        induction k with
        | zero => intro acc; simp
        | succ k ih => intro acc; rw [List.replicate_succ, List.foldl_cons, ih]; simp [List.replicate_succ]
      rw [key, Int.toNat_natCast]
      rfl
end Mine
end
section
open PySem PySem.Spec PySem.Builtin PySem.Builtin.Str PyProof PyProof.Rows
set_option Elab.async false
set_option maxHeartbeats 4000000
set_option linter.unusedSimpArgs false
namespace Mine
/-- root and rest of a path -/
noncomputable def rootL (l : List Nat) : List Nat := if l.take 1 = [47] then (if (l.drop 1).take 1 = [47] ∧ (l.drop 2).take 1 ≠ [47] then [47, 47] else [47]) else []
noncomputable def restL (l : List Nat) : List Nat := if l.take 1 = [47] then (if (l.drop 1).take 1 = [47] ∧ (l.drop 2).take 1 ≠ [47] then l.drop 2 else l.drop 1) else l
noncomputable def tailL (l : List Nat) : List Nat := (l.reverse.takeWhile (· != 47)).reverse
noncomputable def preL (l : List Nat) : List Nat := (l.reverse.dropWhile (· != 47)).reverse
noncomputable def headL (l : List Nat) : List Nat := if preL l = List.replicate (preL l).length 47 then preL l else ((preL l).reverse.dropWhile (· == 47)).reverse
theorem bne_str {a b : Str} : (a != b) = true ↔ toL a ≠ toL b := by
  rw [bne_iff_ne]
  exact ⟨fun h e => h (str_ext e), fun h e => h (by rw [e])⟩
theorem bne_str_f {a b : Str} : (a != b) = false ↔ toL a = toL b := by
  rw [bne_eq_false_iff_eq]
  exact ⟨fun h => by rw [h], fun h => str_ext h⟩
theorem beq_str {a b : Str} : (a == b) = true ↔ toL a = toL b := by
  rw [beq_iff_eq]
  exact ⟨fun h => by rw [h], fun h => str_ext h⟩
theorem beq_str_f {a b : Str} : (a == b) = false ↔ toL a ≠ toL b := by
  rw [beq_eq_false_iff_ne]
  exact ⟨fun h e => h (str_ext e), fun h e => h (by rw [e])⟩
theorem toL_slash : toL (Str.ofString "/") = [47] := by rw [slash_is]
theorem s01 (x : Str) : toL (Txt.slice x none (some 1)) = (toL x).take 1 := sl_to x 1
theorem s02 (x : Str) : toL (Txt.slice x none (some 2)) = (toL x).take 2 := sl_to x 2
theorem s1n (x : Str) : toL (Txt.slice x (some 1) none) = (toL x).drop 1 := sl_from x 1
theorem s2n (x : Str) : toL (Txt.slice x (some 2) none) = (toL x).drop 2 := sl_from x 2
theorem s12 (x : Str) : toL (Txt.slice x (some 1) (some 2)) = ((toL x).drop 1).take 1 := sl_mid x 1 2 (by omega)
theorem s23 (x : Str) : toL (Txt.slice x (some 2) (some 3)) = ((toL x).drop 2).take 1 := sl_mid x 2 3 (by omega)
variable {x : Str}
theorem sr1 (h : (Txt.slice x none (some 1) != Str.ofString "/") = true) : mkS (rootL (toL x)) = Str.ofString "" ∧ mkS (restL (toL x)) = x := by
  rw [bne_str, s01, toL_slash] at h
  simp only [rootL, restL, h, if_false]
  exact ⟨empty_is.symm, trivial⟩
theorem sr2 (h : (Txt.slice x none (some 1) != Str.ofString "/") = false) (h2 : (Txt.slice x (some 1) (some 2) != Str.ofString "/") = true) :
    mkS (rootL (toL x)) = Str.ofString "/" ∧ mkS (restL (toL x)) = Txt.slice x (some 1) none := by
  rw [bne_str_f, s01, toL_slash] at h
  rw [bne_str, s12, toL_slash] at h2
  simp only [rootL, restL, h, h2, if_true, if_false, false_and]
  exact ⟨slash_is.symm, (str_of_toL (s1n x)).symm⟩
theorem sr3 (h : (Txt.slice x none (some 1) != Str.ofString "/") = false) (h3 : (Txt.slice x (some 2) (some 3) == Str.ofString "/") = true) :
    mkS (rootL (toL x)) = Str.ofString "/" ∧ mkS (restL (toL x)) = Txt.slice x (some 1) none := by
  rw [bne_str_f, s01, toL_slash] at h
  rw [beq_str, s23, toL_slash] at h3
  simp only [rootL, restL, h, h3, if_true, if_false, ne_eq, not_true_eq_false, and_false]
  exact ⟨slash_is.symm, (str_of_toL (s1n x)).symm⟩
theorem sr4 (h : (Txt.slice x none (some 1) != Str.ofString "/") = false) (h2 : (Txt.slice x (some 1) (some 2) != Str.ofString "/") = false) (h3 : (Txt.slice x (some 2) (some 3) == Str.ofString "/") = false) :
    mkS (rootL (toL x)) = Txt.slice x none (some 2) ∧ mkS (restL (toL x)) = Txt.slice x (some 2) none := by
  rw [bne_str_f, s01, toL_slash] at h
  rw [bne_str_f, s12, toL_slash] at h2
  rw [beq_str_f, s23, toL_slash] at h3
  simp only [rootL, restL, h, h2, h3, if_true, ne_eq, not_false_eq_true, and_self]
  refine ⟨?_, (str_of_toL (s2n x)).symm⟩
  refine (str_of_toL ?_).symm
  rw [s02]
  match hx : toL x, h, h2 with
  | [], h, _ => simp at h
  | [a], _, h2 => simp at h2
  | a :: b :: r, h, h2 => simp at h h2; simp [h, h2]
theorem pre_tail {l a b : List Nat} (e : l = a ++ b) (hb : 47 ∉ b) (ha : a = [] ∨ ∃ a', a = a' ++ [47]) : preL l = a ∧ tailL l = b := by
  subst e
  have h1 : ∀ c ∈ b.reverse, (c != 47) = true := fun c hc => by
    rw [bne_iff_ne]; rintro rfl; exact hb (List.mem_reverse.mp hc)
  unfold preL tailL
  rw [List.reverse_append, List.dropWhile_append_of_pos h1, List.takeWhile_append_of_pos h1]
  rcases ha with rfl | ⟨a', rfl⟩
  · simp
  · simp
theorem cutAt (x : Str) : preL (toL x) = toL (Txt.slice x none (some (Txt.rfind x (Str.ofString "/") + 1))) ∧ tailL (toL x) = toL (Txt.slice x (some (Txt.rfind x (Str.ofString "/") + 1)) none) := by
  rcases rfind_spec x with ⟨h, hn⟩ | ⟨i, h, hi, hn⟩
  · rw [h, show (-1 + 1 : Int) = ((0 : Nat) : Int) from rfl, sl_to, sl_from]
    exact pre_tail (by simp) (by simpa using hn) (.inl (by simp))
  · rw [h, show ((i : Int) + 1) = ((i + 1 : Nat) : Int) from by omega, sl_to, sl_from]
    refine pre_tail (List.take_append_drop _ _).symm hn (.inr ⟨(toL x).take i, ?_⟩)
    obtain ⟨hlt, e⟩ := List.getElem?_eq_some_iff.mp hi
    rw [List.take_add_one, hi]
    simp
theorem spt : mkS (tailL (toL x)) = Txt.slice x (some (Txt.rfind x (Str.ofString "/") + 1)) none := by rw [(cutAt x).2, mkS_toL]
theorem sp1 (h : (Txt.slice x none (some (Txt.rfind x (Str.ofString "/") + 1)) != Txt.mul (Str.ofString "/") ↑(Txt.slice x none (some (Txt.rfind x (Str.ofString "/") + 1))).length) = true) :
    mkS (headL (toL x)) = Txt.rstripChars (Txt.slice x none (some (Txt.rfind x (Str.ofString "/") + 1))) (Str.ofString "/") := by
  rw [bne_str, mul_toL, length_toL] at h
  refine (str_of_toL ?_).symm
  rw [rstrip_toL]
  unfold headL
  rw [(cutAt x).1, if_neg h]
theorem sp2 (h : (Txt.slice x none (some (Txt.rfind x (Str.ofString "/") + 1)) != Txt.mul (Str.ofString "/") ↑(Txt.slice x none (some (Txt.rfind x (Str.ofString "/") + 1))).length) = false) :
    mkS (headL (toL x)) = Txt.slice x none (some (Txt.rfind x (Str.ofString "/") + 1)) := by
  rw [bne_str_f, mul_toL, length_toL] at h
  refine (str_of_toL ?_).symm
  unfold headL
  rw [(cutAt x).1, if_pos h]
theorem sp3 (h : ((Txt.slice x none (some (Txt.rfind x (Str.ofString "/") + 1))).length : Int) = 0) :
    mkS (headL (toL x)) = Txt.slice x none (some (Txt.rfind x (Str.ofString "/") + 1)) := by
  refine (str_of_toL ?_).symm
  unfold headL
  rw [(cutAt x).1]
  rw [length_toL] at h
  have : toL (Txt.slice x none (some (Txt.rfind x (Str.ofString "/") + 1))) = [] := List.length_eq_zero_iff.mp (by omega)
  rw [this]
  rfl
end Mine
end
section
open PySem PySem.Calls PySem.W PyProof.Rows
set_option Elab.async false
set_option maxRecDepth 100000
set_option maxHeartbeats 0
set_option linter.unusedVariables false
namespace Mine
theorem fillK : (fun P => K P) = (fun P => K P) ∧ PySem.Challenge.rw_pd0025_01 = PySem.Challenge.rw_pd0025_01 := by
  k_fill
  exact ⟨rfl, rfl⟩
/-- the calls' frame of facts -/
noncomputable abbrev Ctx0 (w : World) (news : List (Addr × Obj)) (k : Nat) (body : ∀ (A : Around) (s : Shared) (h₀ : Heap) (L : Addr) (m : Str → Option Value) (Q E : Value → Shared → Prop), Prop) : Prop :=
  ∀ {dp un : Nat} {gd : Option (List Code)} {cn : Str} {cs : Scope} {a : Addr} {ccd : Value} {cl : List (Str × Addr)} {outer : List Env} {A₀ : Around} {base h₀ : Heap} {L : Addr} {m mg mb : Str → Option Value} {mean : ExcName → Option Value} {s : Shared} {Q E : Value → Shared → Prop},
    Below A₀ base outer h₀ → Fr h₀ L s.heap m → (K w.params).In h₀ → News h₀ L s.heap news → Top qV (looseW qV looseL) mean mg mb h₀ → cs.kind = .function →
    dp + k < recursionLimit → un + 8 * k + 8 < cLine → body (ktrTop dp un gd cn cs L a ccd cl outer) s h₀ L m Q E
noncomputable abbrev tupO (vs : List Value) : Obj := { cls := .type "tuple", data := .seq vs.toArray }
noncomputable abbrev lisO (vs : List Value) (n : Nat) : Obj := { cls := .type "list", data := .seq vs.toArray n }
theorem getsep_ok (w : World) (news : List (Addr × Obj)) (x : Str) (t : Tok) : Ctx0 w news 1 fun A s h₀ L m Q E =>
    (∀ (t : Tok) (h' : Heap) (tk' : Nat), Fr h₀ L h' m → News h₀ L h' news → Q (.str (Str.ofString "/") t) { s with heap := h', toks := tk' }) →
    wpAny (model rowR.prog w) A (call (.ref 108) [.str x t]) Q E s := by
  k_with_none
  (k_with "call builtin:issubclass" => (k_here; k_dflt (refine' issub_tup ?k1 ?k2 ?_; (case k1 => exact (News.get (by k_asm) (by k_mem))); (case k2 => rfl); k_whole)))
  w_on
  intro dp un gd cn cs a ccd cl outer A₀ base h₀ L m mg mb mean s Q E B F X N T hcs hdp hun hret
  refine wpAny_call ?_
  k_dflt cell_enter
  k_steps
  all_goals (first | (exact hret _ _ _ (by k_asm) (by first | k_asm | (refine' cb_drop ?cbN ?cbS; (case cbN => assumption); (case cbS => kcj_all)))))
theorem fspath_ok (w : World) (news : List (Addr × Obj)) (x : Str) (t : Tok) : Ctx0 w news 1 fun A s h₀ L m Q E =>
    (∀ (h' : Heap) (tk' : Nat), Fr h₀ L h' m → News h₀ L h' news → Q (.str x t) { s with heap := h', toks := tk' }) →
    wpAny (model rowR.prog w) A (call (.ref 94) [.str x t]) Q E s := by
  k_with_none
  (k_with "call builtin:issubclass" => (k_here; k_dflt (refine' issub_tup ?k1 ?k2 ?_; (case k1 => exact (News.get (by k_asm) (by k_mem))); (case k2 => rfl); k_whole)))
  w_on
  intro dp un gd cn cs a ccd cl outer A₀ base h₀ L m mg mb mean s Q E B F X N T hcs hdp hun hret
  refine wpAny_call ?_
  k_dflt cell_enter
  k_steps
  all_goals (first | (exact hret _ _ (by k_asm) (by first | k_asm | (refine' cb_drop ?cbN ?cbS; (case cbN => assumption); (case cbS => kcj_all)))))
end Mine
end
section
open PySem PySem.Calls PySem.W PyProof.Rows
set_option Elab.async false
set_option maxRecDepth 100000
set_option maxHeartbeats 0
set_option linter.unusedVariables false
namespace Mine
theorem fillKB : (fun P => K P) = (fun P => K P) ∧ PySem.Challenge.rw_pd0025_01 = PySem.Challenge.rw_pd0025_01 := by
  k_fill
  exact ⟨rfl, rfl⟩
theorem splitroot_ok (w : World) (news : List (Addr × Obj)) (x : Str) (t : Tok) (hx : x.length ≤ 100000) : Ctx0 w news 2 fun A s h₀ L m Q E =>
    (∀ (D : Addr) (t1 t2 t3 : Tok) (h' : Heap) (tk' : Nat), Fr h₀ L h' m → News h₀ L h' ((D, tupO [.str (Str.ofString "") t1, .str (mkS (rootL (toL x))) t2, .str (mkS (restL (toL x))) t3]) :: news) → (∀ p ∈ news, p.1 < D) → Q (.ref D) { s with heap := h', toks := tk' }) →
    wpAny (model rowR.prog w) A (call (.ref 129) [.str x t]) Q E s := by
  k_with_none
  (k_with "call ref" => (k_here; (with_reducible show wpAny _ _ (call (Value.ref _) [Value.str _ _]) _ _ _); (show wpAny _ _ (call (Value.ref 108) [Value.str _ _]) _ _ _); k_dflt (refine' getsep_ok _ _ _ _ ?kB ?kF ?kX ?kN ?kT ?kc ?kd ?ku ?_; (case kB => k_asm); (case kF => k_asm); (case kX => k_asm); (case kN => k_asm); (case kT => k_asm); (case kc => first | exact rfl | assumption); (case kd => first | omega | (simp only [depth_deeper]; omega) | ktr_room); (case ku => first | omega | (simp only [units_deeper]; omega) | ktr_units)); intro t9 h9 tk9 F9 N9; (try dsimp only); (try k_fold)))
  (k_with "call ref" => (k_here; (with_reducible show wpAny _ _ (call (Value.ref _) [Value.str _ _]) _ _ _); (show wpAny _ _ (call (Value.ref 94) [Value.str _ _]) _ _ _); k_dflt (refine' fspath_ok _ _ _ _ ?kB ?kF ?kX ?kN ?kT ?kc ?kd ?ku ?_; (case kB => k_asm); (case kF => k_asm); (case kX => k_asm); (case kN => k_asm); (case kT => k_asm); (case kc => first | exact rfl | assumption); (case kd => first | omega | (simp only [depth_deeper]; omega) | ktr_room); (case ku => first | omega | (simp only [units_deeper]; omega) | ktr_units)); intro h9 tk9 F9 N9; (try dsimp only); (try k_fold)))
  w_on
  intro dp un gd cn cs a ccd cl outer A₀ base h₀ L m mg mb mean s Q E B F X N T hcs hdp hun hret
  refine wpAny_call ?_
  k_dflt cell_enter
  k_steps
  all_goals (first | (refine' hret _ _ _ _ _ _ ?eF ?eN ?eL; (case eF => k_asm); (case eN => (rw [(sr1 (by assumption)).1, (sr1 (by assumption)).2]; first | k_asm | exact drop2 (by k_asm) | exact drop2 (drop2 (by k_asm)) | exact drop2 (drop2 (drop2 (by k_asm))))); (case eL => (first | assumption | exact ltAll (by assumption) | exact ltAll (And.right (by assumption)) | exact ltAll (And.right (And.right (by assumption)))))) | (refine' hret _ _ _ _ _ _ ?eF ?eN ?eL; (case eF => k_asm); (case eN => (rw [(sr2 (by assumption) (by assumption)).1, (sr2 (by assumption) (by assumption)).2]; first | k_asm | exact drop2 (by k_asm) | exact drop2 (drop2 (by k_asm)) | exact drop2 (drop2 (drop2 (by k_asm))))); (case eL => (first | assumption | exact ltAll (by assumption) | exact ltAll (And.right (by assumption)) | exact ltAll (And.right (And.right (by assumption)))))) | (refine' hret _ _ _ _ _ _ ?eF ?eN ?eL; (case eF => k_asm); (case eN => (rw [(sr3 (by assumption) (by assumption)).1, (sr3 (by assumption) (by assumption)).2]; first | k_asm | exact drop2 (by k_asm) | exact drop2 (drop2 (by k_asm)) | exact drop2 (drop2 (drop2 (by k_asm))))); (case eL => (first | assumption | exact ltAll (by assumption) | exact ltAll (And.right (by assumption)) | exact ltAll (And.right (And.right (by assumption)))))) | (refine' hret _ _ _ _ _ _ ?eF ?eN ?eL; (case eF => k_asm); (case eN => (rw [(sr4 (by assumption) (by assumption) (by assumption)).1, (sr4 (by assumption) (by assumption) (by assumption)).2]; first | k_asm | exact drop2 (by k_asm) | exact drop2 (drop2 (by k_asm)) | exact drop2 (drop2 (drop2 (by k_asm))))); (case eL => (first | assumption | exact ltAll (by assumption) | exact ltAll (And.right (by assumption)) | exact ltAll (And.right (And.right (by assumption)))))))
theorem split_ok (w : World) (news : List (Addr × Obj)) (x : Str) (t : Tok) (hx : x.length ≤ 100000) : Ctx0 w news 2 fun A s h₀ L m Q E =>
    (∀ (D : Addr) (t1 t2 : Tok) (h' : Heap) (tk' : Nat), Fr h₀ L h' m → News h₀ L h' ((D, tupO [.str (mkS (headL (toL x))) t1, .str (mkS (tailL (toL x))) t2]) :: news) → (∀ p ∈ news, p.1 < D) → Q (.ref D) { s with heap := h', toks := tk' }) →
    wpAny (model rowR.prog w) A (call (.ref 122) [.str x t]) Q E s := by
  k_with_none
  (k_with "call ref" => (k_here; (with_reducible show wpAny _ _ (call (Value.ref _) [Value.str _ _]) _ _ _); (show wpAny _ _ (call (Value.ref 108) [Value.str _ _]) _ _ _); k_dflt (refine' getsep_ok _ _ _ _ ?kB ?kF ?kX ?kN ?kT ?kc ?kd ?ku ?_; (case kB => k_asm); (case kF => k_asm); (case kX => k_asm); (case kN => k_asm); (case kT => k_asm); (case kc => first | exact rfl | assumption); (case kd => first | omega | (simp only [depth_deeper]; omega) | ktr_room); (case ku => first | omega | (simp only [units_deeper]; omega) | ktr_units)); intro t9 h9 tk9 F9 N9; (try dsimp only); (try k_fold)))
  (k_with "call ref" => (k_here; (with_reducible show wpAny _ _ (call (Value.ref _) [Value.str _ _]) _ _ _); (show wpAny _ _ (call (Value.ref 94) [Value.str _ _]) _ _ _); k_dflt (refine' fspath_ok _ _ _ _ ?kB ?kF ?kX ?kN ?kT ?kc ?kd ?ku ?_; (case kB => k_asm); (case kF => k_asm); (case kX => k_asm); (case kN => k_asm); (case kT => k_asm); (case kc => first | exact rfl | assumption); (case kd => first | omega | (simp only [depth_deeper]; omega) | ktr_room); (case ku => first | omega | (simp only [units_deeper]; omega) | ktr_units)); intro h9 tk9 F9 N9; (try dsimp only); (try k_fold)))
  w_on
  intro dp un gd cn cs a ccd cl outer A₀ base h₀ L m mg mb mean s Q E B F X N T hcs hdp hun hret
  refine wpAny_call ?_
  k_dflt cell_enter
  k_steps
  all_goals (first | (refine' hret _ _ _ _ _ ?eF ?eN ?eL; (case eF => k_asm); (case eN => (rw [sp1 (by assumption), spt]; first | k_asm | exact drop2 (by k_asm) | exact drop2 (drop2 (by k_asm)) | exact drop2 (drop2 (drop2 (by k_asm))))); (case eL => (first | assumption | exact ltAll (by assumption) | exact ltAll (And.right (by assumption)) | exact ltAll (And.right (And.right (by assumption)))))) | (refine' hret _ _ _ _ _ ?eF ?eN ?eL; (case eF => k_asm); (case eN => (rw [sp2 (by assumption), spt]; first | k_asm | exact drop2 (by k_asm) | exact drop2 (drop2 (by k_asm)) | exact drop2 (drop2 (drop2 (by k_asm))))); (case eL => (first | assumption | exact ltAll (by assumption) | exact ltAll (And.right (by assumption)) | exact ltAll (And.right (And.right (by assumption)))))) | (refine' hret _ _ _ _ _ ?eF ?eN ?eL; (case eF => k_asm); (case eN => (rw [sp3 (by assumption), spt]; first | k_asm | exact drop2 (by k_asm) | exact drop2 (drop2 (by k_asm)) | exact drop2 (drop2 (drop2 (by k_asm))))); (case eL => (first | assumption | exact ltAll (by assumption) | exact ltAll (And.right (by assumption)) | exact ltAll (And.right (And.right (by assumption)))))))
end Mine
end
section
open PySem PySem.Calls PySem.W PyProof.Rows
set_option Elab.async false
set_option maxRecDepth 100000
set_option maxHeartbeats 0
set_option linter.unusedVariables false
namespace Mine
theorem fillKC : (fun P => K P) = (fun P => K P) ∧ PySem.Challenge.rw_pd0025_01 = PySem.Challenge.rw_pd0025_01 := by
  k_fill
  exact ⟨rfl, rfl⟩

noncomputable def b1I : List Int := [65024, 65025, 65026, 65027, 65028, 65029, 6150, 65030, 65031, 65032, 65033, 6155, 6156, 6157, 8203, 8204, 8205, 65034, 65035, 65036, 65037, 65038, 65039, 173, 847, 8288, 65279]
noncomputable def b1T : List Nat := [379, 380, 381, 382, 383, 384, 365, 385, 386, 387, 388, 366, 367, 368, 369, 370, 371, 389, 390, 391, 392, 393, 394, 363, 364, 372, 373]
noncomputable abbrev mk1 (p : Int × Nat) : Int × Value := (p.1, .int p.1 p.2)
theorem any_isInt (k : Int) : ∀ ps : List (Int × Nat), (∃ e ∈ ps.map mk1, Value.isInt k e.2 = true) ↔ (ps.map (·.1)).contains k = true
  | [] => by simp
  | p :: r => by
    have ih := any_isInt k r
    rw [List.map_cons, List.map_cons, List.contains_cons, Bool.or_eq_true, ← ih]
    constructor
    · rintro ⟨e, he, h⟩
      rcases List.mem_cons.mp he with he | he
      · subst he
        left
        have h' : (p.1 == k) = true := h
        rw [beq_iff_eq] at h' ⊢
        exact h'.symm
      · exact .inr ⟨e, he, h⟩
    · rintro (h | ⟨e, he, h⟩)
      · refine ⟨mk1 p, .head _, ?_⟩
        show (p.1 == k) = true
        rw [beq_iff_eq] at h ⊢
        exact h.symm
      · exact ⟨e, .tail _ he, h⟩
theorem set144 (prog : Program) (w : World) (P : Params) : (x144 P).SetObjOf (intKind prog w) (fun k => b1I.contains k) 27 := by
  refine ⟨⟨rfl, rfl, rfl⟩, ((b1I.zip b1T).map mk1).toArray, _, _, rfl, ?_, ?_, rfl, rfl⟩
  · intro e he
    rw [List.toList_toArray] at he
    obtain ⟨p, hp, rfl⟩ := List.mem_map.mp he
    have hall : ∀ p ∈ b1I.zip b1T, hashInt p.1 = p.1 := by decide
    exact ⟨⟨p.1, by simp [intKind, Value.isInt], (hall p hp).symm⟩, rfl⟩
  · intro k
    rw [List.toList_toArray]
    have e : b1I = (b1I.zip b1T).map (·.1) := by decide
    show (b1I.contains k = true) ↔ ∃ e ∈ (b1I.zip b1T).map mk1, Value.isInt k e.2 = true
    rw [any_isInt, ← e]
noncomputable abbrev b3D : List (Int × PyData) := b3Tab.map fun p => (p.1, PyData.str p.2)
noncomputable def smallKeys (l : List (Int × Str)) : Bool := l.all fun p => decide (0 ≤ p.1) && decide (p.1 < 1114112)
noncomputable def b3small : Prop := smallKeys b3Tab = true
lay_quick Mine.b3small
theorem b3small_ok : b3small := by rw [PySem.W.Fast.te725948004557534332]; delta PySem.W.Fast.tw725948004557534332; kernel_rfl
theorem nums_ents (d : Nat) : ∀ (l : List (Int × Str)) (t : Nat), smallKeys l = true → KTD.numsLook (ents d t l) (l.map fun p => (p.1, PyData.str p.2)) = true
  | [], _, _ => rfl
  | e :: r, t, h => by
    simp only [smallKeys, List.all_cons, Bool.and_eq_true, decide_eq_true_eq] at h
    have hh : hashInt e.1 = e.1 := by
      have h0 := h.1.1
      have h1 := h.1.2
      have hr : rawHash e.1 = e.1 := by
        simp only [rawHash]
        have hm : ((e.1.natAbs : Int) % ((2 ^ 61 - 1 : Nat) : Int)) = e.1 := by
          rw [Int.emod_eq_of_lt] <;> omega
        have hlt : ¬ e.1 < 0 := by omega
        have hne : (e.1 == -1) = false := by rw [beq_eq_false_iff_ne]; omega
        simp only [hm, hlt, hne, if_false, Bool.false_eq_true]
      unfold hashInt
      rw [hr]
      have hne : (e.1 == -1) = false := by rw [beq_eq_false_iff_ne]; omega
      rw [hne]
      rfl
    have ih := nums_ents d r (t + d) (by simp only [smallKeys]; exact h.2)
    simp only [ents, List.map_cons, KTD.numsLook, hh, ih, beq_self_eq_true, Bool.and_true, Bool.true_and]
    simp [KTD.flatLooks]
theorem small_append {a b : List (Int × Str)} (h : smallKeys (a ++ b) = true) : smallKeys a = true ∧ smallKeys b = true := by
  simpa only [smallKeys, List.all_append, Bool.and_eq_true] using h
theorem nums_append : ∀ {a b : List DictEntry} {c d : List (Int × PyData)}, KTD.numsLook a c = true → KTD.numsLook b d = true → KTD.numsLook (a ++ b) (c ++ d) = true
  | [], _, [], _, _, h => h
  | [], _, _ :: _, _, h, _ => by simp [KTD.numsLook] at h
  | _ :: _, _, [], _, h, _ => by simp [KTD.numsLook] at h
  | e :: a, b, (i, x) :: c, d, h, h2 => by
    simp only [KTD.numsLook, Bool.and_eq_true, List.cons_append] at h ⊢
    exact ⟨h.1, nums_append h.2 h2⟩
theorem keyed155 {w : World} {h : Heap} (X : (K w.params).In h) : KTD.Keyed h 155 b3D := by
  refine KTD.keyed_of_look (get := fun b => (K w.params).lookup b) (fun a o e => X a o e) ?_
  have hl : (K w.params).lookup 155 = some (x155 w.params) := by kernel_rfl
  have hn : (b3D.map (·.1)).Nodup := by
    have : b3D.map (·.1) = b3Tab.map (·.1) := by simp [b3D]
    rw [this]
    exact rising_nodup b3rising_ok
  have hs := b3small_ok
  unfold b3small at hs
  have hs' := hs
  rw [← List.take_append_drop 646 b3Tab] at hs'
  obtain ⟨s1, s2⟩ := small_append hs'
  have hnum : KTD.numsLook (ents 3 430 (b3Tab.take 646) ++ ents 2 2368 (b3Tab.drop 646)) b3D = true := by
    have := nums_append (nums_ents 3 _ 430 s1) (nums_ents 2 _ 2368 s2)
    rw [← List.map_append, List.take_append_drop] at this
    exact this
  unfold KTD.keyedLook
  simp only [hl, decide_eq_true hn, Bool.and_true]
  simp only [x155, dObj, hnum]
  rfl
theorem datum_str : ∀ (l : List (Int × Str)) (k : Int), KTD.datumAt k (l.map fun p => (p.1, PyData.str p.2)) = (KTD.datumAt k l).map PyData.str
  | [], _ => rfl
  | e :: r, k => by
    simp only [List.map_cons, KTD.datumAt]
    split
    · rfl
    · exact datum_str r k
/-- what stringprep's B.3 makes of a sign -/
noncomputable def b3F (c : Nat) : Str := match KTD.datumAt (c : Int) b3Tab with
  | some y => y
  | none => Txt.lower ⟨#[c]⟩
theorem get155 {prog : Program} {w : World} {A : Around} {E : Value → Shared → Prop} {s : Shared} {h₀ : Heap} {L : Addr} {m : Str → Option Value} {c : Int} {t : Tok} {Q : Value → Shared → Prop}
    (F : Fr h₀ L s.heap m) (X : (K w.params).In h₀) (h1 : ∀ y u, KTD.datumAt c b3Tab = some y → Q (.str y u) { s with toks := s.toks + 1 }) (h2 : KTD.datumAt c b3Tab = none → Q .none { s with toks := s.toks + 1 }) :
    wpAny (model prog w) A (call (.builtin "dict.get") [.ref 155, .int c t]) Q E s := by
  have T := ((keyed155 X).keep F.keep) prog w
  refine call_get1_intTab T fun v hv => ?_
  rw [KTD.lookup_keyed, datum_str] at hv
  cases hd : KTD.datumAt c b3Tab with
  | none => rw [hd] at hv; cases hv s.heap; exact h2 hd
  | some y => rw [hd] at hv; cases hv s.heap; exact h1 y _ hd
theorem meth155 {prog : Program} {w : World} {A : Around} {E : Value → Shared → Prop} {s : Shared} {h₀ : Heap} {L : Addr} {m : Str → Option Value} {pl : Sem Bool} {Q : Value × List Value → Shared → Prop}
    (F : Fr h₀ L s.heap m) (X : (K w.params).In h₀) (h : Q (.builtin "dict.get", [.ref 155]) s) : wpAny (model prog w) A (getMethod (.ref 155) "get" pl) Q E s :=
  getMethod_intTab_get (((keyed155 X).keep F.keep) prog w) h
theorem in144 {prog : Program} {w : World} {A : Around} {E : Value → Shared → Prop} {s : Shared} {h₀ : Heap} {L : Addr} {m : Str → Option Value} {c : Int} {t : Tok} {Q : Value → Shared → Prop}
    (F : Fr h₀ L s.heap m) (X : (K w.params).In h₀) (h : Q (.bool (b1I.contains c)) { s with toks := s.toks + 1 }) : wpAny (model prog w) A (compareOp .In (.int c t) (.ref 144)) Q E s :=
  in_argsetI F (set144 prog w w.params) (X 144 _ (by kernel_rfl)) (by decide) h
end Mine
end
section
open PySem PySem.Calls PySem.W PyProof.Rows
set_option Elab.async false
set_option maxRecDepth 100000
set_option maxHeartbeats 0
set_option linter.unusedVariables false
namespace Mine
theorem fillKD : (fun P => K P) = (fun P => K P) ∧ PySem.Challenge.rw_pd0025_01 = PySem.Challenge.rw_pd0025_01 := by
  k_fill
  exact ⟨rfl, rfl⟩
theorem b1_ok (w : World) (news : List (Addr × Obj)) (c : Nat) (t : Tok) : Ctx0 w news 1 fun A s h₀ L m Q E =>
    (∀ (h' : Heap) (tk' : Nat), Fr h₀ L h' m → News h₀ L h' news → Q (.bool (b1I.contains (c : Int))) { s with heap := h', toks := tk' }) →
    wpAny (model rowR.prog w) A (call (.ref 154) [.str ⟨#[c]⟩ t]) Q E s := by
  k_with_none
  (k_with "call ref" => (k_here; (with_reducible show wpAny _ _ (call (Value.ref _) [Value.str _ _]) _ _ _); (show wpAny _ _ (call (Value.ref 108) [Value.str _ _]) _ _ _); k_dflt (refine' getsep_ok _ _ _ _ ?kB ?kF ?kX ?kN ?kT ?kc ?kd ?ku ?_; (case kB => k_asm); (case kF => k_asm); (case kX => k_asm); (case kN => k_asm); (case kT => k_asm); (case kc => first | exact rfl | assumption); (case kd => first | omega | (simp only [depth_deeper]; omega) | ktr_room); (case ku => first | omega | (simp only [units_deeper]; omega) | ktr_units)); intro t9 h9 tk9 F9 N9; (try dsimp only); (try k_fold)))
  (k_with "call ref" => (k_here; (with_reducible show wpAny _ _ (call (Value.ref _) [Value.str _ _]) _ _ _); (show wpAny _ _ (call (Value.ref 94) [Value.str _ _]) _ _ _); k_dflt (refine' fspath_ok _ _ _ _ ?kB ?kF ?kX ?kN ?kT ?kc ?kd ?ku ?_; (case kB => k_asm); (case kF => k_asm); (case kX => k_asm); (case kN => k_asm); (case kT => k_asm); (case kc => first | exact rfl | assumption); (case kd => first | omega | (simp only [depth_deeper]; omega) | ktr_room); (case ku => first | omega | (simp only [units_deeper]; omega) | ktr_units)); intro h9 tk9 F9 N9; (try dsimp only); (try k_fold)))
  (k_with "compareOp In int ref" => (k_here; k_dflt (refine' in144 ?F ?X ?_; (case F => k_asm); (case X => k_asm); k_whole)))
  (k_with "getMethod ref" => (k_here; k_dflt (refine' meth155 ?F ?X ?_; (case F => k_asm); (case X => k_asm); k_whole)))
  (k_with "call builtin:dict.get" => (k_here; k_dflt (refine' get155 ?F ?X ?_ ?_; (case F => k_asm); (case X => k_asm); k_whole; (try intro _ _ hd9))))
  (k_with "call builtin:str.lower" => (k_here; (show wpAny _ _ (call (Value.builtin "str.lower") [Value.str _ _]) _ _ _); k_dflt (refine SCL.lower (by show (1 : Nat) ≤ 5592405; decide) ?_); intro _))
  w_on
  intro dp un gd cn cs a ccd cl outer A₀ base h₀ L m mg mb mean s Q E B F X N T hcs hdp hun hret
  refine wpAny_call ?_
  k_dflt cell_enter
  k_steps
  all_goals (first | (exact hret _ _ (by k_asm) (by first | k_asm | (refine' cb_drop ?cbN ?cbS; (case cbN => assumption); (case cbS => kcj_all)))))
theorem b3F_some {c : Nat} {y : Str} (h : KTD.datumAt (c : Int) b3Tab = some y) : b3F c = y := by unfold b3F; rw [h]
theorem b3F_none {c : Nat} (h : KTD.datumAt (c : Int) b3Tab = none) : b3F c = Txt.lower ⟨#[c]⟩ := by unfold b3F; rw [h]
theorem b3_ok (w : World) (news : List (Addr × Obj)) (c : Nat) (t : Tok) : Ctx0 w news 1 fun A s h₀ L m Q E =>
    (∀ (t : Tok) (h' : Heap) (tk' : Nat), Fr h₀ L h' m → News h₀ L h' news → Q (.str (b3F c) t) { s with heap := h', toks := tk' }) →
    wpAny (model rowR.prog w) A (call (.ref 200) [.str ⟨#[c]⟩ t]) Q E s := by
  k_with_none
  (k_with "call ref" => (k_here; (with_reducible show wpAny _ _ (call (Value.ref _) [Value.str _ _]) _ _ _); (show wpAny _ _ (call (Value.ref 108) [Value.str _ _]) _ _ _); k_dflt (refine' getsep_ok _ _ _ _ ?kB ?kF ?kX ?kN ?kT ?kc ?kd ?ku ?_; (case kB => k_asm); (case kF => k_asm); (case kX => k_asm); (case kN => k_asm); (case kT => k_asm); (case kc => first | exact rfl | assumption); (case kd => first | omega | (simp only [depth_deeper]; omega) | ktr_room); (case ku => first | omega | (simp only [units_deeper]; omega) | ktr_units)); intro t9 h9 tk9 F9 N9; (try dsimp only); (try k_fold)))
  (k_with "call ref" => (k_here; (with_reducible show wpAny _ _ (call (Value.ref _) [Value.str _ _]) _ _ _); (show wpAny _ _ (call (Value.ref 94) [Value.str _ _]) _ _ _); k_dflt (refine' fspath_ok _ _ _ _ ?kB ?kF ?kX ?kN ?kT ?kc ?kd ?ku ?_; (case kB => k_asm); (case kF => k_asm); (case kX => k_asm); (case kN => k_asm); (case kT => k_asm); (case kc => first | exact rfl | assumption); (case kd => first | omega | (simp only [depth_deeper]; omega) | ktr_room); (case ku => first | omega | (simp only [units_deeper]; omega) | ktr_units)); intro h9 tk9 F9 N9; (try dsimp only); (try k_fold)))
  (k_with "compareOp In int ref" => (k_here; k_dflt (refine' in144 ?F ?X ?_; (case F => k_asm); (case X => k_asm); k_whole)))
  (k_with "getMethod ref" => (k_here; k_dflt (refine' meth155 ?F ?X ?_; (case F => k_asm); (case X => k_asm); k_whole)))
  (k_with "call builtin:dict.get" => (k_here; k_dflt (refine' get155 ?F ?X ?_ ?_; (case F => k_asm); (case X => k_asm); k_whole; (try intro _ _ hd9))))
  (k_with "call builtin:str.lower" => (k_here; (show wpAny _ _ (call (Value.builtin "str.lower") [Value.str _ _]) _ _ _); k_dflt (refine SCL.lower (by show (1 : Nat) ≤ 5592405; decide) ?_); intro _))
  w_on
  intro dp un gd cn cs a ccd cl outer A₀ base h₀ L m mg mb mean s Q E B F X N T hcs hdp hun hret
  refine wpAny_call ?_
  k_dflt cell_enter
  k_steps
  all_goals (first | ((rw [b3F_some (by assumption)] at hret); exact hret _ _ _ (by k_asm) (by first | k_asm | (refine' cb_drop ?cbN ?cbS; (case cbN => assumption); (case cbS => kcj_all)))) | ((rw [b3F_none (by assumption)] at hret); exact hret _ _ _ (by k_asm) (by first | k_asm | (refine' cb_drop ?cbN ?cbS; (case cbN => assumption); (case cbS => kcj_all)))))
end Mine
end
section
open PySem PySem.Calls PySem.W PyProof.Rows
set_option Elab.async false
set_option maxRecDepth 100000
set_option maxHeartbeats 0
set_option linter.unusedVariables false
namespace Mine
theorem fillKE : (fun P => K P) = (fun P => K P) ∧ PySem.Challenge.rw_pd0025_01 = PySem.Challenge.rw_pd0025_01 := by
  k_fill
  exact ⟨rfl, rfl⟩

theorem rootL_ahead (l : List Nat) : rootL l = if l.length - (l.dropWhile (· == 47)).length < 3 then List.replicate (l.length - (l.dropWhile (· == 47)).length) 47 else [47] := by
  have hle : ∀ r : List Nat, (r.dropWhile (· == 47)).length ≤ r.length := fun r => (List.dropWhile_sublist _).length_le
  match l with
  | [] => rfl
  | a :: r =>
    by_cases ha : a = 47
    · subst ha
      match r with
      | [] => rfl
      | b :: r =>
        by_cases hb : b = 47
        · subst hb
          match r with
          | [] => rfl
          | c :: r =>
            by_cases hc : c = 47
            · subst hc
              have h := hle r
              have e : (47 :: 47 :: 47 :: r).length - ((47 :: 47 :: 47 :: r).dropWhile (· == 47)).length = r.length - (r.dropWhile (· == 47)).length + 3 := by
                simp [List.dropWhile]; omega
              rw [e, if_neg (by omega)]
              simp [rootL]
            · have hc' : (c == 47) = false := by simp [hc]
              have e : (47 :: 47 :: c :: r).length - ((47 :: 47 :: c :: r).dropWhile (· == 47)).length = 2 := by
                simp [List.dropWhile, hc']
              rw [e, if_pos (by omega)]
              simp [rootL, hc]
        · have hb' : (b == 47) = false := by simp [hb]
          have e : (47 :: b :: r).length - ((47 :: b :: r).dropWhile (· == 47)).length = 1 := by
            simp [List.dropWhile, hb']
          rw [e, if_pos (by omega)]
          simp [rootL, hb]
    · have ha' : (a == 47) = false := by simp [ha]
      have e : (a :: r).length - ((a :: r).dropWhile (· == 47)).length = 0 := by
        simp [List.dropWhile, ha']
      rw [e, if_pos (by omega)]
      simp [rootL, ha]
theorem ahead_is (x : Str) : ((x.length : Int) - ((Txt.lstripChars x (Str.ofString "/")).length : Int)) = (((toL x).length - ((toL x).dropWhile (· == 47)).length : Nat) : Int) := by
  have hle : ((toL x).dropWhile (· == 47)).length ≤ (toL x).length := (List.dropWhile_sublist _).length_le
  rw [length_toL, length_toL, lstrip_toL]
  omega
theorem rt1 {x : Str} (h : (x.length : Int) - ((Txt.lstripChars x (Str.ofString "/")).length : Int) < 3) : Txt.mul (Str.ofString "/") ((x.length : Int) - ((Txt.lstripChars x (Str.ofString "/")).length : Int)) = mkS (rootL (toL x)) := by
  rw [ahead_is] at h ⊢
  refine str_of_toL ?_
  rw [mul_toL, rootL_ahead, if_pos (by omega)]
theorem rt2 {x : Str} (h : ¬ (x.length : Int) - ((Txt.lstripChars x (Str.ofString "/")).length : Int) < 3) : Str.ofString "/" = mkS (rootL (toL x)) := by
  rw [ahead_is] at h
  rw [slash_is, rootL_ahead, if_neg (by omega)]
theorem root_ok (w : World) (news : List (Addr × Obj)) (x : Str) (t : Tok) (hx : x.length ≤ 100000) : Ctx0 w news 1 fun A s h₀ L m Q E =>
    (∀ (t : Tok) (h' : Heap) (tk' : Nat), Fr h₀ L h' m → News h₀ L h' news → Q (.str (mkS (rootL (toL x))) t) { s with heap := h', toks := tk' }) →
    wpAny (model rowR.prog w) A (call (.ref 240) [.str x t]) Q E s := by
  k_with_none
  (k_with "call ref" => (k_here; (with_reducible show wpAny _ _ (call (Value.ref _) [Value.str _ _]) _ _ _); (show wpAny _ _ (call (Value.ref 108) [Value.str _ _]) _ _ _); k_dflt (refine' getsep_ok _ _ _ _ ?kB ?kF ?kX ?kN ?kT ?kc ?kd ?ku ?_; (case kB => k_asm); (case kF => k_asm); (case kX => k_asm); (case kN => k_asm); (case kT => k_asm); (case kc => first | exact rfl | assumption); (case kd => first | omega | (simp only [depth_deeper]; omega) | ktr_room); (case ku => first | omega | (simp only [units_deeper]; omega) | ktr_units)); intro t9 h9 tk9 F9 N9; (try dsimp only); (try k_fold)))
  (k_with "call ref" => (k_here; (with_reducible show wpAny _ _ (call (Value.ref _) [Value.str _ _]) _ _ _); (show wpAny _ _ (call (Value.ref 94) [Value.str _ _]) _ _ _); k_dflt (refine' fspath_ok _ _ _ _ ?kB ?kF ?kX ?kN ?kT ?kc ?kd ?ku ?_; (case kB => k_asm); (case kF => k_asm); (case kX => k_asm); (case kN => k_asm); (case kT => k_asm); (case kc => first | exact rfl | assumption); (case kd => first | omega | (simp only [depth_deeper]; omega) | ktr_room); (case ku => first | omega | (simp only [units_deeper]; omega) | ktr_units)); intro h9 tk9 F9 N9; (try dsimp only); (try k_fold)))
  w_on
  intro dp un gd cn cs a ccd cl outer A₀ base h₀ L m mg mb mean s Q E B F X N T hcs hdp hun hret
  refine wpAny_call ?_
  k_dflt cell_enter
  k_steps
  all_goals (first | ((rw [rt1 (by assumption)]); exact hret _ _ _ (by k_asm) (by first | k_asm | (refine' cb_drop ?cbN ?cbS; (case cbN => assumption); (case cbS => kcj_all)))) | ((rw [rt2 (x := x) (by assumption)]); exact hret _ _ _ (by k_asm) (by first | k_asm | (refine' cb_drop ?cbN ?cbS; (case cbN => assumption); (case cbS => kcj_all)))))

noncomputable def goneT : List Nat := [173, 847, 6150, 6155, 6156, 6157, 8203, 8204, 8205, 8288, 65279, 65024, 65025, 65026, 65027, 65028, 65029, 65030, 65031, 65032, 65033, 65034, 65035, 65036, 65037, 65038, 65039]
/-- one of the 27 signs of table B.1 -/
noncomputable def goneC (n : Int) : Nat := goneT.getD (n.fmod 27).toNat 0
theorem gone_small (S : Str) (hS : S = mkS [173, 847, 6150, 6155, 6156, 6157, 8203, 8204, 8205, 8288, 65279]) : ∀ k : Nat, k < 11 → Txt.item S (k : Int) = mkS [goneT.getD k 0] := by
  subst hS
  decide +kernel
theorem gn1 {n : Int} {S : Str} (hS : S = mkS [173, 847, 6150, 6155, 6156, 6157, 8203, 8204, 8205, 8288, 65279]) (h : n.fmod 27 < 11) : Txt.item S (n.fmod 27) = ⟨#[goneC n]⟩ := by
  have h0 : 0 ≤ n.fmod 27 := Int.fmod_nonneg_of_pos _ (by decide)
  have := gone_small S hS (n.fmod 27).toNat (by omega)
  rw [Int.toNat_of_nonneg h0] at this
  exact this
theorem gone_big : ∀ k : Nat, k < 27 → ¬ k < 11 → 65013 + k = goneT.getD k 0 := by decide
theorem gn2 {n : Int} (h : ¬ n.fmod 27 < 11) : (⟨#[(65013 + n.fmod 27).toNat]⟩ : Str) = ⟨#[goneC n]⟩ := by
  have h0 : 0 ≤ n.fmod 27 := Int.fmod_nonneg_of_pos _ (by decide)
  have h1 : n.fmod 27 < 27 := Int.fmod_lt_of_pos _ (by decide)
  have := gone_big (n.fmod 27).toNat (by omega) (by omega)
  unfold goneC
  rw [← this]
  congr 2
  congr 1
  omega
theorem gone_ok (w : World) (news : List (Addr × Obj)) (n : Int) (t : Tok) (hn : 0 ≤ n) (hn2 : n < 10000000) : Ctx0 w news 1 fun A s h₀ L m Q E =>
    (∀ (t : Tok) (h' : Heap) (tk' : Nat), Fr h₀ L h' m → News h₀ L h' news → Q (.str ⟨#[goneC n]⟩ t) { s with heap := h', toks := tk' }) →
    wpAny (model rowR.prog w) A (call (.ref 207) [.int n t]) Q E s := by
  k_with_none
  (k_with "call ref" => (k_here; (with_reducible show wpAny _ _ (call (Value.ref _) [Value.str _ _]) _ _ _); (show wpAny _ _ (call (Value.ref 108) [Value.str _ _]) _ _ _); k_dflt (refine' getsep_ok _ _ _ _ ?kB ?kF ?kX ?kN ?kT ?kc ?kd ?ku ?_; (case kB => k_asm); (case kF => k_asm); (case kX => k_asm); (case kN => k_asm); (case kT => k_asm); (case kc => first | exact rfl | assumption); (case kd => first | omega | (simp only [depth_deeper]; omega) | ktr_room); (case ku => first | omega | (simp only [units_deeper]; omega) | ktr_units)); intro t9 h9 tk9 F9 N9; (try dsimp only); (try k_fold)))
  (k_with "call ref" => (k_here; (with_reducible show wpAny _ _ (call (Value.ref _) [Value.str _ _]) _ _ _); (show wpAny _ _ (call (Value.ref 94) [Value.str _ _]) _ _ _); k_dflt (refine' fspath_ok _ _ _ _ ?kB ?kF ?kX ?kN ?kT ?kc ?kd ?ku ?_; (case kB => k_asm); (case kF => k_asm); (case kX => k_asm); (case kN => k_asm); (case kT => k_asm); (case kc => first | exact rfl | assumption); (case kd => first | omega | (simp only [depth_deeper]; omega) | ktr_room); (case ku => first | omega | (simp only [units_deeper]; omega) | ktr_units)); intro h9 tk9 F9 N9; (try dsimp only); (try k_fold)))
  w_on
  intro dp un gd cn cs a ccd cl outer A₀ base h₀ L m mg mb mean s Q E B F X N T hcs hdp hun hret
  refine wpAny_call ?_
  k_dflt cell_enter
  k_steps
  all_goals (first | ((rw [gn1 (by decide +kernel) (by assumption)]); exact hret _ _ _ (by k_asm) (by first | k_asm | (refine' cb_drop ?cbN ?cbS; (case cbN => assumption); (case cbS => kcj_all)))) | ((rw [gn2 (by assumption)]); exact hret _ _ _ (by k_asm) (by first | k_asm | (refine' cb_drop ?cbN ?cbS; (case cbN => assumption); (case cbS => kcj_all)))))
end Mine
end
section
open PySem PySem.Calls PySem.W PyProof.Rows PySem.Spec
set_option Elab.async false
set_option maxRecDepth 100000
set_option maxHeartbeats 1000000
set_option linter.unusedVariables false
namespace Mine
section
variable {prog : Program} {w : World} {A : Around} {E : Value → Shared → Prop} {s : Shared} {env : Env} {h₀ : Heap} {x : Str} {body : List Stmt} {Q : Flow → Shared → Prop}
/-- a loop over a list of the ledger, of any values -/
theorem iter_anyL {l : Addr} {vs : List Value} {nn : Nat} {m₀ : Str → Option Value} {news : List (Addr × Obj)} (J : Nat → (Str → Option Value) → List (Addr × Obj) → Prop)
    (hh : A.handled = none) (hl : (l, listOf vs.toArray nn) ∈ news) (F : Fr h₀ env.locals s.heap m₀) (N : News h₀ env.locals s.heap news) (hj : J 0 m₀ news)
    (turn : ∀ i v m₁ news₁ h tk own, vs[i]? = some v → news₁.map (·.1) = news.map (·.1) → OwnOff own (news.map (·.1)) → (l, listOf vs.toArray nn) ∈ news₁ → J i m₁ news₁ → Fr h₀ env.locals h (fun y => if y = x then some v else m₁ y) → News h₀ env.locals h (news₁ ++ own) →
      wpAny (model prog w) A (execs body env) (InvPostN h₀ env.locals (fun m' nx => (l, listOf vs.toArray nn) ∈ nx ∧ J (i + 1) m' nx) own (news.map (·.1)) { s with heap := h, toks := tk } Q) E { s with heap := h, toks := tk })
    (done : ∀ m₁ news₁ h tk, (l, listOf vs.toArray nn) ∈ news₁ → J vs.length m₁ news₁ → Fr h₀ env.locals h m₁ → News h₀ env.locals h news₁ → Q .next { s with heap := h, toks := tk }) :
    wpAny (model prog w) A (pyIter (.ref l)) (fun it s₂ => LoopAtV prog w A h₀ env x body Q E it s₂) E s := by
  have hol : s.heap.get? l = some (listOf vs.toArray nn) := (N _ hl).1
  have hls : s.heap.IsList l vs.toArray := ⟨_, hol, rfl, nn, rfl⟩
  have hne : l ≠ s.heap.objs.size := Nat.ne_of_lt (Heap.lt_size hol)
  refine wpAny_pyIter_list hls ?_
  have W := Walks.list (prog := prog) (w := w) hh s.heap.objs.size l hne vs.toArray
  have hlen : vs.toArray.size = vs.length := by simp
  rw [hlen] at W
  refine ⟨_, _, _, vs.length, _, _, m₀, news, (fun i m nx => nx.map (·.1) = news.map (·.1) ∧ (l, listOf vs.toArray nn) ∈ nx ∧ J i m nx), rfl, W, ?_, ?_, ?_, ⟨⟨_, Heap.get?_push_size _ rfl, rfl, rfl⟩, hls.at fun o e => Heap.get?_push_of_some _ e⟩, F.push _, (fun p hp => ⟨Heap.get?_push_of_some _ (N p hp).1, (N p hp).2⟩), ⟨rfl, hl, hj⟩, ?_, ?_⟩
  · intro hm
    rcases List.mem_cons.mp hm with e | hm
    · exact absurd F.ns.lt (e ▸ Nat.lt_irrefl _)
    · exact (N _ hl).2.1 ((List.mem_singleton.mp hm).symm)
  · intro b hb
    rw [List.mem_singleton.mp hb]
    exact next_is_new F
  · intro p hp hI
    exact absurd (Heap.lt_size (N p hp).1) ((List.mem_singleton.mp hI) ▸ Nat.lt_irrefl _)
  · rintro i v m₁ news₁ s₁ own ⟨hh', tk', rfl⟩ hin hP ⟨hadr, hl₁, hJ⟩ hoff hown hget hfp _ F₁ N₁
    have hsep : OwnOff (own.filter fun p => decide (p.1 = s.heap.objs.size)) (news.map (·.1)) := by
      intro p hp b hb e
      obtain ⟨q, hq, rfl⟩ := List.mem_map.mp hb
      have h1 : p.1 = s.heap.objs.size := by simpa using (List.mem_filter.mp hp).2
      exact absurd (Heap.lt_size (N q hq).1) (by rw [← e, h1]; exact Nat.lt_irrefl _)
    have hP' : vs[i]? = some v := by simpa using hP
    have N₂ : News h₀ env.locals hh' (news₁ ++ own.filter fun p => decide (p.1 = s.heap.objs.size)) := fun p hp => N₁ p ((List.mem_append.mp hp).elim (fun h => List.mem_append.mpr (.inr h)) fun h => List.mem_append.mpr (.inl ((List.mem_filter.mp h).1)))
    have hlo : hh'.get? l = some (listOf vs.toArray nn) := (N₁ _ (List.mem_append.mpr (.inr hl₁))).1
    refine wpAny_mono (turn i v m₁ news₁ hh' tk' _ hP' hadr hsep hl₁ hJ F₁ N₂) (fun f s₂ p => ?_) fun _ _ e => e
    have fin : InvEndN h₀ env.locals (fun m' nx => (l, listOf vs.toArray nn) ∈ nx ∧ J (i + 1) m' nx) (own.filter fun p => decide (p.1 = s.heap.objs.size)) (news.map (·.1)) { s with heap := hh', toks := tk' } s₂ →
        LoopStepU h₀ env.locals [s.heap.objs.size] own (fun m nx => nx.map (·.1) = news.map (·.1) ∧ (l, listOf vs.toArray nn) ∈ nx ∧ J (i + 1) m nx) { s with heap := hh', toks := tk' } .next s₂ := by
      rintro ⟨h', tk, m', news', nx, e, F', N', hn, ho, ha, hm⟩
      refine ⟨rfl, h', tk, m', nx, e, F', fun p hp => ?_, fun p hp => ?_, ha, hm⟩
      · rcases List.mem_append.mp hp with h | h
        · by_cases hI : p.1 = s.heap.objs.size
          · exact N' p (ho p (List.mem_filter.mpr ⟨h, by simpa using hI⟩))
          · have h1 : p.1 = l := by
              rcases List.mem_cons.mp (hown p h) with h2 | h2
              · exact absurd h2 hI
              · exact List.mem_singleton.mp h2
            have h2 : hh'.get? p.1 = some p.2 := hget p h
            rw [h1, hlo] at h2
            have h3 : p = (l, listOf vs.toArray nn) := Prod.ext h1 (Option.some.inj h2).symm
            rw [h3]
            exact N' _ (hn _ hm.1)
        · exact N' p (hn p h)
      · have h1 : p.1 ∈ nx.map (·.1) := List.mem_map.mpr ⟨p, hp, rfl⟩
        rw [ha] at h1
        obtain ⟨q, hq, e⟩ := List.mem_map.mp h1
        intro hI
        exact absurd (Heap.lt_size (N q hq).1) (by rw [e, List.mem_singleton.mp hI]; exact Nat.lt_irrefl _)
    cases f with
    | ret v => exact .ret p
    | brk => exact .brk p
    | next => exact .next (fin p)
    | cont => exact .cont (fin p)
  · rintro h' tk m' news' F' N' _ ⟨_, hl', hJ⟩
    exact done m' news' h' tk hl' hJ F' N'
/-- texts in a list of values -/
noncomputable abbrev TxtsAre (vs : List Value) (ls : List (List Nat)) : Prop := StrsAre vs (ls.map mkS)
theorem TxtsAre.item {vs : List Value} {ls : List (List Nat)} (h : TxtsAre vs ls) {i : Nat} {v : Value} (hv : vs[i]? = some v) : ∃ p t, ls[i]? = some p ∧ v = .str (mkS p) t := by
  obtain ⟨y, t, e, hy⟩ := StrsAre.item h i v hv
  rw [List.getElem?_map] at hy
  obtain ⟨p, hp, rfl⟩ := Option.map_eq_some_iff.mp hy
  exact ⟨p, t, hp, e⟩
theorem TxtsAre.snoc {vs : List Value} {ls : List (List Nat)} (h : TxtsAre vs ls) (p : List Nat) (t : Tok) : TxtsAre (vs ++ [.str (mkS p) t]) (ls ++ [p]) := by
  unfold TxtsAre
  rw [List.map_append]
  exact StrsAre.append' h (.cons _ _ .nil)
theorem TxtsAre.last {vs : List Value} {ls : List (List Nat)} {p : List Nat} (h : TxtsAre vs (ls ++ [p])) : ∃ ws t, vs = ws ++ [.str (mkS p) t] ∧ TxtsAre ws ls := by
  have hlen := h.len_eq
  rw [List.length_map, List.length_append, List.length_singleton] at hlen
  have h1 := StrsAre.take' h ls.length
  have h2 := StrsAre.drop' h ls.length
  rw [List.map_append] at h1 h2
  rw [← List.length_map (f := mkS) (as := ls), List.take_left'] at h1
  · rw [← List.length_map (f := mkS) (as := ls), List.drop_left'] at h2
    · obtain ⟨t, vs', e, h3⟩ := StrsAre.cons_inv h2
      refine ⟨vs.take (ls.map mkS).length, t, ?_, h1⟩
      rw [StrsAre.nil_inv h3] at e
      rw [← e, List.take_append_drop]
    · rfl
  · rfl
theorem TxtsAre.nil {vs : List Value} (h : TxtsAre vs []) : vs = [] := StrsAre.nil_inv h
/-- a loop over texts that turns one list of texts, a stack -/
theorem iter_stack {l Dn : Addr} {vs : List Value} {ls : List (List Nat)} {nn : Nat} {m₀ : Str → Option Value} {post : List (Addr × Obj)} (g : List (List Nat) → List Nat → List (List Nat)) (hle : ∀ acc p, (g acc p).length ≤ acc.length + 1)
    (hi : TxtsAre vs ls) (hh : A.handled = none) (hl : (l, listOf vs.toArray nn) ∈ post) (hd : l ≠ Dn) (F : Fr h₀ env.locals s.heap m₀) (N : News h₀ env.locals s.heap ((Dn, listOf #[] 0) :: post))
    (turn : ∀ p t acc ws k h tk own, p ∈ ls → acc.length ≤ ls.length → TxtsAre ws acc → OwnOff own (Dn :: post.map (·.1)) → Fr h₀ env.locals h (fun z => if z = x then some (.str (mkS p) t) else m₀ z) → News h₀ env.locals h ((Dn, listOf ws.toArray k) :: (post ++ own)) →
      wpAny (model prog w) A (execs body env) (InvPostN h₀ env.locals (fun m' nx => (∃ ws' k', nx = (Dn, listOf ws'.toArray k') :: post ∧ TxtsAre ws' (g acc p)) ∧ ∀ z, z ≠ x → m' z = m₀ z) own (Dn :: post.map (·.1)) { s with heap := h, toks := tk } Q) E { s with heap := h, toks := tk })
    (done : ∀ (u : Str → Option Value) ws k h tk, TxtsAre ws (ls.foldl g []) → Fr h₀ env.locals h (fun z => if z = x then u z else m₀ z) → News h₀ env.locals h ((Dn, listOf ws.toArray k) :: post) → Q .next { s with heap := h, toks := tk }) :
    wpAny (model prog w) A (pyIter (.ref l)) (fun it s₂ => LoopAtV prog w A h₀ env x body Q E it s₂) E s := by
  have hfold : ∀ (k : List (List Nat)) (a : List (List Nat)), (k.foldl g a).length ≤ a.length + k.length := by
    intro k
    induction k with
    | nil => intro a; simp
    | cons p r ih => intro a; rw [List.foldl_cons]; have h1 := ih (g a p); have h2 := hle a p; rw [List.length_cons]; omega
  refine iter_anyL (fun i m nx => (∃ ws k, nx = (Dn, listOf ws.toArray k) :: post ∧ TxtsAre ws ((ls.take i).foldl g [])) ∧ ∀ z, z ≠ x → m z = m₀ z) hh (.tail _ hl) F N ⟨⟨[], 0, rfl, by rw [List.take_zero]; exact StrsAre.nil⟩, fun _ _ => rfl⟩ ?_ ?_
  · rintro i v m₁ news₁ h tk own hv _ hsep hl₁ ⟨⟨ws, k, rfl, hws⟩, hm⟩ F₁ N₁
    obtain ⟨p, t, hp, rfl⟩ := hi.item hv
    have e : (fun z => if z = x then some (Value.str (mkS p) t) else m₁ z) = fun z => if z = x then some (Value.str (mkS p) t) else m₀ z := by
      funext z
      by_cases h1 : z = x
      · simp [h1]
      · simp only [if_neg h1]; exact hm z h1
    rw [e] at F₁
    have hs : (ls.take (i + 1)).foldl g [] = g ((ls.take i).foldl g []) p := by
      rw [List.take_add_one, hp]; simp
    have hlen : ((ls.take i).foldl g []).length ≤ ls.length := by
      have h1 := hfold (ls.take i) []
      have h2 := List.length_take_le i ls
      have h3 : (ls.take i).length ≤ ls.length := by rw [List.length_take]; omega
      simp only [List.length_nil] at h1
      omega
    simp only [List.map_cons] at hsep
    have := turn p t _ ws k h tk own (List.mem_of_getElem? hp) hlen hws hsep F₁ N₁
    rw [hs]
    refine wpAny_mono this (fun f s₂ q => ?_) fun _ _ e => e
    have conv : InvEndN h₀ env.locals (fun m' nx => (∃ ws' k', nx = (Dn, listOf ws'.toArray k') :: post ∧ TxtsAre ws' (g ((ls.take i).foldl g []) p)) ∧ ∀ z, z ≠ x → m' z = m₀ z) own (Dn :: post.map (·.1)) { s with heap := h, toks := tk } s₂ →
        InvEndN h₀ env.locals (fun m' nx => (l, listOf vs.toArray nn) ∈ nx ∧ (∃ ws' k', nx = (Dn, listOf ws'.toArray k') :: post ∧ TxtsAre ws' (g ((ls.take i).foldl g []) p)) ∧ ∀ z, z ≠ x → m' z = m₀ z) own (List.map (·.1) ((Dn, listOf #[] 0) :: post)) { s with heap := h, toks := tk } s₂ := by
      rintro ⟨h', tk', m', news', nx, e, F', N', hn, ho, ha, ⟨ws', k', rfl, hw⟩, hm'⟩
      exact ⟨h', tk', m', news', _, e, F', N', hn, ho, ha, .tail _ hl, ⟨ws', k', rfl, hw⟩, hm'⟩
    cases f with
    | ret v => exact q
    | brk => exact q
    | next => exact conv q
    | cont => exact conv q
  · rintro m₁ news₁ h tk _ ⟨⟨ws, k, rfl, hws⟩, hm⟩ F₁ N₁
    have hvl : vs.length = ls.length := by have := hi.len_eq; rw [List.length_map] at this; exact this
    rw [hvl, List.take_length] at hws
    refine done m₁ ws k h tk hws ?_ N₁
    have e : (fun z => if z = x then m₁ z else m₀ z) = m₁ := by
      funext z
      by_cases h1 : z = x
      · simp [h1]
      · simp only [if_neg h1]; exact (hm z h1).symm
    rw [e]; exact F₁
end
end Mine
end
section
open PySem PySem.Calls PySem.W PyProof.Rows PySem.Spec
set_option Elab.async false
set_option maxRecDepth 100000
set_option maxHeartbeats 1000000
set_option linter.unusedVariables false
namespace Mine
/-- a turn of normpath: the names kept so far, a name -/
noncomputable def stepL (r : Bool) (acc : List (List Nat)) (p : List Nat) : List (List Nat) :=
  if p = [] ∨ p = [46] then acc
  else if p ≠ [46, 46] ∨ (r = false ∧ acc = []) ∨ acc.getLast? = some [46, 46] then acc ++ [p]
  else acc.dropLast
theorem stepL_le (r : Bool) (acc : List (List Nat)) (p : List Nat) : (stepL r acc p).length ≤ acc.length + 1 := by
  unfold stepL
  split
  · omega
  · split
    · rw [List.length_append, List.length_singleton]; omega
    · rw [List.length_dropLast]; omega
noncomputable def redL (r : Bool) (ls : List (List Nat)) : List (List Nat) := ls.foldl (stepL r) []
noncomputable def orDot (x : List Nat) : List Nat := if x = [] then [46] else x
noncomputable def normL (l : List Nat) : List Nat := orDot (if l = [] then [] else rootL l ++ glue 47 (redL (decide (rootL l ≠ [])) (cut 47 (restL l))))
section
variable {prog : Program} {w : World} {A : Around} {E : Value → Shared → Prop} {s : Shared} {h₀ : Heap} {L : Addr} {m : Str → Option Value} {news : List (Addr × Obj)} {Q : Value → Shared → Prop}
theorem split_call {x : Str} {t u : Tok} (hF : Fr h₀ L s.heap m) (hN : News h₀ L s.heap news)
    (h : ∀ D vs h' k, TxtsAre vs (cut 47 (toL x)) → Fr h₀ L h' m → News h₀ L h' ((D, listOf vs.toArray 0) :: news) → (∀ p ∈ news, p.1 < D) → Q (.ref D) { s with heap := h', toks := k })
    (hsz : x.length ≤ 100000) : wpAny (model prog w) A (call (.builtin "str.split") [.str x t, .str (Str.ofString "/") u]) Q E s := by
  refine splitN1 hF hN (by decide +kernel) (fun l h' k e F' N' => ?_) (by have : sizeLine = 2 ^ 24 := rfl; omega)
  refine h _ _ h' k ?_ F' N' (fun p hp => Heap.lt_size (hN p hp).1)
  have h1 := strsAre_of_values l
  rw [e] at h1
  have h2 := split_toL x
  unfold TxtsAre
  rw [← h2, List.map_map]
  have h3 : (mkS ∘ toL) = (fun y => y) := funext mkS_toL
  rw [h3, List.map_id']
  exact h1
end
/-- a mark that tells a walk's line a term -/
noncomputable def Mk {α : Sort _} (_ : α) : Prop := True
theorem restL_le (l : List Nat) : (restL l).length ≤ l.length := by
  unfold restL
  split
  · split <;> (rw [List.length_drop]; omega)
  · omega
theorem rootL_le (l : List Nat) : (rootL l).length ≤ l.length := by
  unfold rootL
  split
  · rename_i h
    have h1 : 1 ≤ l.length := by
      cases l with
      | nil => simp at h
      | cons a r => simp
    split
    · rename_i h2
      have h3 : 2 ≤ l.length := by
        have := congrArg List.length h2.1
        rw [List.length_take, List.length_drop] at this
        simp at this
        omega
      simpa using h3
    · simpa using h1
  · simp
theorem len_mk (l : List Nat) : (mkS l).length = l.length := by rw [length_toL, toL_mkS]
theorem split_mk {prog : Program} {w : World} {A : Around} {E : Value → Shared → Prop} {s : Shared} {h₀ : Heap} {L : Addr} {m : Str → Option Value} {news : List (Addr × Obj)} {Q : Value → Shared → Prop} {l : List Nat} {t u : Tok} (hF : Fr h₀ L s.heap m) (hN : News h₀ L s.heap news)
    (h : ∀ D vs h' k, TxtsAre vs (cut 47 l) → Fr h₀ L h' m → News h₀ L h' ((D, listOf vs.toArray 0) :: news) → (∀ p ∈ news, p.1 < D) → Q (.ref D) { s with heap := h', toks := k })
    (hsz : l.length ≤ 100000) : wpAny (model prog w) A (call (.builtin "str.split") [.str (mkS l) t, .str (Str.ofString "/") u]) Q E s :=
  split_call hF hN (by rw [toL_mkS]; exact h) (by rw [len_mk]; exact hsz)
theorem glue_length (c : Nat) : ∀ ls : List (List Nat), (glue c ls).length ≤ (ls.map List.length).sum + ls.length
  | [] => by simp [glue]
  | [p] => by simp [glue]
  | p :: q :: r => by
    have ih := glue_length c (q :: r)
    rw [glue_cons c p (by simp), List.length_append, List.length_cons]
    simp only [List.map_cons, List.sum_cons, List.length_cons] at ih ⊢
    omega
theorem cut_sum (c : Nat) (l : List Nat) : ((cut c l).map List.length).sum + (cut c l).length = l.length + 1 := by
  induction l with
  | nil => simp [cut]
  | cons a l ih =>
    unfold cut
    split
    · simp only [List.map_cons, List.sum_cons, List.length_cons, List.length_nil]; omega
    · split
      · rename_i p r e
        rw [e] at ih
        simp only [List.map_cons, List.sum_cons, List.length_cons] at ih ⊢; omega
      · rename_i e; exact absurd e (cut_ne c l)
theorem stepL_sum (r : Bool) (acc : List (List Nat)) (p : List Nat) : ((stepL r acc p).map List.length).sum + (stepL r acc p).length ≤ (acc.map List.length).sum + acc.length + p.length + 1 := by
  unfold stepL
  split
  · omega
  · split
    · simp only [List.map_append, List.sum_append, List.map_cons, List.map_nil, List.sum_cons, List.sum_nil, List.length_append, List.length_cons, List.length_nil]; omega
    · rcases List.eq_nil_or_concat acc with rfl | ⟨a, b, rfl⟩
      · simp
      · simp only [List.concat_eq_append, List.dropLast_concat, List.map_append, List.sum_append, List.length_append]; omega
theorem redL_sum (r : Bool) (ls : List (List Nat)) : ((redL r ls).map List.length).sum + (redL r ls).length ≤ (ls.map List.length).sum + ls.length := by
  have key : ∀ (ls acc : List (List Nat)), ((ls.foldl (stepL r) acc).map List.length).sum + (ls.foldl (stepL r) acc).length ≤ (acc.map List.length).sum + acc.length + ((ls.map List.length).sum + ls.length) := by
    intro ls
    induction ls with
    | nil => intro acc; simp
    | cons p q ih =>
      intro acc
      have h1 := ih (stepL r acc p)
      have h2 := stepL_sum r acc p
      rw [List.foldl_cons]
      simp only [List.map_cons, List.sum_cons, List.length_cons]
      omega
  have := key ls []
  unfold redL
  simpa using this
theorem mem_sum {p : List Nat} {ls : List (List Nat)} (h : p ∈ ls) : p.length ≤ (ls.map List.length).sum := by
  induction ls with
  | nil => cases h
  | cons a r ih =>
    rw [List.map_cons, List.sum_cons]
    rcases List.mem_cons.mp h with rfl | h
    · omega
    · have := ih h; omega
theorem stack_cases {ws : List Value} {acc : List (List Nat)} (h : TxtsAre ws acc) : (ws = [] ∧ acc = []) ∨ ∃ a b us u, ws = us ++ [.str (mkS b) u] ∧ acc = a ++ [b] ∧ TxtsAre us a := by
  rcases List.eq_nil_or_concat acc with rfl | ⟨a, b, rfl⟩
  · exact .inl ⟨h.nil, rfl⟩
  · rw [List.concat_eq_append] at h ⊢
    obtain ⟨us, u, e, h2⟩ := h.last
    exact .inr ⟨a, b, us, u, e, rfl, h2⟩
theorem ltAll' {d : Addr} {l : List (Addr × Obj)} (h : AllLt d l) : ∀ p ∈ l, @LT.lt Nat _ p.1 d := by
  induction l with
  | nil => intro p hp; cases hp
  | cons a r ih =>
    intro p hp
    rcases List.mem_cons.mp hp with e | e
    · rw [e]; exact h.1
    · exact ih h.2 p e
theorem iter_stackM {prog : Program} {w : World} {A : Around} {E : Value → Shared → Prop} {s : Shared} {env : Env} {h₀ : Heap} {x : Str} {body : List Stmt} {Q : Flow → Shared → Prop} {l Dn : Addr} {vs : List Value} {ls : List (List Nat)} {nn : Nat} {m₀ : Str → Option Value} {post : List (Addr × Obj)} {r : Bool} (hmk : Mk r)
    (hi : TxtsAre vs ls) (hb : (ls.map List.length).sum + ls.length ≤ 200000) (hh : A.handled = none) (hl : (l, listOf vs.toArray nn) ∈ post) (hlt : AllLt Dn post) (F : Fr h₀ env.locals s.heap m₀) (N : News h₀ env.locals s.heap ((Dn, listOf #[] 0) :: post))
    (turn0 : ∀ p t k h tk own, (mkS p).length ≤ 200000 → (∀ p ∈ post ++ own, p.1 ≠ Dn) → Fr h₀ env.locals h (fun z => if z = x then some (.str (mkS p) t) else m₀ z) → News h₀ env.locals h ((Dn, listOf [].toArray k) :: (post ++ own)) →
      wpAny (model prog w) A (execs body env) (InvPostN h₀ env.locals (fun m' nx => (∃ ws' k', nx = (Dn, listOf ws'.toArray k') :: post ∧ TxtsAre ws' (stepL r [] p)) ∧ ∀ z, z ≠ x → m' z = m₀ z) own (Dn :: post.map (·.1)) { s with heap := h, toks := tk } Q) E { s with heap := h, toks := tk })
    (turn1 : ∀ p t a b us u k h tk own, (mkS p).length ≤ 200000 → us.length ≤ 200000 → a.length = us.length → TxtsAre us a → (∀ p ∈ post ++ own, p.1 ≠ Dn) → Fr h₀ env.locals h (fun z => if z = x then some (.str (mkS p) t) else m₀ z) → News h₀ env.locals h ((Dn, listOf (us ++ [Value.str (mkS b) u]).toArray k) :: (post ++ own)) →
      wpAny (model prog w) A (execs body env) (InvPostN h₀ env.locals (fun m' nx => (∃ ws' k', nx = (Dn, listOf ws'.toArray k') :: post ∧ TxtsAre ws' (stepL r (a ++ [b]) p)) ∧ ∀ z, z ≠ x → m' z = m₀ z) own (Dn :: post.map (·.1)) { s with heap := h, toks := tk } Q) E { s with heap := h, toks := tk })
    (done : ∀ (u : Str → Option Value) ws k h tk, TxtsAre ws (redL r ls) → ((redL r ls).map List.length).sum + (redL r ls).length ≤ 200000 → Fr h₀ env.locals h (fun z => if z = x then u z else m₀ z) → News h₀ env.locals h ((Dn, listOf ws.toArray k) :: post) → Q .next { s with heap := h, toks := tk }) :
    wpAny (model prog w) A (pyIter (.ref l)) (fun it s₂ => LoopAtV prog w A h₀ env x body Q E it s₂) E s := by
  have hd : l ≠ Dn := Nat.ne_of_lt (ltAll' hlt _ hl)
  refine iter_stack (stepL r) (stepL_le r) hi hh hl hd F N (fun p t acc ws k h tk own hp hla hws ho F' N' => ?_) (fun u ws k h tk hw F' N' => done u ws k h tk hw (Nat.le_trans (redL_sum r ls) hb) F' N')
  have hpl : (mkS p).length ≤ 200000 := by rw [len_mk]; have := mem_sum hp; omega
  have hno : ∀ p ∈ post ++ own, p.1 ≠ Dn := fun q hq => (List.mem_append.mp hq).elim (fun h => Nat.ne_of_lt (ltAll' hlt _ h)) (fun h => ho q h Dn (.head _))
  rcases stack_cases hws with ⟨rfl, rfl⟩ | ⟨a, b, us, u, rfl, rfl, h2⟩
  · exact turn0 p t k h tk own hpl hno F' N'
  · have hl2 : a.length = us.length := by have := h2.len_eq; rw [List.length_map] at this; exact this.symm
    rw [List.length_append] at hla
    exact turn1 p t a b us u k h tk own hpl (by omega) hl2 h2 hno F' N'
section
variable {prog : Program} {w : World} {A : Around} {E : Value → Shared → Prop} {s : Shared} {h₀ : Heap} {L : Addr} {m : Str → Option Value} {news : List (Addr × Obj)} {Q : Value → Shared → Prop}
/-- '/'.join of a list of texts of the ledger -/
theorem join_call {D : Addr} {vs : List Value} {ls : List (List Nat)} {n : Nat} {u : Tok} (hN : News h₀ L s.heap news) (hm : (D, listOf vs.toArray n) ∈ news) (hi : TxtsAre vs ls) (hw : (ls.map List.length).sum + ls.length ≤ 1000000)
    (h : ∀ t' k, (mkS (glue 47 ls)).length ≤ 1000000 → Q (.str (mkS (glue 47 ls)) t') { s with toks := k }) : wpAny (model prog w) A (call (.builtin "str.join") [.str (Str.ofString "/") u, .ref D]) Q E s := by
  have hi' : StrsAre vs.toArray.toList (ls.map mkS) := hi
  refine join_listW ⟨_, (hN _ hm).1, rfl, n, rfl⟩ hi' (by decide +kernel) ?_ (fun t' k => ?_)
  · rw [List.map_map, List.length_map]
    have e : (fun x => x.length) ∘ mkS = List.length := by funext l; rw [Function.comp, length_toL, toL_mkS]
    rw [show (Str.length ∘ mkS) = List.length from e]
    omega
  · have e : Txt.join (Str.ofString "/") (ls.map mkS) = mkS (glue 47 ls) := by
      refine str_of_toL ?_
      unfold Txt.join
      rw [slash_is, StrLaws.glued_eq_join]
      have := join_toL 47 (ls.map mkS)
      rw [List.map_map] at this
      have h3 : (toL ∘ mkS) = (fun y => y) := funext toL_mkS
      rw [h3, List.map_id'] at this
      exact this
    rw [e]
    exact h t' k (by rw [len_mk]; exact Nat.le_trans (glue_length 47 ls) hw)
end
theorem append_S {prog : Program} {w : World} {A : Around} {E : Value → Shared → Prop} {s : Shared} {h₀ : Heap} {L D : Addr} {m : Str → Option Value} {news news' : List (Addr × Obj)} {its : List Value} {n : Nat} {x : Value} {Q : Value → Shared → Prop} (F : Fr h₀ L s.heap m) (N : News h₀ L s.heap news) (U : Upd D (listOf its.toArray n) (listOf (its ++ [x]).toArray (n + 1)) news news')
    (hsz : its.length ≤ 1000000) (h : ∀ h', Fr h₀ L h' m → News h₀ L h' news' → Q .none { s with heap := h' }) : wpAny (model prog w) A (call (.builtin "list.append") [.ref D, x]) Q E s :=
  append_K F N (by rw [List.push_toArray]; exact U) h (by have : sizeLine = 2 ^ 24 := rfl; rw [List.size_toArray]; omega)
theorem pop_S {prog : Program} {w : World} {A : Around} {E : Value → Shared → Prop} {s : Shared} {h₀ : Heap} {L D : Addr} {m : Str → Option Value} {news news' : List (Addr × Obj)} {its : List Value} {n : Nat} {y : Value} {Q : Value → Shared → Prop} (F : Fr h₀ L s.heap m) (N : News h₀ L s.heap news) (U : Upd D (listOf (its ++ [y]).toArray n) (listOf its.toArray (n + 1)) news news')
    (hsz : its.length ≤ 1000000) (h : ∀ h', Fr h₀ L h' m → News h₀ L h' news' → Q y { s with heap := h' }) : wpAny (model prog w) A (call (.builtin "list.pop") [.ref D]) Q E s :=
  kl_pop F N (by rw [List.toList_toArray]; exact kpa_last y its) U (by have : sizeLine = 2 ^ 24 := rfl; rw [List.toList_toArray, List.length_append, List.length_singleton]; omega) h
theorem truthy_snoc {prog : Program} {w : World} {A : Around} {E : Value → Shared → Prop} {s : Shared} {h₀ : Heap} {L D : Addr} {news : List (Addr × Obj)} {its : List Value} {n : Nat} {y : Value} {Q : Bool → Shared → Prop} (N : News h₀ L s.heap news) (hm : (D, listOf (its ++ [y]).toArray n) ∈ news)
    (hsz : its.length ≤ 1000000) (h : ∀ tk, Q true { s with toks := tk }) : wpAny (model prog w) A (truthy (.ref D)) Q E s := by
  refine wpAny_truthy_list (l := D) (items := (its ++ [y]).toArray) ⟨_, (N _ hm).1, rfl, n, rfl⟩ (by rw [List.size_toArray, List.length_append, List.length_singleton]; omega) ?_
  have e : (!(its ++ [y]).toArray.isEmpty) = true := by simp
  rw [e]; exact h _
theorem item_last {prog : Program} {w : World} {A : Around} {E : Value → Shared → Prop} {s : Shared} {h₀ : Heap} {L D : Addr} {news : List (Addr × Obj)} {its : List Value} {n : Nat} {y : Value} {u : Tok} {Q : Value → Shared → Prop} {value slice : PySem.Expr} (N : News h₀ L s.heap news) (hm : (D, listOf (its ++ [y]).toArray n) ∈ news)
    (hsz : its.length ≤ 1000000) (h : Q y s) (hs : subscripted slice false (.ref D) (.int (-1) u) = operate [.ref D, .int (-1) u] (getItem (.ref D) (.int (-1) u)) := by with_unfolding_all rfl) :
    wpAny (model prog w) A (subscriptTail value slice (.ref D) (.int (-1) u)) Q E s := by
  have hl : s.heap.IsList D (its ++ [y]).toArray := ⟨_, (N _ hm).1, rfl, n, rfl⟩
  have hz : ((its ++ [y]).toArray.size : Int) = its.length + 1 := by rw [List.size_toArray, List.length_append, List.length_singleton]; omega
  refine tail_any hl.typeIs slot_list_getitem.lookup (wpAny_getItem_list_neg hl (by decide) (by rw [hz]; omega) (by decide) ?_ h) hs
  rw [hz, show ((-1 : Int) + (its.length + 1)).toNat = its.length by omega]
  simp
theorem nl1 {x : Str} (h : (x.length : Int) ≠ 0) (h2 : ((mkS (rootL (toL x)) ++ mkS (glue 47 (redL (decide (rootL (toL x) ≠ [])) (cut 47 (restL (toL x)))))).length : Int) ≠ 0) :
    mkS (rootL (toL x)) ++ mkS (glue 47 (redL (decide (rootL (toL x) ≠ [])) (cut 47 (restL (toL x))))) = mkS (normL (toL x)) := by
  refine str_of_toL ?_
  rw [toL_append, toL_mkS, toL_mkS]
  have h0 : toL x ≠ [] := by intro e; exact h (by rw [length_toL, e]; rfl)
  unfold normL
  rw [if_neg h0]
  unfold orDot
  rw [if_neg]
  intro e
  exact h2 (by rw [length_toL, toL_append, toL_mkS, toL_mkS, e]; rfl)
theorem nl2 {x : Str} (h : (x.length : Int) ≠ 0) (h2 : ((mkS (rootL (toL x)) ++ mkS (glue 47 (redL (decide (rootL (toL x) ≠ [])) (cut 47 (restL (toL x)))))).length : Int) = 0) :
    Str.ofString "." = mkS (normL (toL x)) := by
  have h0 : toL x ≠ [] := by intro e; exact h (by rw [length_toL, e]; rfl)
  unfold normL
  rw [if_neg h0]
  unfold orDot
  rw [if_pos, dot_is]
  have h3 := Int.ofNat_eq_zero.mp h2
  rw [length_toL, toL_append, toL_mkS, toL_mkS] at h3
  exact List.length_eq_zero_iff.mp h3
theorem nl3 {x : Str} (h : (x.length : Int) = 0) : Str.ofString "." = mkS (normL (toL x)) := by
  have h0 : toL x = [] := by rw [length_toL] at h; exact List.length_eq_zero_iff.mp (by omega)
  unfold normL
  rw [if_pos h0, orDot, if_pos rfl, dot_is]
/-- a turn's end -/
theorem invEnd_stack {h₀ h' : Heap} {L Dn : Addr} {m₀ m' : Str → Option Value} {x : Str} {own post : List (Addr × Obj)} {ws : List Value} {acc : List (List Nat)} {k : Nat} {s₁ : Shared} {tk : Nat}
    (F : Fr h₀ L h' m') (N : News h₀ L h' ((Dn, listOf ws.toArray k) :: (post ++ own))) (hw : TxtsAre ws acc) (hm : ∀ z, z ≠ x → m' z = m₀ z) :
    InvEndN h₀ L (fun m' nx => (∃ ws' k', nx = (Dn, listOf ws'.toArray k') :: post ∧ TxtsAre ws' acc) ∧ ∀ z, z ≠ x → m' z = m₀ z) own (Dn :: post.map (·.1)) s₁ { s₁ with heap := h', toks := tk } :=
  ⟨h', tk, m', _, (Dn, listOf ws.toArray k) :: post, rfl, F, N, fun p hp => (List.mem_cons.mp hp).elim (fun h => h ▸ .head _) fun h => .tail _ (List.mem_append.mpr (.inl h)), fun p hp => .tail _ (List.mem_append.mpr (.inr hp)), rfl, ⟨ws, k, rfl, hw⟩, hm⟩
section
variable {ws : List Value} {acc a : List (List Nat)} {p b : List Nat} {r : Bool} {t : Tok}
theorem len0 {p : List Nat} (h : ((mkS p).length : Int) = 0) : p = [] := by
  rw [len_mk] at h
  exact List.length_eq_zero_iff.mp (by omega)
theorem lenN {p : List Nat} (h : ((mkS p).length : Int) ≠ 0) : p ≠ [] := by
  rintro rfl
  exact h (by rw [len_mk]; rfl)
theorem isDot {p : List Nat} (h : (mkS p == Str.ofString ".") = true) : p = [46] := by
  rw [beq_str, toL_mkS, dot_is, toL_mkS] at h; exact h
theorem isDotF {p : List Nat} (h : (mkS p == Str.ofString ".") = false) : p ≠ [46] := by
  rw [beq_str_f, toL_mkS, dot_is, toL_mkS] at h; exact h
theorem isDD {p : List Nat} (h : (mkS p == Str.ofString "..") = true) : p = [46, 46] := by
  rw [beq_str, toL_mkS, dotdot_is, toL_mkS] at h; exact h
theorem isDDF {p : List Nat} (h : (mkS p == Str.ofString "..") = false) : p ≠ [46, 46] := by
  rw [beq_str_f, toL_mkS, dotdot_is, toL_mkS] at h; exact h
theorem neDD {p : List Nat} (h : (mkS p != Str.ofString "..") = true) : p ≠ [46, 46] := by
  rw [bne_str, toL_mkS, dotdot_is, toL_mkS] at h; exact h
theorem neDDF {p : List Nat} (h : (mkS p != Str.ofString "..") = false) : p = [46, 46] := by
  rw [bne_str_f, toL_mkS, dotdot_is, toL_mkS] at h; exact h
theorem stA (h : ((mkS p).length : Int) = 0) (hw : TxtsAre ws acc) : TxtsAre ws (stepL r acc p) := by
  rw [stepL, if_pos (.inl (len0 h))]; exact hw
theorem stB (h : (mkS p == Str.ofString ".") = true) (hw : TxtsAre ws acc) : TxtsAre ws (stepL r acc p) := by
  rw [stepL, if_pos (.inr (isDot h))]; exact hw
theorem stC (h1 : ((mkS p).length : Int) ≠ 0) (h2 : (mkS p == Str.ofString ".") = false) (h3 : (mkS p != Str.ofString "..") = true) (hw : TxtsAre ws acc) : TxtsAre (ws ++ [.str (mkS p) t]) (stepL r acc p) := by
  rw [stepL, if_neg (by rintro (h | h); exact lenN h1 h; exact isDotF h2 h), if_pos (.inl (neDD h3))]
  exact hw.snoc p t
theorem stD (h1 : ((mkS p).length : Int) ≠ 0) (h2 : (mkS p == Str.ofString ".") = false) (h3 : r = false) : TxtsAre ([] ++ [.str (mkS p) t]) (stepL r [] p) := by
  rw [stepL, if_neg (by rintro (h | h); exact lenN h1 h; exact isDotF h2 h), if_pos (.inr (.inl ⟨h3, rfl⟩))]
  exact TxtsAre.snoc (show TxtsAre [] [] from StrsAre.nil) p t
theorem stE (h1 : ((mkS p).length : Int) ≠ 0) (h2 : (mkS p == Str.ofString ".") = false) (h3 : (mkS b == Str.ofString "..") = true) (hw : TxtsAre ws (a ++ [b])) : TxtsAre (ws ++ [.str (mkS p) t]) (stepL r (a ++ [b]) p) := by
  rw [stepL, if_neg (by rintro (h | h); exact lenN h1 h; exact isDotF h2 h), if_pos (.inr (.inr (by rw [isDD h3]; simp)))]
  exact hw.snoc p t
theorem stF (h2 : (mkS p != Str.ofString "..") = false) (h3 : (mkS b == Str.ofString "..") = false) (hw : TxtsAre ws a) : TxtsAre ws (stepL r (a ++ [b]) p) := by
  have hp := neDDF h2
  subst hp
  have hb := isDDF h3
  rw [stepL, if_neg (by simp), if_neg (by simp [hb]), List.dropLast_concat]
  exact hw
theorem stG (h2 : (mkS p != Str.ofString "..") = false) (h3 : r = true) : TxtsAre [] (stepL r [] p) := by
  have hp := neDDF h2
  subst hp
  rw [stepL, if_neg (by simp), if_neg (by simp [h3])]
  exact StrsAre.nil
theorem rootF {l : List Nat} (h : ((mkS (rootL l)).length : Int) = 0) : decide (rootL l ≠ []) = false := by simp [len0 h]
theorem rootT {l : List Nat} (h : ((mkS (rootL l)).length : Int) ≠ 0) : decide (rootL l ≠ []) = true := by simpa using lenN h
theorem snoc2 {ws : List Value} {acc : List (List Nat)} {u : Tok} (hw : TxtsAre ws acc) : TxtsAre (ws ++ [.str (mkS b) u]) (acc ++ [b]) := hw.snoc b u
end
end Mine
end
section
open PySem PySem.Calls PySem.W PyProof.Rows
set_option Elab.async false
set_option maxRecDepth 100000
set_option maxHeartbeats 0
set_option linter.unusedVariables false
namespace Mine
theorem fillKF : (fun P => K P) = (fun P => K P) ∧ PySem.Challenge.rw_pd0025_01 = PySem.Challenge.rw_pd0025_01 := by
  k_fill
  exact ⟨rfl, rfl⟩
local macro_rules | `(tactic| k_all) => `(tactic| assumption)
theorem normpath_ok (w : World) (news : List (Addr × Obj)) (x : Str) (t : Tok) (hx : x.length ≤ 100000) : Ctx0 w news 3 fun A s h₀ L m Q E =>
    (∀ (t : Tok) (h' : Heap) (tk' : Nat), Fr h₀ L h' m → News h₀ L h' news → Q (.str (mkS (normL (toL x))) t) { s with heap := h', toks := tk' }) →
    wpAny (model rowR.prog w) A (call (.ref 136) [.str x t]) Q E s := by
  k_with_none
  (k_with "call ref" => (k_here; (with_reducible show wpAny _ _ (call (Value.ref _) [Value.str _ _]) _ _ _); (show wpAny _ _ (call (Value.ref 108) [Value.str _ _]) _ _ _); k_dflt (refine' getsep_ok _ _ _ _ ?kB ?kF ?kX ?kN ?kT ?kc ?kd ?ku ?_; (case kB => k_asm); (case kF => k_asm); (case kX => k_asm); (case kN => k_asm); (case kT => k_asm); (case kc => first | exact rfl | assumption); (case kd => first | omega | (simp only [depth_deeper]; omega) | ktr_room); (case ku => first | omega | (simp only [units_deeper]; omega) | ktr_units)); intro t9 h9 tk9 F9 N9; (try dsimp only); (try k_fold)))
  (k_with "call ref" => (k_here; (with_reducible show wpAny _ _ (call (Value.ref _) [Value.str _ _]) _ _ _); (show wpAny _ _ (call (Value.ref 94) [Value.str _ _]) _ _ _); k_dflt (refine' fspath_ok _ _ _ _ ?kB ?kF ?kX ?kN ?kT ?kc ?kd ?ku ?_; (case kB => k_asm); (case kF => k_asm); (case kX => k_asm); (case kN => k_asm); (case kT => k_asm); (case kc => first | exact rfl | assumption); (case kd => first | omega | (simp only [depth_deeper]; omega) | ktr_room); (case ku => first | omega | (simp only [units_deeper]; omega) | ktr_units)); intro h9 tk9 F9 N9; (try dsimp only); (try k_fold)))
  (k_with "call ref" => (k_here; (with_reducible show wpAny _ _ (call (Value.ref _) [Value.str _ _]) _ _ _); (show wpAny _ _ (call (Value.ref 129) [Value.str _ _]) _ _ _); k_dflt (refine' splitroot_ok _ _ _ _ ?hx ?kB ?kF ?kX ?kN ?kT ?kc ?kd ?ku ?_; (case kB => k_asm); (case kF => k_asm); (case kX => k_asm); (case kN => k_asm); (case kT => k_asm); (case kc => first | exact rfl | assumption); (case kd => first | omega | (simp only [depth_deeper]; omega) | ktr_room); (case ku => first | omega | (simp only [units_deeper]; omega) | ktr_units); (case hx => (first | assumption | omega | (simp only [length_toL] at *; omega)))); intro D9 ta9 tb9 tc9 h9 tk9 F9 N9 lt9; (try dsimp only); (try k_fold)))
  (k_with "call builtin:str.split" => (k_here; (show wpAny _ _ (call (Value.builtin "str.split") [Value.str (mkS _) _, Value.str (Str.ofString "/") _]) _ _ _); k_dflt (refine' split_mk ?F ?N ?_ ?hx; (case F => k_asm); (case N => k_asm); (case hx => (first | assumption | omega | exact Nat.le_trans (restL_le _) (by assumption)))); intro D8 vs8 h8 k8 hv8 F8 N8 lt8; (try k_lt lt8); (try dsimp only); (try k_fold)))
  (k_with "pyIter ref" => (k_here; (with_reducible show wpAny _ _ (pyIter (Value.ref _)) (fun it s₂ => LoopAtV _ _ _ _ _ _ _ _ _ it s₂) _ _); (rename Fr _ _ _ _ => lF'); (rename News _ _ _ _ => lN'); (with_unfolding_all refine' iter_stackM (by assumption) (by assumption) ?hb (by rfl) (by k_mem) ?hlt lF' lN' (fun p9 t9 k9 h9 tk9 own9 hp9 hoff9 F9 N9 => ?_) (fun p9 t9 a9 b9 us9 u9 k9 h9 tk9 own9 hp9 hl9 hl8 hw9 hoff9 F9 N9 => ?_) (fun u9 ws9 k9 h9 tk9 hw9 hs9 F9 N9 => ?_); (case hlt => assumption); (case hb => (rw [cut_sum]; exact Nat.le_trans (Nat.succ_le_succ (Nat.le_trans (restL_le _) (by assumption))) (by decide)))); (all_goals (try clear lF' lN')); (all_goals (try simp only [List.cons_append] at N9)); (all_goals (try dsimp only)); (all_goals (try k_fold))))
  (k_with "exec For Name Name cons nil" => (k_here; (rename Fr _ _ _ _ => lF'); (with_unfolding_all refine' For_invVF lF' ?k1 ?k2 ?_; (case k1 => exact rfl); (case k2 => exact rfl); k_whole)))
  (k_with "call builtin:list.append" => (k_here; (show wpAny _ _ (call (Value.builtin "list.append") [Value.ref _, _]) _ _ _); k_dflt (refine' append_S ?k1 ?k2 ?k3 ?z ?_; (case k1 => k_asm); (case k2 => k_asm); (case k3 => k_upd); (case z => (first | exact Nat.zero_le _ | (rw [List.length_append, List.length_singleton]; omega))); k_whole); intro h' F' N'; (try k_sweep)))
  (k_with "call builtin:list.pop" => (k_here; (show wpAny _ _ (call (Value.builtin "list.pop") [Value.ref _]) _ _ _); k_dflt (refine' pop_S ?k1 ?k2 ?k3 ?z ?_; (case k1 => k_asm); (case k2 => k_asm); (case k3 => k_upd); (case z => (first | exact Nat.zero_le _ | omega)); k_whole); intro h' F' N'; (try k_sweep)))
  (k_with "call builtin:str.join" => (k_here; (show wpAny _ _ (call (Value.builtin "str.join") [Value.str (Str.ofString "/") _, Value.ref _]) _ _ _); k_dflt (refine' join_call ?N ?m ?i ?w ?_; (case N => k_asm); (case m => k_mem); (case i => assumption); (case w => (refine Nat.le_trans (by assumption) ?_; decide))); intro t9 k9 hj9; (try dsimp only); (try k_fold)))
  (k_with "subscriptTail" => (k_here; (with_reducible show wpAny _ _ (subscriptTail _ _ (Value.ref _) (Value.int _ _)) _ _ _); k_dflt (refine' item_last ?N ?m ?z ?_ ?hs; (case N => k_asm); (case m => k_mem); (case z => omega); (case hs => with_unfolding_all rfl))))
  (k_with "truthy ref" => (k_here; (with_reducible show wpAny _ _ (truthy (Value.ref _)) _ _ _); k_dflt (refine' truthy_snoc ?N ?m ?z ?_; (case N => k_asm); (case m => k_mem); (case z => omega)); intro tk9; (try dsimp only); (try k_fold)))
  (k_with "InvEndN" => (refine' invEnd_stack ?F ?N ?hw ?hm; (case F => k_asm); (case N => k_asm); (case hm => (intro z hz; exact if_neg hz)); (case hw => (first
  | exact stA (by assumption) (by first | exact StrsAre.nil | exact snoc2 (by assumption))
  | exact stB (by assumption) (by first | exact StrsAre.nil | exact snoc2 (by assumption))
  | exact stC (by assumption) (by assumption) (by assumption) (by first | exact StrsAre.nil | exact snoc2 (by assumption))
  | exact stD (by assumption) (by assumption) (rootF (by assumption))
  | exact stE (by assumption) (by assumption) (by assumption) (snoc2 (by assumption))
  | exact stF (by assumption) (by assumption) (by assumption)
  | exact stG (by assumption) (rootT (by assumption))))))
  w_on
  intro dp un gd cn cs a ccd cl outer A₀ base h₀ L m mg mb mean s Q E B F X N T hcs hdp hun hret
  refine wpAny_call ?_
  k_dflt cell_enter
  have hmk : Mk (decide (rootL (toL x) ≠ [])) := True.intro
  have hx2 : (toL x).length ≤ 100000 := by rw [← length_toL]; exact hx
  have hx3 : (mkS (rootL (toL x))).length ≤ 100000 := by rw [len_mk]; exact Nat.le_trans (rootL_le _) hx2
  k_steps
  all_goals (first | ((rw [nl1 (by assumption) (by assumption)]); exact hret _ _ _ (by k_asm) (by first | k_asm | (refine' cb_drop ?cbN ?cbS; (case cbN => assumption); (case cbS => kcj_all)))) | ((rw [nl2 (x := x) (by assumption) (by assumption)]); exact hret _ _ _ (by k_asm) (by first | k_asm | (refine' cb_drop ?cbN ?cbS; (case cbN => assumption); (case cbS => kcj_all)))) | ((rw [nl3 (x := x) (by assumption)]); exact hret _ _ _ (by k_asm) (by first | k_asm | (refine' cb_drop ?cbN ?cbS; (case cbN => assumption); (case cbS => kcj_all)))))
end Mine
end
section
open PySem PySem.Calls PySem.W PyProof.Rows PySem.Spec
set_option Elab.async false
set_option maxRecDepth 100000
set_option maxHeartbeats 1000000
set_option linter.unusedVariables false
namespace Mine
noncomputable abbrev tupOf (vs : List Value) : Obj := { cls := .type "tuple", data := .seq vs.toArray }
section
variable {prog : Program} {w : World} {A : Around} {E : Value → Shared → Prop} {s : Shared} {env : Env} {h₀ : Heap} {x : Str} {body : List Stmt} {Q : Flow → Shared → Prop}
/-- a loop over a tuple of the ledger, of any values -/
theorem iter_anyT {l : Addr} {vs : List Value} {m₀ : Str → Option Value} {news : List (Addr × Obj)} (J : Nat → (Str → Option Value) → List (Addr × Obj) → Prop)
    (hh : A.handled = none) (hl : (l, tupOf vs) ∈ news) (F : Fr h₀ env.locals s.heap m₀) (N : News h₀ env.locals s.heap news) (hj : J 0 m₀ news)
    (turn : ∀ i v m₁ news₁ h tk own, vs[i]? = some v → news₁.map (·.1) = news.map (·.1) → OwnOff own (news.map (·.1)) → (l, tupOf vs) ∈ news₁ → J i m₁ news₁ → Fr h₀ env.locals h (fun y => if y = x then some v else m₁ y) → News h₀ env.locals h (news₁ ++ own) →
      wpAny (model prog w) A (execs body env) (InvPostN h₀ env.locals (fun m' nx => (l, tupOf vs) ∈ nx ∧ J (i + 1) m' nx) own (news.map (·.1)) { s with heap := h, toks := tk } Q) E { s with heap := h, toks := tk })
    (done : ∀ m₁ news₁ h tk, (l, tupOf vs) ∈ news₁ → J vs.length m₁ news₁ → Fr h₀ env.locals h m₁ → News h₀ env.locals h news₁ → Q .next { s with heap := h, toks := tk }) :
    wpAny (model prog w) A (pyIter (.ref l)) (fun it s₂ => LoopAtV prog w A h₀ env x body Q E it s₂) E s := by
  have hol : s.heap.get? l = some (tupOf vs) := (N _ hl).1
  have hls : s.heap.IsTuple l vs.toArray := ⟨_, hol, rfl, 0, rfl⟩
  have hne : l ≠ s.heap.objs.size := Nat.ne_of_lt (Heap.lt_size hol)
  refine wpAny_pyIter_tuple hls ?_
  have W := Walks.tuple (prog := prog) (w := w) hh s.heap.objs.size l hne vs.toArray
  have hlen : vs.toArray.size = vs.length := by simp
  rw [hlen] at W
  refine ⟨_, _, _, vs.length, _, _, m₀, news, (fun i m nx => nx.map (·.1) = news.map (·.1) ∧ (l, tupOf vs) ∈ nx ∧ J i m nx), rfl, W, ?_, ?_, ?_, ⟨⟨_, Heap.get?_push_size _ rfl, rfl, rfl⟩, hls.at fun o e => Heap.get?_push_of_some _ e⟩, F.push _, (fun p hp => ⟨Heap.get?_push_of_some _ (N p hp).1, (N p hp).2⟩), ⟨rfl, hl, hj⟩, ?_, ?_⟩
  · intro hm
    rcases List.mem_cons.mp hm with e | hm
    · exact absurd F.ns.lt (e ▸ Nat.lt_irrefl _)
    · exact (N _ hl).2.1 ((List.mem_singleton.mp hm).symm)
  · intro b hb
    rw [List.mem_singleton.mp hb]
    exact next_is_new F
  · intro p hp hI
    exact absurd (Heap.lt_size (N p hp).1) ((List.mem_singleton.mp hI) ▸ Nat.lt_irrefl _)
  · rintro i v m₁ news₁ s₁ own ⟨hh', tk', rfl⟩ hin hP ⟨hadr, hl₁, hJ⟩ hoff hown hget hfp _ F₁ N₁
    have hsep : OwnOff (own.filter fun p => decide (p.1 = s.heap.objs.size)) (news.map (·.1)) := by
      intro p hp b hb e
      obtain ⟨q, hq, rfl⟩ := List.mem_map.mp hb
      have h1 : p.1 = s.heap.objs.size := by simpa using (List.mem_filter.mp hp).2
      exact absurd (Heap.lt_size (N q hq).1) (by rw [← e, h1]; exact Nat.lt_irrefl _)
    have hP' : vs[i]? = some v := by simpa using hP
    have N₂ : News h₀ env.locals hh' (news₁ ++ own.filter fun p => decide (p.1 = s.heap.objs.size)) := fun p hp => N₁ p ((List.mem_append.mp hp).elim (fun h => List.mem_append.mpr (.inr h)) fun h => List.mem_append.mpr (.inl ((List.mem_filter.mp h).1)))
    have hlo : hh'.get? l = some (tupOf vs) := (N₁ _ (List.mem_append.mpr (.inr hl₁))).1
    refine wpAny_mono (turn i v m₁ news₁ hh' tk' _ hP' hadr hsep hl₁ hJ F₁ N₂) (fun f s₂ p => ?_) fun _ _ e => e
    have fin : InvEndN h₀ env.locals (fun m' nx => (l, tupOf vs) ∈ nx ∧ J (i + 1) m' nx) (own.filter fun p => decide (p.1 = s.heap.objs.size)) (news.map (·.1)) { s with heap := hh', toks := tk' } s₂ →
        LoopStepU h₀ env.locals [s.heap.objs.size] own (fun m nx => nx.map (·.1) = news.map (·.1) ∧ (l, tupOf vs) ∈ nx ∧ J (i + 1) m nx) { s with heap := hh', toks := tk' } .next s₂ := by
      rintro ⟨h', tk, m', news', nx, e, F', N', hn, ho, ha, hm⟩
      refine ⟨rfl, h', tk, m', nx, e, F', fun p hp => ?_, fun p hp => ?_, ha, hm⟩
      · rcases List.mem_append.mp hp with h | h
        · by_cases hI : p.1 = s.heap.objs.size
          · exact N' p (ho p (List.mem_filter.mpr ⟨h, by simpa using hI⟩))
          · have h1 : p.1 = l := by
              rcases List.mem_cons.mp (hown p h) with h2 | h2
              · exact absurd h2 hI
              · exact List.mem_singleton.mp h2
            have h2 : hh'.get? p.1 = some p.2 := hget p h
            rw [h1, hlo] at h2
            have h3 : p = (l, tupOf vs) := Prod.ext h1 (Option.some.inj h2).symm
            rw [h3]
            exact N' _ (hn _ hm.1)
        · exact N' p (hn p h)
      · have h1 : p.1 ∈ nx.map (·.1) := List.mem_map.mpr ⟨p, hp, rfl⟩
        rw [ha] at h1
        obtain ⟨q, hq, e⟩ := List.mem_map.mp h1
        intro hI
        exact absurd (Heap.lt_size (N q hq).1) (by rw [e, List.mem_singleton.mp hI]; exact Nat.lt_irrefl _)
    cases f with
    | ret v => exact .ret p
    | brk => exact .brk p
    | next => exact .next (fin p)
    | cont => exact .cont (fin p)
  · rintro h' tk m' news' F' N' _ ⟨_, hl', hJ⟩
    exact done m' news' h' tk hl' hJ F' N'
/-- a turn of join -/
noncomputable def joinL (a b : List Nat) : List Nat := if b.take 1 = [47] ∨ a = [] then b else if a.getLast? = some 47 then a ++ b else a ++ 47 :: b
theorem joinL_le (a b : List Nat) : (joinL a b).length ≤ a.length + b.length + 1 := by
  unfold joinL
  split
  · omega
  · split <;> (simp only [List.length_append, List.length_cons]; omega)
/-- a loop over the texts of a tuple that turns one text -/
theorem iter_text {l : Addr} {vs : List Value} {ls : List (List Nat)} {m₀ : Str → Option Value} {news : List (Addr × Obj)} {y : Str} {a₀ : List Nat} {t₀ : Tok} (g : List Nat → List Nat → List Nat) (hg : ∀ a p, (g a p).length ≤ a.length + p.length + 1) (hy : m₀ y = some (.str (mkS a₀) t₀)) (hyx : y ≠ x)
    (hi : TxtsAre vs ls) (hb : a₀.length + (ls.map List.length).sum + ls.length ≤ 200000) (hh : A.handled = none) (hl : (l, tupOf vs) ∈ news) (F : Fr h₀ env.locals s.heap m₀) (N : News h₀ env.locals s.heap news)
    (turn : ∀ p t a ta h tk own, (mkS a).length + (mkS p).length + 1 ≤ 200000 → (mkS a).length ≤ 200000 → (mkS p).length ≤ 200000 → Fr h₀ env.locals h (fun z => if z = x then some (.str (mkS p) t) else if z = y then some (.str (mkS a) ta) else m₀ z) → News h₀ env.locals h (news ++ own) →
      wpAny (model prog w) A (execs body env) (InvPostN h₀ env.locals (fun m' nx => nx = news ∧ (∃ t', m' y = some (.str (mkS (g a p)) t')) ∧ ∀ z, z ≠ x → z ≠ y → m' z = m₀ z) own (news.map (·.1)) { s with heap := h, toks := tk } Q) E { s with heap := h, toks := tk })
    (done : ∀ (u : Str → Option Value) t h tk, (mkS (ls.foldl g a₀)).length ≤ 200000 → Fr h₀ env.locals h (fun z => if z = x then u z else if z = y then some (.str (mkS (ls.foldl g a₀)) t) else m₀ z) → News h₀ env.locals h news → Q .next { s with heap := h, toks := tk }) :
    wpAny (model prog w) A (pyIter (.ref l)) (fun it s₂ => LoopAtV prog w A h₀ env x body Q E it s₂) E s := by
  have hfold : ∀ (k : List (List Nat)) (a : List Nat), (k.foldl g a).length ≤ a.length + (k.map List.length).sum + k.length := by
    intro k
    induction k with
    | nil => intro a; simp
    | cons p r ih => intro a; rw [List.foldl_cons]; have h1 := ih (g a p); have h2 := hg a p; rw [List.length_cons, List.map_cons, List.sum_cons]; omega
  refine iter_anyT (fun i m nx => nx = news ∧ (∃ t, m y = some (.str (mkS ((ls.take i).foldl g a₀)) t)) ∧ ∀ z, z ≠ x → z ≠ y → m z = m₀ z) hh hl F N ⟨rfl, ⟨t₀, by simpa using hy⟩, fun _ _ _ => rfl⟩ ?_ ?_
  · rintro i v m₁ news₁ h tk own hv _ _ hl₁ ⟨rfl, ⟨ta, ha⟩, hm⟩ F₁ N₁
    obtain ⟨p, t, hp, rfl⟩ := hi.item hv
    have e : (fun z => if z = x then some (Value.str (mkS p) t) else m₁ z) = fun z => if z = x then some (Value.str (mkS p) t) else if z = y then some (Value.str (mkS ((ls.take i).foldl g a₀)) ta) else m₀ z := by
      funext z
      by_cases h1 : z = x
      · simp [h1]
      · simp only [if_neg h1]
        by_cases h2 : z = y
        · subst h2; simp [ha]
        · simp only [if_neg h2]; exact hm z h1 h2
    rw [e] at F₁
    have hs : (ls.take (i + 1)).foldl g a₀ = g ((ls.take i).foldl g a₀) p := by
      rw [List.take_add_one, hp]; simp
    have hlen : ((ls.take i).foldl g a₀).length + p.length + 1 ≤ 200000 := by
      have h1 := hfold (ls.take i) a₀
      have hi' : i < ls.length := (List.getElem?_eq_some_iff.mp hp).1
      have h2 : ls = ls.take i ++ p :: ls.drop (i + 1) := by
        have hpe : ls[i] = p := (List.getElem?_eq_some_iff.mp hp).2
        rw [← hpe, ← List.drop_eq_getElem_cons hi', List.take_append_drop]
      have h3 := congrArg (fun q => (q.map List.length).sum) h2
      have h4 := congrArg List.length h2
      simp only [List.map_append, List.map_cons, List.sum_append, List.sum_cons, List.length_append, List.length_cons] at h3 h4
      omega
    rw [hs]
    refine wpAny_mono (turn p t _ ta h tk own (by rw [len_mk, len_mk]; exact hlen) (by rw [len_mk]; omega) (by rw [len_mk]; omega) F₁ N₁) (fun f s₂ q => ?_) fun _ _ e => e
    have conv : InvEndN h₀ env.locals (fun m' nx => nx = news₁ ∧ (∃ t', m' y = some (.str (mkS (g ((ls.take i).foldl g a₀) p)) t')) ∧ ∀ z, z ≠ x → z ≠ y → m' z = m₀ z) own (news₁.map (·.1)) { s with heap := h, toks := tk } s₂ →
        InvEndN h₀ env.locals (fun m' nx => (l, tupOf vs) ∈ nx ∧ nx = news₁ ∧ (∃ t', m' y = some (.str (mkS (g ((ls.take i).foldl g a₀) p)) t')) ∧ ∀ z, z ≠ x → z ≠ y → m' z = m₀ z) own (news₁.map (·.1)) { s with heap := h, toks := tk } s₂ := by
      rintro ⟨h', tk', m', news', nx, e, F', N', hn, ho, ha, rfl, hw⟩
      exact ⟨h', tk', m', news', _, e, F', N', hn, ho, ha, hl₁, rfl, hw⟩
    cases f with
    | ret v => exact q
    | brk => exact q
    | next => exact conv q
    | cont => exact conv q
  · rintro m₁ news₁ h tk _ ⟨rfl, ⟨t, ha⟩, hm⟩ F₁ N₁
    have hvl : vs.length = ls.length := by have := hi.len_eq; rw [List.length_map] at this; exact this
    rw [hvl, List.take_length] at ha
    refine done m₁ t h tk ?_ ?_ N₁
    · rw [len_mk]; have := hfold ls a₀; omega
    have e : (fun z => if z = x then m₁ z else if z = y then some (Value.str (mkS (ls.foldl g a₀)) t) else m₀ z) = m₁ := by
      funext z
      by_cases h1 : z = x
      · simp [h1]
      · simp only [if_neg h1]
        by_cases h2 : z = y
        · subst h2; simp [ha]
        · simp only [if_neg h2]; exact (hm z h1 h2).symm
    rw [e]; exact F₁
theorem invEnd_text {h' : Heap} {L : Addr} {m₀ m' : Str → Option Value} {y : Str} {a : List Nat} {t : Tok} {own news : List (Addr × Obj)} {s₁ : Shared} {tk : Nat}
    (F : Fr h₀ L h' m') (N : News h₀ L h' (news ++ own)) (hy : m' y = some (.str (mkS a) t)) (hm : ∀ z, z ≠ x → z ≠ y → m' z = m₀ z) :
    InvEndN h₀ L (fun m' nx => nx = news ∧ (∃ t', m' y = some (.str (mkS a) t')) ∧ ∀ z, z ≠ x → z ≠ y → m' z = m₀ z) own (news.map (·.1)) s₁ { s₁ with heap := h', toks := tk } :=
  ⟨h', tk, m', _, news, rfl, F, N, fun p hp => List.mem_append.mpr (.inl hp), fun p hp => List.mem_append.mpr (.inr hp), rfl, rfl, ⟨t, hy⟩, hm⟩
end
theorem newTuple_small (vs : List Value) (h : vs.length ≤ 100000) (S : Setting) (K : Frag) (k : Value → Sem (List (Str × Value))) : peek1 K S (newTuple vs >>= k) = some (tupOf vs, fun D => peek K S (k (.ref D))) := by
  have hn : ¬ vs.toArray.size > sizeLine := by
    have : sizeLine = 2 ^ 24 := rfl
    rw [List.size_toArray]; omega
  unfold newTuple newObj
  dsimp only
  rw [if_neg hn]
  rfl
theorem bind_rest1 {K : Frag} {S : Setting} {fd : FuncData} {a1 p1 : Arg} {v : Value} {vs : List Value} (hp : fd.params = { posonlyargs := [], args := [a1], vararg := some p1, kwonlyargs := [], kw_defaults := [], kwarg := none, defaults := [] }) (hd : fd.defaults = .none) (hz : vs.length ≤ 100000) :
    peek1 K S (bindArgs fd ⟨v :: vs, []⟩) = some (tupOf vs, fun D => some [(a1.arg, v), (p1.arg, .ref D)]) := by
  unfold bindArgs
  rw [hp, hd]
  simp [seqItems?]
  show peek1 K S (newTuple vs >>= fun a => pure [(a1.arg, v), (p1.arg, a)]) = _
  rw [newTuple_small vs hz]
  rfl
section
theorem starts_iff (p : List Nat) : Txt.startswith (mkS p) (Str.ofString "/") = decide (p.take 1 = [47]) := by
  rw [slash_is]
  unfold Txt.startswith
  rw [StrLaws.subAt_eq]
  show (decide (0 + 1 ≤ (mkS p).length) && ((toL (mkS p)).drop 0).take 1 == [47]) = _
  rw [len_mk, toL_mkS, List.drop_zero]
  cases p with
  | nil => rfl
  | cons a r => simp; rfl
theorem ends_iff (p : List Nat) : Txt.endswith (mkS p) (Str.ofString "/") = decide (p.getLast? = some 47) := by
  rw [slash_is]
  unfold Txt.endswith
  rw [StrLaws.subAt_eq]
  show (decide (0 + 1 ≤ (mkS p).length) && ((toL (mkS p)).drop ((mkS p).length - 1)).take 1 == [47]) = _
  rw [len_mk, toL_mkS]
  rcases List.eq_nil_or_concat p with rfl | ⟨a, b, rfl⟩
  · rfl
  · simp; rfl
variable {a p : List Nat}
theorem jn1 (h : Txt.startswith (mkS p) (Str.ofString "/") = true) : joinL a p = p := by
  rw [starts_iff, decide_eq_true_eq] at h
  rw [joinL, if_pos (.inl h)]
theorem jn2 (h : ((mkS a).length : Int) = 0) : joinL a p = p := by
  rw [joinL, if_pos (.inr (len0 h))]
theorem jn3 (h1 : Txt.startswith (mkS p) (Str.ofString "/") = false) (h2 : ((mkS a).length : Int) ≠ 0) (h3 : Txt.endswith (mkS a) (Str.ofString "/") = true) : mkS a ++ mkS p = mkS (joinL a p) := by
  rw [starts_iff, decide_eq_false_iff_not] at h1
  rw [ends_iff, decide_eq_true_eq] at h3
  rw [joinL, if_neg (by rintro (h | h); exact h1 h; exact lenN h2 h), if_pos h3]
  exact str_of_toL (by rw [toL_append, toL_mkS, toL_mkS])
theorem jn4 (h1 : Txt.startswith (mkS p) (Str.ofString "/") = false) (h2 : ((mkS a).length : Int) ≠ 0) (h3 : Txt.endswith (mkS a) (Str.ofString "/") = false) : mkS a ++ (Str.ofString "/" ++ mkS p) = mkS (joinL a p) := by
  rw [starts_iff, decide_eq_false_iff_not] at h1
  rw [ends_iff, decide_eq_false_iff_not] at h3
  rw [joinL, if_neg (by rintro (h | h); exact h1 h; exact lenN h2 h), if_neg h3]
  exact str_of_toL (by rw [toL_append, toL_append, toL_mkS, toL_mkS, slash_is, toL_mkS]; rfl)
end
end Mine
end
section
open PySem PySem.Calls PySem.W PyProof.Rows
set_option Elab.async false
set_option maxRecDepth 100000
set_option maxHeartbeats 0
set_option linter.unusedVariables false
namespace Mine
theorem fillKI : (fun P => K P) = (fun P => K P) ∧ PySem.Challenge.rw_pd0025_01 = PySem.Challenge.rw_pd0025_01 := by
  k_fill
  exact ⟨rfl, rfl⟩
theorem join_ok (w : World) (news : List (Addr × Obj)) (a : List Nat) (ta : Tok) (vs : List Value) (ls : List (List Nat)) (hi : TxtsAre vs ls) (hb : a.length + (ls.map List.length).sum + ls.length ≤ 100000) : Ctx0 w news 2 fun A s h₀ L m Q E =>
    (∀ (t : Tok) (h' : Heap) (tk' : Nat), Fr h₀ L h' m → News h₀ L h' news → Q (.str (mkS (ls.foldl joinL a)) t) { s with heap := h', toks := tk' }) →
    wpAny (model rowR.prog w) A (call (.ref 115) (.str (mkS a) ta :: vs)) Q E s := by
  k_with_none
  (k_with "call ref" => (k_here; (with_reducible show wpAny _ _ (call (Value.ref _) [Value.str _ _]) _ _ _); (show wpAny _ _ (call (Value.ref 108) [Value.str _ _]) _ _ _); k_dflt (refine' getsep_ok _ _ _ _ ?kB ?kF ?kX ?kN ?kT ?kc ?kd ?ku ?_; (case kB => k_asm); (case kF => k_asm); (case kX => k_asm); (case kN => k_asm); (case kT => k_asm); (case kc => first | exact rfl | assumption); (case kd => first | omega | (simp only [depth_deeper]; omega) | ktr_room); (case ku => first | omega | (simp only [units_deeper]; omega) | ktr_units)); intro t9 h9 tk9 F9 N9; (try dsimp only); (try k_fold)))
  (k_with "call ref" => (k_here; (with_reducible show wpAny _ _ (call (Value.ref _) [Value.str _ _]) _ _ _); (show wpAny _ _ (call (Value.ref 94) [Value.str _ _]) _ _ _); k_dflt (refine' fspath_ok _ _ _ _ ?kB ?kF ?kX ?kN ?kT ?kc ?kd ?ku ?_; (case kB => k_asm); (case kF => k_asm); (case kX => k_asm); (case kN => k_asm); (case kT => k_asm); (case kc => first | exact rfl | assumption); (case kd => first | omega | (simp only [depth_deeper]; omega) | ktr_room); (case ku => first | omega | (simp only [units_deeper]; omega) | ktr_units)); intro h9 tk9 F9 N9; (try dsimp only); (try k_fold)))
  (k_with "exec For Name Name cons nil" => (k_here; (rename Fr _ _ _ _ => lF'); (with_unfolding_all refine' For_invVF lF' ?k1 ?k2 ?_; (case k1 => exact rfl); (case k2 => exact rfl); k_whole)))
  (k_with "pyIter ref" => (k_here; (with_reducible show wpAny _ _ (pyIter (Value.ref _)) (fun it s₂ => LoopAtV _ _ _ _ _ _ _ _ _ it s₂) _ _); (rename Fr _ _ _ _ => lF'); (rename News _ _ _ _ => lN'); (with_unfolding_all refine' iter_text (y := Str.ofString "path") joinL joinL_le ?hy ?hyx (by assumption) (Nat.le_trans (by assumption) (by decide)) (by rfl) (by k_mem) lF' lN' (fun p9 t9 a9 ta9 h9 tk9 own9 hp9 hq9 hr9 F9 N9 => ?_) (fun u9 t9 h9 tk9 hp9 F9 N9 => ?_)); (case hy => exact rfl); (case hyx => decide); (all_goals (try clear lF' lN')); (all_goals (try simp only [List.cons_append] at N9)); (all_goals (try dsimp only)); (all_goals (try k_fold))))
  (k_with "InvEndN" => (refine' invEnd_text ?F ?N ?hy ?hm; (case F => k_asm); (case N => k_asm); (case hm => (intro z hz1 hz2; first | rfl | (simp only [if_neg hz1, if_neg hz2]; done) | (simp [hz1, hz2]; done))); (case hy => (first
  | (rw [jn1 (by assumption)]; exact rfl)
  | (rw [jn2 (by assumption)]; exact rfl)
  | (rw [← jn3 (by assumption) (by assumption) (by assumption)]; exact rfl)
  | (rw [← jn4 (by assumption) (by assumption) (by assumption)]; exact rfl)))))
  w_on
  intro dp un gd cn cs a ccd cl outer A₀ base h₀ L m mg mb mean s Q E B F X N T hcs hdp hun hret
  have hvl : vs.length ≤ 100000 := by have := hi.len_eq; rw [List.length_map] at this; omega
  refine wpAny_call ?_
  k_dflt (refine' kp_rest ?k1 ?k2 ?k3 ?k4 ?k5 ?kA ?kF ?kK ?k6 ?k7 ?k8 ?kV ?kP ?kG ?kB ?_ ?c2 ?c3 ?c4 ?c5; (case kA => exact rfl); (case kF => exact rfl); (case kK => assumption); (case k1 => k_asm); (case k2 => k_asm); (case k3 => k_asm); (case k4 => k_asm); (case k5 => k_asm); (case k6 => k_is); (case k7 => k_is); (case k8 => ktr_room); (case kV => exact rfl); (case kP => exact bind_rest1 rfl rfl hvl); (case kG => exact fun _ => rfl); (case kB => exact fun _ => locs rfl); (case c5 => decide); (case c2 => exact rfl); (case c3 => exact rfl); (case c4 => exact rfl); k_whole; intro D' g' L' h' l1 FG' F' N' B' X' T'; (try k_lt l1); (try dsimp only); (try k_lift B'); (try k_fold))
  k_steps
  all_goals (first | (exact hret _ _ _ (by k_asm) (by first | k_asm | (refine' cb_drop ?cbN ?cbS; (case cbN => assumption); (case cbS => kcj_all)))))
end Mine
end
section
open PySem PySem.Calls PySem.W PyProof.Rows PySem.Spec
open PyProof.Rows.LCg PyProof.Rows.LCt
set_option Elab.async false
set_option maxRecDepth 100000
set_option maxHeartbeats 1000000
set_option linter.unusedVariables false
namespace Mine
section
variable {prog : Program} {w : World} {A : Around} {E : Value → Shared → Prop} {s : Shared} {h₀ : Heap} {L : Addr} {m : Str → Option Value} {env : Env}
/-- a comprehension's text -/
noncomputable def SrcS (prog : Program) (w : World) (A : Around) (h₀ : Heap) (L : Addr) (m : Str → Option Value) (env : Env) (ct elt : PySem.Expr) (x : Str) (scope : Scope) (cl : List (Str × Addr)) (Fin : Shared → List Value → List (Addr × Obj) → Prop) (xv : Value) (s₁ : Shared) : Prop :=
  ∃ T t news, xv = .str T t ∧ A.handled = none ∧ Fr h₀ L s₁.heap m ∧ News h₀ L s₁.heap news ∧ T.cps.size ≤ sizeLine ∧
    ∀ s₂ : Shared, (∃ h, s₂ = { s₁ with heap := h }) → CompRestT prog w A h₀ L m env ct elt x scope cl s₂ (fun _ => True) (SignAt T) (Fin s₂) T.cps.size 0 [] news
theorem str_st {ty : String} {T : Str} {t : Tok} {I : Addr} : ∀ i (h h' : Heap) (o : Obj) (nw : List (Addr × Obj)), h.IsStrIter I ty T t i → h.get? I = some o → h'.get? I = some o → (∀ b o, h₀.get? b = some o → h'.get? b = some o) → News h₀ L h' nw → True → h'.IsStrIter I ty T t i :=
  fun i h h' o nw st e e' _ _ _ => by obtain ⟨o', q, r⟩ := st; rw [e] at q; cases q; exact ⟨o, e', r⟩
theorem comp_str {ct elt iter : PySem.Expr} {x : Str} {px : Pos} {scope : Scope} {cl : List (Str × Addr)} {pos : Pos} {Q : Value → Shared → Prop} (F₀ : Fr h₀ L s.heap m)
    (hclos : closureFor scope env = pure cl) (hcell : ∀ y ∈ scope.names, y.2 ≠ .cell) (hkind : scope.kind = .function)
    (hnames : ∀ y ∈ scope.names, y.2 = .local → scope.names.lookup y.1 = some .local) (hx : scope.names.lookup x = some .local)
    (h : wpAny (model prog w) A (eval iter env) (SrcS prog w A h₀ L m env ct elt x scope cl (fun s₂ => FinE h₀ L m s₂ Q)) E s)
    (hs : ∀ x, foldedSetIterable iter env x = pure x := by intro _; rfl) :
    wpAny (model prog w) A (eval (.ListComp elt [⟨.Name x px, iter, [ct], 0⟩] scope pos) env) Q E s := by
  rw [eval_ListComp]
  refine wpAny_comprehension_free (use := none) rfl hs hclos hkind hnames (wpAny_mono h (fun xv s₁ h₁ => ?_) fun _ _ e => e)
  obtain ⟨T, t, news, rfl, hh, F, N, hsz, R⟩ := h₁
  have up : ∀ (o : Obj) b o', s₁.heap.get? b = some o' → (s₁.heap.push o).get? b = some o' := fun o b o' e => Heap.get?_push_of_some _ e
  have hfp : ∀ o : Obj, ∀ b ∈ [s₁.heap.objs.size], b < (s₁.heap.push o).objs.size := fun o b hb => by
    rw [List.mem_singleton.mp hb, Heap.size_push]; exact Nat.lt_succ_self _
  cases ha : T.cps.all (· < 128)
  · refine wpAny_pyIter_wide ha ?_
    refine block_T (Walks.strWide hh s₁.heap.objs.size T t) hsz (fun i h st => by obtain ⟨o, e, _⟩ := st; exact ⟨o, e⟩) str_st hcell hkind hx ⟨_, Heap.get?_push_size _ rfl, rfl, rfl⟩ (hfp _)
      (F.keeps (up _)) (N.grown (up _)) (Nat.ne_of_lt F.ns.lt) (next_is_new F) (fun p hp => Nat.ne_of_lt (Heap.lt_size (N p hp).1)) trivial (R _ ⟨_, rfl⟩) ?_
    intro D C h tk m' ys news' F' N' o1 hn hC₀ hD₀ hCL hDL hCD offC fin
    refine ⟨m', hn, fun h'' hs'' => fin D h'' tk (F'.change hs'' hCL hC₀) (fun p hp => ?_) o1⟩
    refine ⟨hs''.extBut _ _ ?_ (N' p hp).1, (N' p hp).2⟩
    rcases List.mem_cons.mp hp with rfl | hp
    · exact Ne.symm hCD
    · exact offC p hp
  · refine wpAny_pyIter_ascii ha ?_
    refine block_T (Walks.strAscii hh s₁.heap.objs.size T t) hsz (fun i h st => by obtain ⟨o, e, _⟩ := st; exact ⟨o, e⟩) str_st hcell hkind hx ⟨_, Heap.get?_push_size _ rfl, rfl, rfl⟩ (hfp _)
      (F.keeps (up _)) (N.grown (up _)) (Nat.ne_of_lt F.ns.lt) (next_is_new F) (fun p hp => Nat.ne_of_lt (Heap.lt_size (N p hp).1)) trivial (R _ ⟨_, rfl⟩) ?_
    intro D C h tk m' ys news' F' N' o1 hn hC₀ hD₀ hCL hDL hCD offC fin
    refine ⟨m', hn, fun h'' hs'' => fin D h'' tk (F'.change hs'' hCL hC₀) (fun p hp => ?_) o1⟩
    refine ⟨hs''.extBut _ _ ?_ (N' p hp).1, (N' p hp).2⟩
    rcases List.mem_cons.mp hp with rfl | hp
    · exact Ne.symm hCD
    · exact offC p hp
theorem strs_snoc {y : Str} {t : Tok} {vs : List Value} {ys : List Str} (h : StrsAre vs ys) : StrsAre (vs ++ [.str y t]) (ys ++ [y]) := StrsAre.append' h (.cons _ _ .nil)
theorem srcS_mk {ct elt : PySem.Expr} {x : Str} {scope : Scope} {cl : List (Str × Addr)} {Q : Value → Shared → Prop} {l : List Nat} {t : Tok} {news : List (Addr × Obj)} (keep : Nat → Bool) (g : Nat → Str)
    (hh : A.handled = none) (F : Fr h₀ L s.heap m) (N : News h₀ L s.heap news) (hsz : l.length ≤ 1000000)
    (turn : ∀ c u I oI C oC D m₂ ys h tk (E' : Value → Shared → Prop), NsObj oC m₂ → m₂ x = some (.str ⟨#[c]⟩ u) → Fr h₀ L h m → News h₀ L h ((I, oI) :: (C, oC) :: (D, lst ys) :: news) → Off3 I C D news → ((@Ne Nat I C) ∧ (@Ne Nat I D) ∧ (@Ne Nat C D)) →
      wpAny (model prog w) A (isTrue ct (compEnvC scope cl C env) (eval ct (compEnvC scope cl C env))) (fun ok s' => if ok = true then
        wpAny (model prog w) A (eval elt (compEnvC scope cl C env)) (CompEnd h₀ L m { s with heap := h, toks := tk } I oI C oC D (lst ys) (fun _ => True) (fun y news' => news' = news ∧ keep c = true ∧ ∃ t, y = .str (g c) t)) E' s'
        else CompEnd h₀ L m { s with heap := h, toks := tk } I oI C oC D (lst ys) (fun _ => True) (fun _ news' => news' = news ∧ keep c = false) Value.none s') E' { s with heap := h, toks := tk })
    (fin : ∀ ys D h tk, StrsAre ys ((l.filter keep).map g) → Fr h₀ L h m → News h₀ L h ((D, lst ys) :: news) → Off1 D news → Q (.ref D) { s with heap := h, toks := tk }) :
    SrcS prog w A h₀ L m env ct elt x scope cl (fun s₂ => FinE h₀ L m s₂ Q) (.str (mkS l) t) s := by
  have hl : (mkS l).cps.size = l.length := by simp
  refine ⟨mkS l, t, news, rfl, hh, F, N, by rw [hl]; have : sizeLine = 2 ^ 24 := rfl; omega, ?_⟩
  rintro s₂ ⟨hp, rfl⟩
  rw [hl]
  have key : ∀ (j i : Nat) (ys : List Value), i + j = l.length → StrsAre ys (((l.take i).filter keep).map g) →
      CompRestT prog w A h₀ L m env ct elt x scope cl { s with heap := hp } (fun _ => True) (SignAt (mkS l)) (FinE h₀ L m { s with heap := hp } Q) j i ys news := by
    intro j
    induction j with
    | zero =>
      intro i ys hi hy
      have e : i = l.length := by omega
      subst e
      rw [List.take_length] at hy
      exact CompRestT.zero fun D h tk F' N' o => fin ys D h tk hy F' N' o
    | succ j ih =>
      intro i ys hi hy
      refine CompRestT.succ ?_
      intro v I oI C oC D m₂ h tk E' hv hC hx F' N' off ne
      obtain ⟨c, u, hc, rfl⟩ := hv
      have hc' : l[i]? = some c := by simpa using hc
      have ht : l.take (i + 1) = l.take i ++ [c] := by rw [List.take_add_one, hc']; rfl
      refine wpAny_mono (turn c u I oI C oC D m₂ ys h tk E' hC hx F' N' off ne) (fun ok s' hq => ?_) fun _ _ e => e
      cases ok with
      | true =>
        simp only [if_true] at hq ⊢
        refine wpAny_mono hq (fun y s₂ hq => ?_) fun _ _ e => e
        obtain ⟨h', tk', nw, e, F₂, N₂, off₂, hS, rfl, hk, t', rfl⟩ := hq
        refine ⟨h', tk', nw, e, F₂, N₂, off₂, hS, ?_⟩
        refine ih (i + 1) _ (by omega) ?_
        rw [ht, List.filter_append, List.map_append]
        simp only [List.filter_cons, List.filter_nil, hk, if_true, List.map_cons, List.map_nil]
        exact strs_snoc hy
      | false =>
        simp only [Bool.false_eq_true, if_false] at hq ⊢
        obtain ⟨h', tk', nw, e, F₂, N₂, off₂, hS, rfl, hk⟩ := hq
        refine ⟨h', tk', nw, e, F₂, N₂, off₂, hS, ?_⟩
        refine ih (i + 1) _ (by omega) ?_
        rw [ht, List.filter_append, List.map_append]
        simp only [List.filter_cons, List.filter_nil, hk, Bool.false_eq_true, if_false, List.map_nil, List.append_nil]
        exact hy
  exact key l.length 0 [] (by omega) (by simp; exact .nil)
theorem cEnd0 {I C D : Addr} {s₁ : Shared} {oI oC oD : Obj} {P : Prop} {h' : Heap} {tk : Nat} {news : List (Addr × Obj)} {y : Value}
    (F : Fr h₀ L h' m) (N : News h₀ L h' ((I, oI) :: (C, oC) :: (D, oD) :: news)) (off : Off3 I C D news) (hp : P) :
    CompEnd h₀ L m s₁ I oI C oC D oD (fun _ => True) (fun _ news' => news' = news ∧ P) y { s₁ with heap := h', toks := tk } := ⟨h', tk, news, rfl, F, N, off, trivial, rfl, hp⟩
theorem cEnd1 {I C D : Addr} {s₁ : Shared} {oI oC oD : Obj} {P : Prop} {h' : Heap} {tk : Nat} {news : List (Addr × Obj)} {r : Str} {t : Tok}
    (F : Fr h₀ L h' m) (N : News h₀ L h' ((I, oI) :: (C, oC) :: (D, oD) :: news)) (off : Off3 I C D news) (hp : P) :
    CompEnd h₀ L m s₁ I oI C oC D oD (fun _ => True) (fun y news' => news' = news ∧ P ∧ ∃ t, y = .str r t) (.str r t) { s₁ with heap := h', toks := tk } := ⟨h', tk, news, rfl, F, N, off, trivial, rfl, hp, t, rfl⟩
end
end Mine
end
section
open PySem PySem.Calls PySem.W PyProof.Rows PySem.Spec PySem.Builtin PySem.Builtin.Str
set_option Elab.async false
set_option maxRecDepth 100000
set_option maxHeartbeats 1000000
set_option linter.unusedVariables false
namespace Mine
noncomputable def keepB (c : Nat) : Bool := !(b1I.contains (c : Int))
noncomputable def b3L (c : Nat) : List Nat := toL (b3F c)
/-- prepared by tables B.1 and B.3 -/
noncomputable def prepL (l : List Nat) : List Nat := (l.filter keepB).flatMap b3L
theorem b3F_mk (c : Nat) : b3F c = mkS (b3L c) := (mkS_toL _).symm
noncomputable def tabShort : Prop := (b3Tab.all fun p => decide (p.2.cps.size ≤ 4)) = true
lay_quick Mine.tabShort
theorem tabShort_ok : tabShort := by rw [PySem.W.Fast.te11273713937929205230]; delta PySem.W.Fast.tw11273713937929205230; kernel_rfl
theorem datum_mem : ∀ {l : List (Int × Str)} {k : Int} {y : Str}, KTD.datumAt k l = some y → (k, y) ∈ l
  | [], _, _, h => by cases h
  | (x, d) :: l, k, y, h => by
    simp only [KTD.datumAt] at h
    split at h
    · rename_i hk
      have hk' : k = x := by simpa using hk
      cases h
      rw [hk']
      exact .head _
    · exact .tail _ (datum_mem h)
theorem b3L_le (c : Nat) : (b3L c).length ≤ 4 := by
  unfold b3L
  rw [← length_toL]
  cases hd : KTD.datumAt (c : Int) b3Tab with
  | some y =>
    rw [b3F_some hd]
    have h := tabShort_ok
    unfold tabShort at h
    have := List.all_eq_true.mp h _ (datum_mem hd)
    exact of_decide_eq_true this
  | none =>
    rw [b3F_none hd]
    have := short3_lower ⟨#[c]⟩
    exact Nat.le_trans this (by show 3 * 1 + 1 ≤ 4; decide)
theorem prepL_le (l : List Nat) : (prepL l).length ≤ 4 * l.length := by
  unfold prepL
  have h1 : ∀ k : List Nat, (k.flatMap b3L).length ≤ 4 * k.length := by
    intro k
    induction k with
    | nil => simp
    | cons a r ih => rw [List.flatMap_cons, List.length_append, List.length_cons]; have := b3L_le a; omega
  have h2 := h1 (l.filter keepB)
  have h3 := List.length_filter_le keepB l
  omega
theorem prepL_append (a b : List Nat) : prepL (a ++ b) = prepL a ++ prepL b := by
  unfold prepL
  rw [List.filter_append, List.flatMap_append]
section
variable {prog : Program} {w : World} {A : Around} {E : Value → Shared → Prop} {s : Shared} {h₀ : Heap} {L : Addr} {m : Str → Option Value} {news : List (Addr × Obj)} {Q : Value → Shared → Prop}
theorem join_empty_toL : ∀ (ps : List Str), toL (Str.join (mkS []) ps) = (ps.map toL).flatten
  | [] => by simp [Str.join, Str.empty]
  | [x] => by simp [Str.join]
  | x :: y :: r => by
    have ih := join_empty_toL (y :: r)
    rw [show Str.join (mkS []) (x :: y :: r) = x ++ mkS [] ++ Str.join (mkS []) (y :: r) from rfl, toL_append, toL_append, ih, toL_mkS, List.append_nil]
    rfl
/-- ''.join of the prepared signs -/
theorem join_prep {D : Addr} {vs : List Value} {l : List Nat} {n : Nat} {u : Tok} (hN : News h₀ L s.heap news) (hm : (D, listOf vs.toArray n) ∈ news) (hi : StrsAre vs ((l.filter keepB).map b3F)) (hl : l.length ≤ 100000)
    (h : ∀ t' k, Q (.str (mkS (prepL l)) t') { s with toks := k }) : wpAny (model prog w) A (call (.builtin "str.join") [.str (Str.ofString "") u, .ref D]) Q E s := by
  have hi' : StrsAre vs.toArray.toList ((l.filter keepB).map b3F) := hi
  refine join_listW ⟨_, (hN _ hm).1, rfl, n, rfl⟩ hi' (by decide +kernel) ?_ (fun t' k => ?_)
  · have h1 : ∀ k : List Nat, (((k.map b3F).map (·.length)).sum + (k.map b3F).length) ≤ 5 * k.length := by
      intro k
      induction k with
      | nil => simp
      | cons a r ih =>
        have := b3L_le a
        simp only [List.map_cons, List.sum_cons, List.length_cons] at ih ⊢
        have h2 : (b3F a).length = (b3L a).length := length_toL _
        rw [h2]; omega
    have h2 := h1 (l.filter keepB)
    have h3 := List.length_filter_le keepB l
    omega
  · have e : Txt.join (Str.ofString "") ((l.filter keepB).map b3F) = mkS (prepL l) := by
      refine str_of_toL ?_
      unfold Txt.join
      rw [empty_is, StrLaws.glued_eq_join, join_empty_toL, List.map_map]
      unfold prepL
      rw [List.flatMap_def]
      rfl
    rw [e]
    exact h t' k
end
end Mine
end
section
open PySem PySem.Calls PySem.W PyProof.Rows
set_option Elab.async false
set_option maxRecDepth 100000
set_option maxHeartbeats 0
set_option linter.unusedVariables false
namespace Mine
theorem fillKH : (fun P => K P) = (fun P => K P) ∧ PySem.Challenge.rw_pd0025_01 = PySem.Challenge.rw_pd0025_01 := by
  k_fill
  exact ⟨rfl, rfl⟩
theorem keep1 {c : Nat} (h : b1I.contains (c : Int) = false) : keepB c = true := by unfold keepB; rw [h]; rfl
theorem keep0 {c : Nat} (h : b1I.contains (c : Int) = true) : keepB c = false := by unfold keepB; rw [h]; rfl
theorem prepared_ok (w : World) (news : List (Addr × Obj)) (l : List Nat) (t : Tok) (hx : l.length ≤ 100000) : Ctx0 w news 2 fun A s h₀ L m Q E =>
    (∀ (t : Tok) (h' : Heap) (tk' : Nat), Fr h₀ L h' m → News h₀ L h' news → Q (.str (mkS (prepL l)) t) { s with heap := h', toks := tk' }) →
    wpAny (model rowR.prog w) A (call (.ref 226) [.str (mkS l) t]) Q E s := by
  k_with_none
  (k_with "call ref" => (k_here; (with_reducible show wpAny _ _ (call (Value.ref _) [Value.str _ _]) _ _ _); (show wpAny _ _ (call (Value.ref 154) [Value.str _ _]) _ _ _); k_dflt (refine' b1_ok _ _ _ _ ?kB ?kF ?kX ?kN ?kT ?kc ?kd ?ku ?_; (case kB => k_asm); (case kF => k_asm); (case kX => k_asm); (case kN => k_asm); (case kT => k_asm); (case kc => first | exact rfl | assumption); (case kd => first | omega | (simp only [depth_deeper]; omega) | ktr_room); (case ku => first | omega | (simp only [units_deeper]; omega) | ktr_units)); intro h9 tk9 F9 N9; (try dsimp only); (try k_fold)))
  (k_with "call ref" => (k_here; (with_reducible show wpAny _ _ (call (Value.ref _) [Value.str _ _]) _ _ _); (show wpAny _ _ (call (Value.ref 200) [Value.str _ _]) _ _ _); k_dflt (refine' b3_ok _ _ _ _ ?kB ?kF ?kX ?kN ?kT ?kc ?kd ?ku ?_; (case kB => k_asm); (case kF => k_asm); (case kX => k_asm); (case kN => k_asm); (case kT => k_asm); (case kc => first | exact rfl | assumption); (case kd => first | omega | (simp only [depth_deeper]; omega) | ktr_room); (case ku => first | omega | (simp only [units_deeper]; omega) | ktr_units)); intro t9 h9 tk9 F9 N9; (try dsimp only); (try k_fold)))
  (k_with "eval ListComp" => (k_here; k_dflt (refine comp_str (F₀ := by k_asm) (by with_unfolding_all rfl) (by decide) (by rfl) (by decide) (by rfl) ?_)))
  (k_with "SrcS" => (k_here; k_dflt (refine' srcS_mk keepB b3F ?hh ?F ?N ?z (fun c9 u9 I9 oI9 C9 oC9 D9 m9 ys9 h9 tk9 E9 hC9 hx9 F9 N9 off9 ne9 => ?_) (fun ys9 D9 h9 tk9 hy9 F9 N9 off9 => ?_); (case hh => rfl); (case F => k_asm); (case N => k_asm); (case z => omega)); (all_goals (try dsimp only)); (all_goals (try k_fold))))
  (k_with "CompEnd" => (k_dflt (first
  | (refine' cEnd0 ?F ?N ?off ?r; (case r => exact keep0 (by assumption)); (case F => k_asm); (case N => k_asm); (case off => assumption))
  | (refine' cEnd1 ?F ?N ?off ?r; (case r => exact keep1 (by assumption)); (case F => k_asm); (case N => k_asm); (case off => assumption)))))
  (k_with "call builtin:str.join" => (k_here; (show wpAny _ _ (call (Value.builtin "str.join") [Value.str (Str.ofString "") _, Value.ref _]) _ _ _); k_dflt (refine' join_prep ?N ?m ?i ?w ?_; (case N => k_asm); (case m => k_mem); (case i => assumption); (case w => assumption)); intro t9 k9; (try dsimp only); (try k_fold)))
  w_on
  intro dp un gd cn cs a ccd cl outer A₀ base h₀ L m mg mb mean s Q E B F X N T hcs hdp hun hret
  refine wpAny_call ?_
  k_dflt cell_enter
  k_steps
  all_goals (first | (exact hret _ _ _ (by k_asm) (by first | k_asm | (refine' cb_drop ?cbN ?cbS; (case cbN => assumption); (case cbS => kcj_all)))))
end Mine
end
section
open PySem PySem.Calls PySem.W PyProof.Rows PySem.Spec
set_option Elab.async false
set_option maxRecDepth 100000
set_option maxHeartbeats 1000000
set_option linter.unusedVariables false
namespace Mine
/-- split again and again: the path that is left, the tails, each prepared -/
inductive Peel (l : List Nat) : List Nat → List (List Nat) → Prop
  | start : Peel l l []
  | step {p : List Nat} {acc : List (List Nat)} : Peel l p acc → ¬ (headL p = p ∧ tailL p = []) → Peel l (headL p) (acc ++ [prepL (tailL p)])
theorem dropWhile_le' (g : Nat → Bool) (l : List Nat) : (l.dropWhile g).length ≤ l.length := (List.dropWhile_sublist _).length_le
theorem pre_tail_len (p : List Nat) : (preL p).length + (tailL p).length = p.length := by
  unfold preL tailL
  rw [List.length_reverse, List.length_reverse, Nat.add_comm, ← List.length_append, List.takeWhile_append_dropWhile, List.length_reverse]
theorem head_le (p : List Nat) : (headL p).length ≤ (preL p).length := by
  unfold headL
  split
  · omega
  · rw [List.length_reverse]
    have := dropWhile_le' (· == 47) (preL p).reverse
    rw [List.length_reverse] at this
    exact this
theorem head_pre {p : List Nat} (h : (headL p).length = (preL p).length) : headL p = preL p := by
  unfold headL at h ⊢
  split
  · rfl
  · rename_i hn
    rw [if_neg hn, List.length_reverse] at h
    have h2 : (preL p).reverse.takeWhile (· == 47) ++ (preL p).reverse.dropWhile (· == 47) = (preL p).reverse := List.takeWhile_append_dropWhile
    have h3 := congrArg List.length h2
    rw [List.length_append, List.length_reverse, h] at h3
    have h4 : (preL p).reverse.takeWhile (· == 47) = [] := List.length_eq_zero_iff.mp (by omega)
    rw [h4, List.nil_append] at h2
    rw [h2, List.reverse_reverse]
theorem preL_all {p : List Nat} (h : tailL p = []) : preL p = p := by
  have h1 : p.reverse.takeWhile (· != 47) ++ p.reverse.dropWhile (· != 47) = p.reverse := List.takeWhile_append_dropWhile
  unfold tailL at h
  rw [List.reverse_eq_nil_iff] at h
  rw [h, List.nil_append] at h1
  unfold preL
  rw [h1, List.reverse_reverse]
theorem peel_less {p : List Nat} (h : ¬ (headL p = p ∧ tailL p = [])) : (headL p).length + (tailL p).length ≤ p.length ∧ (headL p).length < p.length := by
  have h1 := head_le p
  have h2 := pre_tail_len p
  refine ⟨by omega, ?_⟩
  rcases Nat.lt_or_ge (headL p).length p.length with h3 | h3
  · exact h3
  · exfalso
    have ht : tailL p = [] := List.length_eq_zero_iff.mp (by omega)
    exact h ⟨(head_pre (by omega)).trans (preL_all ht), ht⟩
theorem Peel.size {l p : List Nat} {acc : List (List Nat)} (h : Peel l p acc) : (acc.map List.length).sum + acc.length + 5 * p.length ≤ 5 * l.length := by
  induction h with
  | start => simp
  | step h hn ih =>
    rename_i p acc
    have h1 := peel_less hn
    have h2 := prepL_le (tailL p)
    simp only [List.map_append, List.map_cons, List.map_nil, List.sum_append, List.sum_cons, List.sum_nil, List.length_append, List.length_cons, List.length_nil]
    omega
/-- signs that are signs -/
noncomputable def okL (l : List Nat) : Prop := ∀ c ∈ l, c < 1114112
theorem okL_str {l : List Nat} (h : okL l) : PyData.strOk (mkS l) = true := by
  unfold PyData.strOk
  rw [← Array.all_toList, List.all_eq_true]
  intro c hc
  exact decide_eq_true (h c hc)
theorem preL_sub (p : List Nat) : ∀ c ∈ preL p, c ∈ p := fun c hc => by
  unfold preL at hc
  exact List.mem_reverse.mp ((List.dropWhile_sublist _).mem (List.mem_reverse.mp hc))
theorem tailL_sub (p : List Nat) : ∀ c ∈ tailL p, c ∈ p := fun c hc => by
  unfold tailL at hc
  exact List.mem_reverse.mp ((List.takeWhile_sublist _).mem (List.mem_reverse.mp hc))
theorem headL_sub (p : List Nat) : ∀ c ∈ headL p, c ∈ p := fun c hc => by
  unfold headL at hc
  split at hc
  · exact preL_sub p c hc
  · exact preL_sub p c (List.mem_reverse.mp ((List.dropWhile_sublist _).mem (List.mem_reverse.mp hc)))
theorem Peel.sub {l p : List Nat} {acc : List (List Nat)} (h : Peel l p acc) : ∀ c ∈ p, c ∈ l := by
  induction h with
  | start => exact fun _ h => h
  | step _ _ ih => exact fun c hc => ih c (headL_sub _ c hc)
section
variable {prog : Program} {w : World} {A : Around} {E : Value → Shared → Prop} {s : Shared} {env : Env} {h₀ : Heap} {L : Addr} {Q : Flow → Shared → Prop}
noncomputable abbrev sPath : Str := Str.ofString "path"
noncomputable abbrev sHead : Str := Str.ofString "head"
noncomputable abbrev sTail : Str := Str.ofString "tail"
/-- the frame in a turn -/
noncomputable abbrev mapN (m₀ : Str → Option Value) (p : List Nat) (tp th tt : Tok) : Str → Option Value := fun z => if z = sPath then some (.str (mkS p) tp) else if z = sHead then some (.str (mkS (headL p)) th) else if z = sTail then some (.str (mkS (tailL p)) tt) else m₀ z
noncomputable def InvNames (l : List Nat) (Dn : Addr) (post : List (Addr × Obj)) (m₀ : Str → Option Value) (n : Nat) (m : Str → Option Value) (nx : List (Addr × Obj)) : Prop :=
  ∃ p acc vs k, nx = (Dn, listOf vs.toArray k) :: post ∧ TxtsAre vs acc ∧ Peel l p acc ∧ n = p.length ∧ (∃ t, m sPath = some (.str (mkS p) t)) ∧ (∃ t, m sHead = some (.str (mkS (headL p)) t)) ∧ (∃ t, m sTail = some (.str (mkS (tailL p)) t)) ∧ ∀ z, z ≠ sPath → z ≠ sHead → z ≠ sTail → m z = m₀ z
noncomputable def StepNames (h₀ : Heap) (L : Addr) (s : Shared) (l : List Nat) (Dn : Addr) (post : List (Addr × Obj)) (m₀ : Str → Option Value) (Q : Flow → Shared → Prop) (n : Nat) (f : Flow) (s₂ : Shared) : Prop := WhileStep2 h₀ L s (InvNames l Dn post m₀) Q n f s₂
theorem while_names {test : PySem.Expr} {body : List Stmt} {pos : Pos} {l : List Nat} {Dn : Addr} {post : List (Addr × Obj)} {m₀ : Str → Option Value} (F : Fr h₀ L s.heap m₀) (N : News h₀ L s.heap ((Dn, listOf #[] 0) :: post))
    {t1 t2 t3 : Tok} (e1 : m₀ sPath = some (.str (mkS l) t1)) (e2 : m₀ sHead = some (.str (mkS (headL l)) t2)) (e3 : m₀ sTail = some (.str (mkS (tailL l)) t3)) (hl : l.length ≤ 10000) (hok : okL l) (hne : ∀ p ∈ post, p.1 ≠ Dn)
    (turn : ∀ p acc vs k tp th tt h tk, TxtsAre vs acc → Peel l p acc → p.length ≤ 10000 → vs.length ≤ 50000 → (mkS p).length ≤ 10000 → (mkS (headL p)).length ≤ 10000 → (mkS (tailL p)).length ≤ 10000 → (tailL p).length ≤ 10000 → (headL p).length ≤ 10000 → PyData.strOk (mkS p) = true → PyData.strOk (mkS (headL p)) = true → PyData.strOk (mkS (tailL p)) = true → Fr h₀ L h (mapN m₀ p tp th tt) → News h₀ L h ((Dn, listOf vs.toArray k) :: post) →
      wpAny (model prog w) A (isTrue test env (eval test env)) (fun b s₂ =>
        if b = true then wpAny (model prog w) A (execs body env) (StepNames h₀ L s l Dn post m₀ Q p.length) E s₂ else Q .next s₂) E { s with heap := h, toks := tk })
    (hE : PassesOwn (model prog w) A env E := by passes_own) :
    wpAny (model prog w) A (exec (.While test body [] pos) env) Q E s := by
  refine While_inv2 (InvNames l Dn post m₀) F N ⟨l, [], [], 0, rfl, StrsAre.nil, .start, rfl, ⟨_, e1⟩, ⟨_, e2⟩, ⟨_, e3⟩, fun _ _ _ _ => rfl⟩ ?_ hE
  rintro n m₁ news₁ h₁ tk₁ F₁ N₁ ⟨p, acc, vs, k, rfl, hv, hp, rfl, ⟨tp, hp1⟩, ⟨th, hh1⟩, ⟨tt, ht1⟩, hm⟩
  have hsz := hp.size
  have hvl : vs.length = acc.length := by have := hv.len_eq; rw [List.length_map] at this; exact this
  have em : m₁ = mapN m₀ p tp th tt := by
    funext z
    show m₁ z = (if z = sPath then some (.str (mkS p) tp) else if z = sHead then some (.str (mkS (headL p)) th) else if z = sTail then some (.str (mkS (tailL p)) tt) else m₀ z)
    by_cases h1 : z = sPath
    · rw [if_pos h1, h1]; exact hp1
    · rw [if_neg h1]
      by_cases h2 : z = sHead
      · rw [if_pos h2, h2]; exact hh1
      · rw [if_neg h2]
        by_cases h3 : z = sTail
        · rw [if_pos h3, h3]; exact ht1
        · rw [if_neg h3]; exact hm z h1 h2 h3
  rw [em] at F₁
  have a1 := head_le p
  have a2 := pre_tail_len p
  have o1 : okL p := fun c hc => hok c (hp.sub c hc)
  exact turn p acc vs k tp th tt h₁ tk₁ hv hp (by omega) (by omega) (by rw [len_mk]; omega) (by rw [len_mk]; omega) (by rw [len_mk]; omega) (by omega) (by omega) (okL_str o1) (okL_str fun c hc => o1 c (headL_sub p c hc)) (okL_str fun c hc => o1 c (tailL_sub p c hc)) F₁ N₁
theorem step_names {l p : List Nat} {acc : List (List Nat)} {vs : List Value} {k : Nat} {u tp th tt : Tok} {Dn : Addr} {post news' : List (Addr × Obj)} {m₀ m' : Str → Option Value} {h' : Heap} {tk : Nat} (hv : TxtsAre vs acc) (hp : Peel l p acc) (hn : ¬ (headL p = p ∧ tailL p = []))
    (F : Fr h₀ L h' m') (N : News h₀ L h' news') (hs : ∀ q ∈ (Dn, listOf (vs ++ [Value.str (mkS (prepL (tailL p))) u]).toArray k) :: post, q ∈ news')
    (e1 : m' sPath = some (.str (mkS (headL p)) tp)) (e2 : m' sHead = some (.str (mkS (headL (headL p))) th)) (e3 : m' sTail = some (.str (mkS (tailL (headL p))) tt)) (hm : ∀ z, z ≠ sPath → z ≠ sHead → z ≠ sTail → m' z = m₀ z) :
    StepNames h₀ L s l Dn post m₀ Q p.length .next { s with heap := h', toks := tk } :=
  ⟨h', tk, m', _, (headL p).length, rfl, F, fun q hq => N q (hs q hq), (peel_less hn).2, headL p, _, _, k, rfl, hv.snoc _ u, .step hp hn, rfl, ⟨_, e1⟩, ⟨_, e2⟩, ⟨_, e3⟩, hm⟩
theorem ne_pair {Q : Value → Shared → Prop} {news : List (Addr × Obj)} {D1 D2 : Addr} {a b c d : Str} {ta tb tc td : Tok} (N : News h₀ L s.heap news) (h1 : (D1, tupOf [.str a ta, .str b tb]) ∈ news) (h2 : (D2, tupOf [.str c tc, .str d td]) ∈ news)
    (hu : A.units + 64 < cLine) (oa : PyData.strOk a = true) (ob : PyData.strOk b = true) (oc : PyData.strOk c = true) (od : PyData.strOk d = true) (h : Q (.bool (!(a == c && b == d))) s) : wpAny (model prog w) A (compareOp .NotEq (.ref D1) (.ref D2)) Q E s := by
  have r1 : Reads s.heap (.ref D1) (.tuple [.str a, .str b]) _ := reads_tuple_at (News.get N h1) rfl rfl (.cons (.str _ _) (.cons (.str _ _) .nil))
  have r2 : Reads s.heap (.ref D2) (.tuple [.str c, .str d]) _ := reads_tuple_at (News.get N h2) rfl rfl (.cons (.str _ _) (.cons (.str _ _) .nil))
  have sh : ∀ x y : Str, PyData.strOk x = true → PyData.strOk y = true → SeqAt.shaped (.tuple [.str x, .str y]) = true := fun x y hx hy => by simp [hx, hy, SeqAt.shaped, PyData.canLay0, PyData.canLayAll0, PyData.depth, PyData.depthAll]
  refine ne_dataH r1 r2 (sh _ _ oa ob) (sh _ _ oc od) hu ?_
  have e : PyData.eqv (.tuple [.str a, .str b]) (.tuple [.str c, .str d]) = (a == c && b == d) := by
    simp [PyData.eqv, PyData.eqvAll]
  rw [e]; exact h
theorem rev_slice {Q : Value → Shared → Prop} {news : List (Addr × Obj)} {m : Str → Option Value} {l : Addr} {vs : List Value} {n : Nat} {vk : Value} {ops : List Value} {value slice : PySem.Expr} (F : Fr h₀ L s.heap m) (N : News h₀ L s.heap news) (hm : (l, listOf vs.toArray n) ∈ news) (pk : IsPart vk (some (-1)))
    (h : ∀ D h', Fr h₀ L h' m → News h₀ L h' ((D, listOf vs.reverse.toArray 0) :: news) → (∀ p ∈ news, p.1 < D) → Q (.ref D) { s with heap := h' })
    (hs : subscripted slice false (.ref l) (.ref s.heap.objs.size) = operate ops (getItem (.ref l) (.ref s.heap.objs.size))) (ht : ∀ r, letTemporaryGo value (.ref l) r = pure ()) (hz : vs.length ≤ 100000) :
    wpAny (model prog w) A (subscriptTail value slice (.ref l) (.ref s.heap.objs.size)) Q E { s with heap := s.heap.push { cls := .type "slice", data := .fields #[.none, .none, vk] } } :=
  krv_lit (its := vs.toArray) (zs := vs.reverse) F N ⟨_, (N _ hm).1, rfl, n, rfl⟩ pk rfl h hs ht (by have : sizeLine = 2 ^ 24 := rfl; rw [List.size_toArray]; omega)
theorem star_txt {Q : List Value → Shared → Prop} {news : List (Addr × Obj)} {m : Str → Option Value} {D : Addr} {ws : List Value} {n : Nat} (F : Fr h₀ L s.heap m) (N : News h₀ L s.heap news) (ha : (D, listOf ws.toArray n) ∈ news)
    (hz : ws.length ≤ 100000) (h : ∀ h', Fr h₀ L h' m → News h₀ L h' news → Q ws { s with heap := h' }) : StarOf (model prog w) A E (.ref D) Q s :=
  star_seq F N ha rfl rfl (.inl rfl) rfl (by have : sizeLine = 2 ^ 24 := rfl; rw [List.size_toArray]; omega) h
theorem txts_rev : ∀ {vs : List Value} {ls : List (List Nat)}, TxtsAre vs ls → TxtsAre vs.reverse ls.reverse
  | vs, [], h => by rw [h.nil]; exact StrsAre.nil
  | vs, p :: r, h => by
    obtain ⟨t, vs', rfl, h'⟩ := StrsAre.cons_inv (show StrsAre vs (mkS p :: r.map mkS) from h)
    rw [List.reverse_cons, List.reverse_cons]
    exact (txts_rev (show TxtsAre vs' r from h')).snoc p t
theorem peel_join {l p : List Nat} {acc : List (List Nat)} (hp : Peel l p acc) (hx : l.length ≤ 10000) : p.length + (acc.reverse.map List.length).sum + acc.reverse.length ≤ 100000 := by
  have := hp.size
  rw [List.map_reverse, List.sum_reverse, List.length_reverse]
  omega
theorem exit1 {p : List Nat} (h : (mkS (headL p) == mkS p && mkS (tailL p) == Str.ofString "") = true) : headL p = p ∧ tailL p = [] := by
  rw [Bool.and_eq_true, beq_str, beq_str, toL_mkS, toL_mkS, toL_mkS, empty_is, toL_mkS] at h
  exact h
theorem exit0 {p : List Nat} (h : (mkS (headL p) == mkS p && mkS (tailL p) == Str.ofString "") = false) : ¬ (headL p = p ∧ tailL p = []) := by
  rintro ⟨h1, h2⟩
  rw [h1, h2, empty_is] at h
  simp at h
end
end Mine
end
section
open PySem PySem.Calls PySem.W PyProof.Rows
set_option Elab.async false
set_option maxRecDepth 100000
set_option maxHeartbeats 0
set_option linter.unusedVariables false
namespace Mine
theorem fillKJ : (fun P => K P) = (fun P => K P) ∧ PySem.Challenge.rw_pd0025_01 = PySem.Challenge.rw_pd0025_01 := by
  k_fill
  exact ⟨rfl, rfl⟩
theorem split_okM (w : World) (news : List (Addr × Obj)) (l : List Nat) (t : Tok) (hx : l.length ≤ 100000) : Ctx0 w news 2 fun A s h₀ L m Q E =>
    (∀ (D : Addr) (t1 t2 : Tok) (h' : Heap) (tk' : Nat), Fr h₀ L h' m → News h₀ L h' ((D, tupO [.str (mkS (headL l)) t1, .str (mkS (tailL l)) t2]) :: news) → (∀ p ∈ news, p.1 < D) → Q (.ref D) { s with heap := h', toks := tk' }) →
    wpAny (model rowR.prog w) A (call (.ref 122) [.str (mkS l) t]) Q E s := by
  have h := @split_ok w news (mkS l) t (by rw [len_mk]; exact hx)
  simp only [toL_mkS] at h
  exact @h
local macro_rules | `(tactic| k_all) => `(tactic| first | exact fun p hp => Nat.ne_of_lt (ltAll' (And.right (by assumption)) p hp) | (intro p9 hp9; (refine Nat.ne_of_lt ?_); revert p9; assumption))
theorem by_names_ok (w : World) (news : List (Addr × Obj)) (l : List Nat) (t : Tok) (hx : l.length ≤ 10000) (hok : okL l) : Ctx0 w news 20 fun A s h₀ L m Q E =>
    (∀ (p : List Nat) (acc : List (List Nat)) (t : Tok) (h' : Heap) (tk' : Nat), Peel l p acc → headL p = p → tailL p = [] → Fr h₀ L h' m → News h₀ L h' news → Q (.str (mkS (acc.reverse.foldl joinL p)) t) { s with heap := h', toks := tk' }) →
    wpAny (model rowR.prog w) A (call (.ref 233) [.str (mkS l) t]) Q E s := by
  k_with_none
  (k_with "call ref" => (k_here; (with_reducible show wpAny _ _ (call (Value.ref _) [Value.str (mkS _) _]) _ _ _); (show wpAny _ _ (call (Value.ref 122) [Value.str (mkS _) _]) _ _ _); k_dflt (refine' split_okM _ _ _ _ ?hx ?kB ?kF ?kX ?kN ?kT ?kc ?kd ?ku ?_; (case kB => k_asm); (case kF => k_asm); (case kX => k_asm); (case kN => k_asm); (case kT => k_asm); (case kc => first | exact rfl | assumption); (case kd => first | omega | (simp only [depth_deeper]; omega) | ktr_room); (case ku => first | omega | (simp only [units_deeper]; omega) | ktr_units); (case hx => (first | assumption | omega))); intro D9 ta9 tb9 h9 tk9 F9 N9 lt9; (try dsimp only); (try k_fold)))
  (k_with "call ref" => (k_here; (with_reducible show wpAny _ _ (call (Value.ref _) [Value.str (mkS _) _]) _ _ _); (show wpAny _ _ (call (Value.ref 226) [Value.str (mkS _) _]) _ _ _); k_dflt (refine' prepared_ok _ _ _ _ ?hx ?kB ?kF ?kX ?kN ?kT ?kc ?kd ?ku ?_; (case kB => k_asm); (case kF => k_asm); (case kX => k_asm); (case kN => k_asm); (case kT => k_asm); (case kc => first | exact rfl | assumption); (case kd => first | omega | (simp only [depth_deeper]; omega) | ktr_room); (case ku => first | omega | (simp only [units_deeper]; omega) | ktr_units); (case hx => (first | assumption | omega))); intro t9 h9 tk9 F9 N9; (try dsimp only); (try k_fold)))
  (k_with "exec While Compare cons nil" => (k_here; (rename Fr _ _ _ _ => lF'); (rename News _ _ _ _ => lN'); (with_unfolding_all refine' while_names lF' (drop1 lN') ?e1 ?e2 ?e3 (by assumption) (by assumption) ?kne (fun p9 acc9 vs9 k9 tp9 th9 tt9 h9 tk9 hv9 hp9 hl9 hz9 ha9 hb9 hc9 hd9 he9 hf9 hg9 hi9 F9 N9 => ?_) ?kE); (case kE => passes_own); (case e1 => exact rfl); (case e2 => exact rfl); (case e3 => exact rfl); (case kne => (intro p9 hp9); (refine Nat.ne_of_lt ?_); revert p9; assumption); clear lF' lN'; (all_goals (try dsimp only)); (all_goals (try k_fold))))
  (k_with "compareOp NotEq ref ref" => (k_here; (with_reducible show wpAny _ _ (compareOp CmpOp.NotEq (Value.ref _) (Value.ref _)) _ _ _); k_dflt (refine' ne_pair ?N ?m1 ?m2 ?hu ?oa ?ob ?oc ?od ?_; (case N => k_asm); (case m1 => k_mem); (case m2 => k_mem); (case oa => first | assumption | decide +kernel); (case ob => first | assumption | decide +kernel); (case oc => first | assumption | decide +kernel); (case od => first | assumption | decide +kernel); (case hu => (first | omega | (simp only [units_deeper]; omega) | ktr_units)))))
  (k_with "subscriptTail Name Slice ref ref" => (k_here; (with_reducible show wpAny _ _ (subscriptTail _ (PySem.Expr.Slice none none (some _) _) (Value.ref _) (Value.ref _)) _ _ _); k_dflt (refine' rev_slice ?F ?N ?l ?k ?_ ?s ?t ?z; (case F => k_asm); (case N => k_asm); (case l => k_mem); (case k => exact IsPart.int _ _); (case s => with_unfolding_all rfl); (case t => kmk_pure); (case z => omega)); intro D' h' F' N' l1; (try k_lt l1); (try k_sweep)))
  (k_with "StarOf ref" => (k_here; k_dflt (refine' star_txt ?k1 ?k2 ?m ?z ?_; (case k1 => k_asm); (case k2 => k_asm); (case m => k_mem); (case z => (rw [List.length_reverse]; omega)); k_whole); intro h' F' N'; (try k_sweep); try dsimp only [List.nil_append, List.cons_append]))
  (k_with "call builtin:list.append" => (k_here; (show wpAny _ _ (call (Value.builtin "list.append") [Value.ref _, _]) _ _ _); k_dflt (refine' append_S ?k1 ?k2 ?k3 ?z ?_; (case k1 => k_asm); (case k2 => k_asm); (case k3 => k_upd); (case z => omega); k_whole); intro h' F' N'; (try k_sweep)))
  (k_with "StepNames" => (k_dflt (refine' step_names (by assumption) (by assumption) (exit0 (by assumption)) ?F ?N ?hs ?e1 ?e2 ?e3 ?hm; (case F => k_asm); (case N => k_asm); (case hs => exact fun q hq => .tail _ (.tail _ (.tail _ hq))); (case e1 => exact rfl); (case e2 => exact rfl); (case e3 => exact rfl); (case hm => (intro z hz1 hz2 hz3; simp only [if_neg hz1, if_neg hz2, if_neg hz3])))))
  (k_with "call ref" => (k_here; (show wpAny _ _ (call (Value.ref 115) (Value.str (mkS _) _ :: _)) _ _ _); k_dflt (refine' join_ok _ _ _ _ _ _ ?hi ?hb ?kB ?kF ?kX ?kN ?kT ?kc ?kd ?ku ?_; (case hi => first | exact txts_rev (by assumption) | (rw [List.append_nil]; exact txts_rev (by assumption))); (case hb => exact peel_join (by assumption) (by assumption)); (case kB => k_asm); (case kF => k_asm); (case kX => k_asm); (case kN => k_asm); (case kT => k_asm); (case kc => first | exact rfl | assumption); (case kd => first | omega | (simp only [depth_deeper]; omega) | ktr_room); (case ku => first | omega | (simp only [units_deeper]; omega) | ktr_units)); intro t9 h9 tk9 F9 N9; (try dsimp only); (try k_fold)))
  w_on
  intro dp un gd cn cs a ccd cl outer A₀ base h₀ L m mg mb mean s Q E B F X N T hcs hdp hun hret
  refine wpAny_call ?_
  k_dflt cell_enter
  k_steps
  all_goals (first | exact hret _ _ _ _ _ (by assumption) (exit1 (by assumption)).1 (exit1 (by assumption)).2 (by k_asm) (by first | k_asm | (refine' cb_drop ?cbN ?cbS; (case cbN => assumption); (case cbS => kcj_all))))
end Mine
end
section
open PySem PySem.Calls PySem.W PyProof.Rows PySem.Spec
open PyProof.Rows.LCg PyProof.Rows.LCt
set_option Elab.async false
set_option maxRecDepth 100000
set_option maxHeartbeats 1000000
set_option linter.unusedVariables false
namespace Mine
noncomputable abbrev Pr := List Nat × List Nat
/-- a turn of the plain kept: as normpath's, over pairs -/
noncomputable def stepP (r : Bool) (acc : List Pr) (p : Pr) : List Pr :=
  if p.1 = [] ∨ p.1 = [46] then acc
  else if p.1 ≠ [46, 46] ∨ (r = false ∧ acc = []) ∨ acc.getLast?.map (·.1) = some [46, 46] then acc ++ [p]
  else acc.dropLast
noncomputable def keptL (r : Bool) (ps : List Pr) : List Pr := ps.foldl (stepP r) []
theorem stepP_fst (r : Bool) (acc : List Pr) (p : Pr) : (stepP r acc p).map (·.1) = stepL r (acc.map (·.1)) p.1 := by
  unfold stepP stepL
  by_cases h1 : p.1 = [] ∨ p.1 = [46]
  · rw [if_pos h1, if_pos h1]
  · rw [if_neg h1, if_neg h1]
    have e : (p.1 ≠ [46, 46] ∨ (r = false ∧ acc = []) ∨ acc.getLast?.map (·.1) = some [46, 46]) ↔ (p.1 ≠ [46, 46] ∨ (r = false ∧ acc.map (·.1) = []) ∨ (acc.map (·.1)).getLast? = some [46, 46]) := by
      rw [List.getLast?_map, List.map_eq_nil_iff]
    by_cases h2 : (p.1 ≠ [46, 46] ∨ (r = false ∧ acc = []) ∨ acc.getLast?.map (·.1) = some [46, 46])
    · rw [if_pos h2, if_pos (e.mp h2), List.map_append]; rfl
    · rw [if_neg h2, if_neg (fun h => h2 (e.mpr h)), List.map_dropLast]
theorem keptL_fst (r : Bool) (ps : List Pr) : (keptL r ps).map (·.1) = redL r (ps.map (·.1)) := by
  have key : ∀ (ps acc : List Pr), (ps.foldl (stepP r) acc).map (·.1) = (ps.map (·.1)).foldl (stepL r) (acc.map (·.1)) := by
    intro ps
    induction ps with
    | nil => intro acc; rfl
    | cons p q ih => intro acc; rw [List.foldl_cons, List.map_cons, List.foldl_cons, ih, stepP_fst]
  exact key ps []
noncomputable def namedB (p : Pr) : Bool := decide (p.1 ≠ [] ∧ p.1 ≠ [46])
theorem fold_filter (r : Bool) : ∀ (ps acc : List Pr), (ps.filter namedB).foldl (stepP r) acc = ps.foldl (stepP r) acc
  | [], acc => rfl
  | p :: q, acc => by
    rw [List.foldl_cons, List.filter_cons]
    cases h : namedB p with
    | true => rw [if_pos rfl, List.foldl_cons, fold_filter r q]
    | false =>
      rw [if_neg (by simp), fold_filter r q]
      have h' : p.1 = [] ∨ p.1 = [46] := by
        unfold namedB at h
        rw [decide_eq_false_iff_not] at h
        by_cases h1 : p.1 = []
        · exact .inl h1
        · refine .inr (Decidable.byContradiction fun h2 => h ⟨h1, h2⟩)
      rw [show stepP r acc p = acc by rw [stepP, if_pos h']]
/-- the invariant of the search for two dots -/
noncomputable def KInv (r : Bool) (target cur : List Pr) (place : Nat) : Prop :=
  (∀ k ≤ place, (cur.take k).foldl (stepP r) [] = cur.take k) ∧ cur.foldl (stepP r) [] = target ∧ ∀ p ∈ cur, ¬ (p.1 = [] ∨ p.1 = [46])
theorem KInv.start (r : Bool) (ps : List Pr) : KInv r (keptL r ps) (ps.filter namedB) 0 := by
  refine ⟨fun k hk => ?_, fold_filter r ps [], fun p hp => ?_⟩
  · obtain rfl : k = 0 := by omega
    rfl
  · have := (List.mem_filter.mp hp).2
    unfold namedB at this
    rw [decide_eq_true_eq] at this
    rintro (h | h)
    · exact this.1 h
    · exact this.2 h
theorem KInv.done {r : Bool} {target cur : List Pr} {place : Nat} (h : KInv r target cur place) (hp : cur.length ≤ place) : cur = target := by
  rw [← h.2.1]
  have := h.1 cur.length hp
  rw [List.take_length] at this
  exact this.symm
theorem take_last {cur : List Pr} {place : Nat} (h0 : place ≠ 0) (hl : place < cur.length) : (cur.take place).getLast? = cur[place - 1]? := by
  rw [List.getLast?_eq_getElem?, List.length_take, Nat.min_eq_left (by omega), List.getElem?_take]
  rw [if_pos (by omega)]
theorem KInv.next {r : Bool} {target cur : List Pr} {place : Nat} {p : Pr} (h : KInv r target cur place) (hp : cur[place]? = some p)
    (hc : p.1 ≠ [46, 46] ∨ (place = 0 ∧ r = false) ∨ (place ≠ 0 ∧ ∀ q, cur[place - 1]? = some q → q.1 = [46, 46])) : KInv r target cur (place + 1) := by
  obtain ⟨hl, he⟩ := List.getElem?_eq_some_iff.mp hp
  refine ⟨fun k hk => ?_, h.2.1, h.2.2⟩
  rcases Nat.lt_or_ge k (place + 1) with h1 | h1
  · exact h.1 k (by omega)
  · obtain rfl : k = place + 1 := by omega
    have ht : cur.take (place + 1) = cur.take place ++ [p] := by rw [List.take_add_one, hp]; rfl
    rw [ht, List.foldl_append, h.1 place (Nat.le_refl _), List.foldl_cons, List.foldl_nil]
    have hn := h.2.2 p (List.mem_of_getElem? hp)
    rw [stepP, if_neg hn, if_pos]
    rcases hc with hc | ⟨rfl, hr⟩ | ⟨h0, hq⟩
    · exact .inl hc
    · exact .inr (.inl ⟨hr, by simp⟩)
    · refine .inr (.inr ?_)
      rw [take_last h0 hl, List.getElem?_eq_getElem (by omega), Option.map_some]
      rw [hq _ (List.getElem?_eq_getElem (by omega))]
theorem KInv.cut {r : Bool} {target cur : List Pr} {place : Nat} {p : Pr} (h : KInv r target cur place) (hp : cur[place]? = some p) (hd : p.1 = [46, 46])
    (hc : (place = 0 ∧ r = true) ∨ (place ≠ 0 ∧ ∃ q, cur[place - 1]? = some q ∧ q.1 ≠ [46, 46])) : KInv r target (cur.take (place - 1) ++ cur.drop (place + 1)) 0 := by
  obtain ⟨hl, he⟩ := List.getElem?_eq_some_iff.mp hp
  refine ⟨fun k hk => ?_, ?_, fun q hq => ?_⟩
  · obtain rfl : k = 0 := by omega
    rfl
  · rw [List.foldl_append, h.1 (place - 1) (by omega), ← h.2.1]
    have e : cur = cur.take place ++ (p :: cur.drop (place + 1)) := by
      rw [← he, ← List.drop_eq_getElem_cons hl, List.take_append_drop]
    have e2 : cur.foldl (stepP r) [] = (p :: cur.drop (place + 1)).foldl (stepP r) (cur.take place) := by
      conv => lhs; rw [e]
      rw [List.foldl_append, h.1 place (Nat.le_refl _)]
    rw [e2, List.foldl_cons]
    congr 1
    have hn := h.2.2 p (List.mem_of_getElem? hp)
    rw [stepP, if_neg hn, if_neg, List.dropLast_eq_take, List.length_take, Nat.min_eq_left (by omega), List.take_take, Nat.min_eq_left (by omega)]
    rintro (h1 | ⟨h1, h2⟩ | h1)
    · exact h1 hd
    · rcases hc with ⟨rfl, hr⟩ | ⟨h0, _⟩
      · rw [h1] at hr; cases hr
      · have := congrArg List.length h2
        rw [List.length_take, Nat.min_eq_left (by omega)] at this
        exact h0 this
    · rcases hc with ⟨rfl, hr⟩ | ⟨h0, q, hq, hq2⟩
      · simp at h1
      · rw [take_last h0 hl, hq] at h1
        exact hq2 (by simpa using h1)
  · rcases List.mem_append.mp hq with hq | hq
    · exact h.2.2 q (List.mem_of_mem_take hq)
    · exact h.2.2 q (List.mem_of_mem_drop hq)
/-- tuples of two texts of the ledger -/
inductive PairsAre (news : List (Addr × Obj)) : List Value → List Pr → Prop
  | nil : PairsAre news [] []
  | cons {a : Addr} {t1 t2 : Tok} {p : Pr} {vs : List Value} {ps : List Pr} : (a, tupOf [.str (mkS p.1) t1, .str (mkS p.2) t2]) ∈ news → PairsAre news vs ps → PairsAre news (.ref a :: vs) (p :: ps)
theorem PairsAre.length {news : List (Addr × Obj)} {vs : List Value} {ps : List Pr} (h : PairsAre news vs ps) : vs.length = ps.length := by
  induction h with
  | nil => rfl
  | cons _ _ ih => rw [List.length_cons, List.length_cons, ih]
theorem PairsAre.mono {news news' : List (Addr × Obj)} {vs : List Value} {ps : List Pr} (h : PairsAre news vs ps) (hs : ∀ q ∈ news, q ∈ news') : PairsAre news' vs ps := by
  induction h with
  | nil => exact .nil
  | cons hm _ ih => exact .cons (hs _ hm) ih
theorem PairsAre.get {news : List (Addr × Obj)} {vs : List Value} {ps : List Pr} (h : PairsAre news vs ps) : ∀ (i : Nat) (p : Pr), ps[i]? = some p → ∃ a t1 t2, vs[i]? = some (.ref a) ∧ (a, tupOf [.str (mkS p.1) t1, .str (mkS p.2) t2]) ∈ news := by
  induction h with
  | nil => intro i p hp; simp at hp
  | cons hm _ ih =>
    intro i p hp
    cases i with
    | zero =>
      simp only [List.getElem?_cons_zero, Option.some.injEq] at hp ⊢
      subst hp
      exact ⟨_, _, _, rfl, hm⟩
    | succ i =>
      rw [List.getElem?_cons_succ] at hp ⊢
      exact ih i p hp
theorem PairsAre.take {news : List (Addr × Obj)} {vs : List Value} {ps : List Pr} (h : PairsAre news vs ps) (k : Nat) : PairsAre news (vs.take k) (ps.take k) := by
  induction h generalizing k with
  | nil => simp; exact .nil
  | cons hm _ ih =>
    cases k with
    | zero => exact .nil
    | succ k => exact .cons hm (ih k)
theorem PairsAre.drop {news : List (Addr × Obj)} {vs : List Value} {ps : List Pr} (h : PairsAre news vs ps) (k : Nat) : PairsAre news (vs.drop k) (ps.drop k) := by
  induction h generalizing k with
  | nil => simp; exact .nil
  | cons hm h ih =>
    cases k with
    | zero => exact .cons hm h
    | succ k => exact ih k
theorem PairsAre.append {news : List (Addr × Obj)} {vs ws : List Value} {ps qs : List Pr} (h : PairsAre news vs ps) (h2 : PairsAre news ws qs) : PairsAre news (vs ++ ws) (ps ++ qs) := by
  induction h with
  | nil => exact h2
  | cons hm _ ih => exact .cons hm ih
section
variable {prog : Program} {w : World} {A : Around} {E : Value → Shared → Prop} {s : Shared} {h₀ : Heap} {L : Addr} {m : Str → Option Value} {env : Env} {news nx : List (Addr × Obj)}
theorem item_pair {D : Addr} {vs : List Value} {cur : List Pr} {k : Nat} {i : Int} {u : Tok} {Q : Value → Shared → Prop} {value slice : PySem.Expr} (N : News h₀ L s.heap nx) (hm : (D, listOf vs.toArray k) ∈ nx) (hp : PairsAre news vs cur) (h0 : 0 ≤ i) (h1 : i < (cur.length : Int)) (hz : cur.length ≤ 10000)
    (h : ∀ a t1 t2 p, cur[i.toNat]? = some p → (a, tupOf [.str (mkS p.1) t1, .str (mkS p.2) t2]) ∈ news → Q (.ref a) s)
    (hs : subscripted slice false (.ref D) (.int i u) = operate [.ref D, .int i u] (getItem (.ref D) (.int i u)) := by with_unfolding_all rfl) :
    wpAny (model prog w) A (subscriptTail value slice (.ref D) (.int i u)) Q E s := by
  have hl : s.heap.IsList D vs.toArray := ⟨_, (N _ hm).1, rfl, k, rfl⟩
  have hi : i.toNat < cur.length := by omega
  obtain ⟨a, t1, t2, hv, hmem⟩ := hp.get i.toNat _ (List.getElem?_eq_getElem hi)
  exact tail_any hl.typeIs slot_list_getitem.lookup (wpAny_getItem_list hl h0 (by omega) (by simpa using hv) (h a t1 t2 _ (List.getElem?_eq_getElem hi) hmem)) hs
theorem item_fst {a : Addr} {x y : Str} {t1 t2 u : Tok} {Q : Value → Shared → Prop} {value slice : PySem.Expr} (N : News h₀ L s.heap nx) (hm : (a, tupOf [.str x t1, .str y t2]) ∈ nx) (h : Q (.str x t1) s)
    (hs : subscripted slice false (.ref a) (.int 0 u) = operate [.ref a, .int 0 u] (getItem (.ref a) (.int 0 u)) := by with_unfolding_all rfl) :
    wpAny (model prog w) A (subscriptTail value slice (.ref a) (.int 0 u)) Q E s :=
  item_tupleT (j := 0) ⟨_, (N _ hm).1, rfl, 0, rfl⟩ (by decide) (by decide) rfl rfl h hs
theorem item_snd {a : Addr} {x y : Str} {t1 t2 u : Tok} {Q : Value → Shared → Prop} {value slice : PySem.Expr} (N : News h₀ L s.heap nx) (hm : (a, tupOf [.str x t1, .str y t2]) ∈ nx) (h : Q (.str y t2) s)
    (hs : subscripted slice false (.ref a) (.int 1 u) = operate [.ref a, .int 1 u] (getItem (.ref a) (.int 1 u)) := by with_unfolding_all rfl) :
    wpAny (model prog w) A (subscriptTail value slice (.ref a) (.int 1 u)) Q E s :=
  item_tupleT (j := 1) ⟨_, (N _ hm).1, rfl, 0, rfl⟩ (by decide) (by decide) rfl rfl h hs
theorem len_pairs {D : Addr} {vs : List Value} {cur : List Pr} {k : Nat} {Q : Value → Shared → Prop} (N : News h₀ L s.heap nx) (hm : (D, listOf vs.toArray k) ∈ nx) (hp : PairsAre news vs cur) (hz : cur.length ≤ 10000)
    (h : ∀ t tk, Q (.int (cur.length : Int) t) { s with toks := tk }) : wpAny (model prog w) A (call (.builtin "len") [.ref D]) Q E s := by
  have hl : s.heap.IsList D vs.toArray := ⟨_, (N _ hm).1, rfl, k, rfl⟩
  have e : (vs.toArray.size : Int) = cur.length := by rw [List.size_toArray, hp.length]
  refine len_list hl (by omega) ?_
  rw [e]
  exact h _ _
theorem slice_to {Q : Value → Shared → Prop} {l : Addr} {vs : List Value} {n : Nat} {cur : List Pr} {i : Int} {t : Tok} {value slice : PySem.Expr} (F : Fr h₀ L s.heap m) (N : News h₀ L s.heap nx) (hm : (l, listOf vs.toArray n) ∈ nx) (hp : PairsAre news vs cur) (hz : cur.length ≤ 10000) (hi : 0 ≤ i)
    (h : ∀ D ws h', PairsAre news ws (cur.take i.toNat) → Fr h₀ L h' m → News h₀ L h' ((D, listOf ws.toArray 0) :: nx) → (∀ p ∈ nx, p.1 < D) → Q (.ref D) { s with heap := h' })
    (hs : subscripted slice false (.ref l) (.ref s.heap.objs.size) = operate [.ref s.heap.objs.size, .ref l] (getItem (.ref l) (.ref s.heap.objs.size))) (ht : ∀ r, letTemporaryGo value (.ref l) r = pure ()) :
    wpAny (model prog w) A (subscriptTail value slice (.ref l) (.ref s.heap.objs.size)) Q E { s with heap := s.heap.push { cls := .type "slice", data := .fields #[.none, .int i t, .none] } } := by
  have hl : s.heap.IsList l vs.toArray := ⟨_, (N _ hm).1, rfl, n, rfl⟩
  have e : (slicePick vs.toArray none (some i) none).toList = vs.take i.toNat := by
    have e : sliceBounds none (some i) none vs.toArray.size = (((0 : Nat) : Int), ((min i.toNat vs.toArray.size : Nat) : Int), 1) := by
      simp only [sliceBounds, Option.getD_none, show (1 : Int) > 0 by decide, if_true, if_neg (show ¬ (i < 0) by omega)]
      congr 1
      congr 1
      omega
    rw [kmk_pick_nat _ e]
    show (vs.drop 0).take (min i.toNat vs.toArray.size - 0) = _
    rw [List.drop_zero, Nat.sub_zero, List.size_toArray, kmk_take_min]
  exact kmk_slice_lit (zs := vs.take i.toNat) F N hl .none (.int _ _) e (fun D h' F' N' l1 => h D _ h' (hp.take _) F' N' l1) hs ht (by have : sizeLine = 2 ^ 24 := rfl; rw [List.size_toArray, hp.length]; omega)
theorem slice_fr {Q : Value → Shared → Prop} {l : Addr} {vs : List Value} {n : Nat} {cur : List Pr} {i : Int} {t : Tok} {value slice : PySem.Expr} (F : Fr h₀ L s.heap m) (N : News h₀ L s.heap nx) (hm : (l, listOf vs.toArray n) ∈ nx) (hp : PairsAre news vs cur) (hz : cur.length ≤ 10000) (hi : 0 ≤ i)
    (h : ∀ D ws h', PairsAre news ws (cur.drop i.toNat) → Fr h₀ L h' m → News h₀ L h' ((D, listOf ws.toArray 0) :: nx) → (∀ p ∈ nx, p.1 < D) → Q (.ref D) { s with heap := h' })
    (hs : subscripted slice false (.ref l) (.ref s.heap.objs.size) = operate [.ref s.heap.objs.size, .ref l] (getItem (.ref l) (.ref s.heap.objs.size))) (ht : ∀ r, letTemporaryGo value (.ref l) r = pure ()) :
    wpAny (model prog w) A (subscriptTail value slice (.ref l) (.ref s.heap.objs.size)) Q E { s with heap := s.heap.push { cls := .type "slice", data := .fields #[.int i t, .none, .none] } } := by
  have hl : s.heap.IsList l vs.toArray := ⟨_, (N _ hm).1, rfl, n, rfl⟩
  have e : (slicePick vs.toArray (some i) none none).toList = vs.drop i.toNat := by
    have e : sliceBounds (some i) none none vs.toArray.size = (((min i.toNat vs.toArray.size : Nat) : Int), ((vs.toArray.size : Nat) : Int), 1) := by
      simp only [sliceBounds, Option.getD_none, show (1 : Int) > 0 by decide, if_true, if_neg (show ¬ (i < 0) by omega)]
      congr 1
      omega
    rw [kmk_pick_nat _ e]
    show (vs.drop (min i.toNat vs.toArray.size)).take (vs.toArray.size - min i.toNat vs.toArray.size) = _
    rw [List.size_toArray, kmk_drop_min, List.take_of_length_le (by rw [List.length_drop]; omega)]
  exact kmk_slice_lit (zs := vs.drop i.toNat) F N hl (.int _ _) .none e (fun D h' F' N' l1 => h D _ h' (hp.drop _) F' N' l1) hs ht (by have : sizeLine = 2 ^ 24 := rfl; rw [List.size_toArray, hp.length]; omega)
theorem add_pairs {Q : Value → Shared → Prop} {a b : Addr} {vs ws : List Value} {n k : Nat} {c1 c2 : List Pr} (F : Fr h₀ L s.heap m) (N : News h₀ L s.heap nx) (ha : (a, listOf vs.toArray n) ∈ nx) (hb : (b, listOf ws.toArray k) ∈ nx) (h1 : PairsAre news vs c1) (h2 : PairsAre news ws c2) (hz : c1.length ≤ 10000) (hz2 : c2.length ≤ 10000)
    (h : ∀ D us h', PairsAre news us (c1 ++ c2) → Fr h₀ L h' m → News h₀ L h' ((D, listOf us.toArray 0) :: nx) → (∀ p ∈ nx, p.1 < D) → Q (.ref D) { s with heap := h' }) : wpAny (model prog w) A (binaryOp .Add (.ref a) (.ref b)) Q E s :=
  kmk_add_lit (its := vs.toArray) (its2 := ws.toArray) (zs := vs ++ ws) F N ⟨_, (N _ ha).1, rfl, n, rfl⟩ ⟨_, (N _ hb).1, rfl, k, rfl⟩ (by rw [List.toList_toArray, List.toList_toArray]) (fun D h' F' N' l1 => h D _ h' (h1.append h2) F' N' l1)
    (by have : sizeLine = 2 ^ 24 := rfl; rw [List.toList_toArray, List.toList_toArray, h1.length, h2.length]; omega)
end
end Mine
end
section
open PySem PySem.Calls PySem.W PyProof.Rows PySem.Spec
open PyProof.Rows.LCg PyProof.Rows.LCt
set_option Elab.async false
set_option maxRecDepth 100000
set_option maxHeartbeats 1000000
set_option linter.unusedVariables false
namespace Mine
noncomputable abbrev sKept : Str := Str.ofString "kept"
noncomputable abbrev sPlace : Str := Str.ofString "place"
section
variable {prog : Program} {w : World} {A : Around} {E : Value → Shared → Prop} {s : Shared} {h₀ : Heap} {L : Addr} {m : Str → Option Value} {env : Env} {news nx : List (Addr × Obj)}
theorem cEndP0 {I C D : Addr} {s₁ : Shared} {oI oC oD : Obj} {P : Prop} {S : List (Addr × Obj) → Prop} {h' : Heap} {tk : Nat} {y : Value}
    (F : Fr h₀ L h' m) (N : News h₀ L h' ((I, oI) :: (C, oC) :: (D, oD) :: nx)) (off : Off3 I C D nx) (hS : S nx) (hp : P) :
    CompEnd h₀ L m s₁ I oI C oC D oD S (fun _ news' => news' = nx ∧ P) y { s₁ with heap := h', toks := tk } := ⟨h', tk, nx, rfl, F, N, off, hS, rfl, hp⟩
theorem cEndP1 {I C D : Addr} {s₁ : Shared} {oI oC oD : Obj} {P : Prop} {S : List (Addr × Obj) → Prop} {h' : Heap} {tk : Nat} {v : Value}
    (F : Fr h₀ L h' m) (N : News h₀ L h' ((I, oI) :: (C, oC) :: (D, oD) :: nx)) (off : Off3 I C D nx) (hS : S nx) (hp : P) :
    CompEnd h₀ L m s₁ I oI C oC D oD S (fun y news' => news' = nx ∧ P ∧ y = v) v { s₁ with heap := h', toks := tk } := ⟨h', tk, nx, rfl, F, N, off, hS, rfl, hp, rfl⟩
theorem srcP_mk {ct elt : PySem.Expr} {x y : Str} {scope : Scope} {cl : List (Str × Addr)} {Q : Flow → Shared → Prop} {ax : Addr} {vs : List Value} {ps : List Pr} {k : Nat} (keep : Pr → Bool)
    (hh : A.handled = none) (F : Fr h₀ L s.heap m) (N : News h₀ L s.heap nx) (hm : (ax, listOf vs.toArray k) ∈ nx) (hp : PairsAre news vs ps) (hz : ps.length ≤ 10000)
    (turn : ∀ a t1 t2 p I oI C oC D m₂ ys h tk (E' : Value → Shared → Prop), (a, tupOf [.str (mkS p.1) t1, .str (mkS p.2) t2]) ∈ news → NsObj oC m₂ → m₂ x = some (.ref a) → Fr h₀ L h m → News h₀ L h ((I, oI) :: (C, oC) :: (D, lst ys) :: nx) → Off3 I C D nx → ((@Ne Nat I C) ∧ (@Ne Nat I D) ∧ (@Ne Nat C D)) → SrcAt h₀ ax vs.toArray nx →
      wpAny (model prog w) A (isTrue ct (compEnvC scope cl C env) (eval ct (compEnvC scope cl C env))) (fun ok s' => if ok = true then
        wpAny (model prog w) A (eval elt (compEnvC scope cl C env)) (CompEnd h₀ L m { s with heap := h, toks := tk } I oI C oC D (lst ys) (SrcAt h₀ ax vs.toArray) (fun y news' => news' = nx ∧ keep p = true ∧ y = .ref a)) E' s'
        else CompEnd h₀ L m { s with heap := h, toks := tk } I oI C oC D (lst ys) (SrcAt h₀ ax vs.toArray) (fun _ news' => news' = nx ∧ keep p = false) Value.none s') E' { s with heap := h, toks := tk })
    (fin : ∀ ws D h tk, PairsAre news ws (ps.filter keep) → Fr h₀ L h (fun z => if z = y then some (.ref D) else m z) → News h₀ L h ((D, listOf ws.toArray ws.length) :: nx) → Q .next { s with heap := h, toks := tk }) :
    CompSrcT prog w A h₀ L m env ct elt x scope cl (fun s₂ => FinA h₀ L m s₂ y Q) (.ref ax) s := by
  have hvl := hp.length
  refine CompSrcT.ledger hh F N hm (by have : sizeLine = 2 ^ 24 := rfl; rw [List.size_toArray]; omega) (fun hp' => ?_)
  have key : ∀ (j i : Nat) (ys : List Value), i + j = ps.length → PairsAre news ys ((ps.take i).filter keep) →
      CompRestT prog w A h₀ L m env ct elt x scope cl { s with heap := hp' } (SrcAt h₀ ax vs.toArray) (fun i v => vs.toArray[i]? = some v) (FinA h₀ L m { s with heap := hp' } y Q) j i ys nx := by
    intro j
    induction j with
    | zero =>
      intro i ys hi hy
      have e : i = ps.length := by omega
      subst e
      rw [List.take_length] at hy
      exact CompRestT.zero fun D h tk F' N' o => fin ys D h tk hy F' N'
    | succ j ih =>
      intro i ys hi hy
      refine CompRestT.succ ?_
      intro v I oI C oC D m₂ h tk E' hv hC hx F' N' off ne
      have hv' : vs[i]? = some v := by simpa using hv
      obtain ⟨a, t1, t2, hv2, hmem⟩ := hp.get i _ (List.getElem?_eq_getElem (show i < ps.length by omega))
      rw [hv2] at hv'
      cases hv'
      have ht : ps.take (i + 1) = ps.take i ++ [ps[i]'(by omega)] := by rw [List.take_add_one, List.getElem?_eq_getElem (by omega)]; rfl
      refine wpAny_mono (turn a t1 t2 _ I oI C oC D m₂ ys h tk E' hmem hC hx F' N' off ne (.inr ⟨_, hm, rfl, k, rfl⟩)) (fun ok s' hq => ?_) fun _ _ e => e
      cases ok with
      | true =>
        simp only [if_true] at hq ⊢
        refine wpAny_mono hq (fun y s₂ hq => ?_) fun _ _ e => e
        obtain ⟨h', tk', nw, e, F₂, N₂, off₂, hS, rfl, hk, rfl⟩ := hq
        refine ⟨h', tk', nw, e, F₂, N₂, off₂, hS, ?_⟩
        refine ih (i + 1) _ (by omega) ?_
        rw [ht, List.filter_append]
        simp only [List.filter_cons, List.filter_nil, hk, if_true]
        exact hy.append (.cons hmem .nil)
      | false =>
        simp only [Bool.false_eq_true, if_false] at hq ⊢
        obtain ⟨h', tk', nw, e, F₂, N₂, off₂, hS, rfl, hk⟩ := hq
        refine ⟨h', tk', nw, e, F₂, N₂, off₂, hS, ?_⟩
        refine ih (i + 1) _ (by omega) ?_
        rw [ht, List.filter_append]
        simp only [List.filter_cons, List.filter_nil, hk, Bool.false_eq_true, if_false, List.append_nil]
        exact hy
  have := key ps.length 0 [] (by omega) (by simp; exact .nil)
  rw [show vs.toArray.size = ps.length by rw [List.size_toArray, hvl]]
  exact this
end
section
variable {prog : Program} {w : World} {A : Around} {E : Value → Shared → Prop} {Q : Flow → Shared → Prop} {s : Shared} {env : Env} {h₀ : Heap} {L : Addr}
noncomputable abbrev mapK (m₀ : Str → Option Value) (D : Addr) (place : Int) (tp : Tok) : Str → Option Value := fun z => if z = sKept then some (.ref D) else if z = sPlace then some (.int place tp) else m₀ z
noncomputable def InvKept (r : Bool) (target : List Pr) (news : List (Addr × Obj)) (m₀ : Str → Option Value) (n : Nat) (m : Str → Option Value) (nx : List (Addr × Obj)) : Prop :=
  ∃ cur vs k D place, nx = (D, listOf vs.toArray k) :: news ∧ PairsAre news vs cur ∧ KInv r target cur place ∧ place ≤ cur.length ∧ cur.length ≤ 10000 ∧ n = 100000 * cur.length + (cur.length - place) ∧ m sKept = some (.ref D) ∧ (∃ t, m sPlace = some (.int (place : Int) t)) ∧ ∀ z, z ≠ sKept → z ≠ sPlace → m z = m₀ z
noncomputable def StepKept (h₀ : Heap) (L : Addr) (s : Shared) (r : Bool) (target : List Pr) (news : List (Addr × Obj)) (m₀ : Str → Option Value) (Q : Flow → Shared → Prop) (cur : List Pr) (place : Nat) (f : Flow) (s₂ : Shared) : Prop := WhileStep2 h₀ L s (InvKept r target news m₀) Q (100000 * cur.length + (cur.length - place)) f s₂
theorem while_kept {test : PySem.Expr} {body : List Stmt} {pos : Pos} {r : Bool} {target cur0 : List Pr} {vs0 : List Value} {k0 : Nat} {D0 : Addr} {news : List (Addr × Obj)} {m₀ : Str → Option Value} {t0 : Tok} (F : Fr h₀ L s.heap m₀) (N : News h₀ L s.heap ((D0, listOf vs0.toArray k0) :: news))
    (e1 : m₀ sKept = some (.ref D0)) (e2 : m₀ sPlace = some (.int 0 t0)) (hp : PairsAre news vs0 cur0) (hk : KInv r target cur0 0) (hz : cur0.length ≤ 10000)
    (turn : ∀ (cur : List Pr) vs k D (place : Nat) tp h tk, PairsAre news vs cur → KInv r target cur place → place ≤ cur.length → cur.length ≤ 10000 → Fr h₀ L h (mapK m₀ D (place : Int) tp) → News h₀ L h ((D, listOf vs.toArray k) :: news) →
      wpAny (model prog w) A (isTrue test env (eval test env)) (fun b s₂ =>
        if b = true then wpAny (model prog w) A (execs body env) (StepKept h₀ L s r target news m₀ Q cur place) E s₂ else Q .next s₂) E { s with heap := h, toks := tk })
    (hE : PassesOwn (model prog w) A env E := by passes_own) :
    wpAny (model prog w) A (exec (.While test body [] pos) env) Q E s := by
  refine While_inv2 (InvKept r target news m₀) F N ⟨cur0, vs0, k0, D0, 0, rfl, hp, hk, Nat.zero_le _, hz, rfl, e1, ⟨_, e2⟩, fun _ _ _ => rfl⟩ ?_ hE
  rintro n m₁ news₁ h₁ tk₁ F₁ N₁ ⟨cur, vs, k, D, place, rfl, hp, hk, hpl, hz, rfl, hD, ⟨tp, hpp⟩, hm⟩
  have em : m₁ = mapK m₀ D (place : Int) tp := by
    funext z
    show m₁ z = (if z = sKept then some (.ref D) else if z = sPlace then some (.int (place : Int) tp) else m₀ z)
    by_cases h1 : z = sKept
    · rw [if_pos h1, h1]; exact hD
    · rw [if_neg h1]
      by_cases h2 : z = sPlace
      · rw [if_pos h2, h2]; exact hpp
      · rw [if_neg h2]; exact hm z h1 h2
  rw [em] at F₁
  exact turn cur vs k D place tp h₁ tk₁ hp hk hpl hz F₁ N₁
theorem stepK1 {r : Bool} {target cur : List Pr} {place : Nat} {vs : List Value} {k : Nat} {D : Addr} {tp : Tok} {news news' : List (Addr × Obj)} {m₀ m' : Str → Option Value} {h' : Heap} {tk : Nat} (hp : PairsAre news vs cur) (hk : KInv r target cur (place + 1)) (hl : place < cur.length) (hz : cur.length ≤ 10000)
    (F : Fr h₀ L h' m') (N : News h₀ L h' news') (hs : ∀ q ∈ (D, listOf vs.toArray k) :: news, q ∈ news') (e1 : m' sKept = some (.ref D)) (e2 : m' sPlace = some (.int ((place : Int) + 1) tp)) (hm : ∀ z, z ≠ sKept → z ≠ sPlace → m' z = m₀ z) :
    StepKept h₀ L s r target news m₀ Q cur place .next { s with heap := h', toks := tk } :=
  ⟨h', tk, m', _, 100000 * cur.length + (cur.length - (place + 1)), rfl, F, fun q hq => N q (hs q hq), by omega, cur, vs, k, D, place + 1, rfl, hp, hk, hl, hz, rfl, e1, ⟨tp, by rw [e2]; norm_cast⟩, hm⟩
theorem stepK2 {r : Bool} {target cur : List Pr} {place : Nat} {us : List Value} {k : Nat} {D : Addr} {tp : Tok} {i : Int} {news news' : List (Addr × Obj)} {m₀ m' : Str → Option Value} {h' : Heap} {tk : Nat} (hp : PairsAre news us (cur.take i.toNat ++ cur.drop ((place : Int) + 1).toNat)) (hi : i.toNat = place - 1) (hk : KInv r target (cur.take (place - 1) ++ cur.drop (place + 1)) 0) (hl : place < cur.length) (hz : cur.length ≤ 10000)
    (F : Fr h₀ L h' m') (N : News h₀ L h' news') (hs : ∀ q ∈ (D, listOf us.toArray k) :: news, q ∈ news') (e1 : m' sKept = some (.ref D)) (e2 : m' sPlace = some (.int 0 tp)) (hm : ∀ z, z ≠ sKept → z ≠ sPlace → m' z = m₀ z) :
    StepKept h₀ L s r target news m₀ Q cur place .next { s with heap := h', toks := tk } := by
  rw [hi, show ((place : Int) + 1).toNat = place + 1 by omega] at hp
  have hlen : (cur.take (place - 1) ++ cur.drop (place + 1)).length < cur.length := by
    rw [List.length_append, List.length_take, List.length_drop]; omega
  exact ⟨h', tk, m', _, 100000 * (cur.take (place - 1) ++ cur.drop (place + 1)).length + ((cur.take (place - 1) ++ cur.drop (place + 1)).length - 0), rfl, F, fun q hq => N q (hs q hq), by omega, _, us, k, D, 0, rfl, hp, hk, Nat.zero_le _, by omega, rfl, e1, ⟨tp, e2⟩, hm⟩
end
end Mine
end
section
open PySem PySem.Calls PySem.W PyProof.Rows
set_option Elab.async false
set_option maxRecDepth 100000
set_option maxHeartbeats 0
set_option linter.unusedVariables false
namespace Mine
theorem fillKK : (fun P => K P) = (fun P => K P) ∧ PySem.Challenge.rw_pd0025_01 = PySem.Challenge.rw_pd0025_01 := by
  k_fill
  exact ⟨rfl, rfl⟩
theorem kdone {r : Bool} {target cur : List Pr} {place : Nat} {news : List (Addr × Obj)} {vs : List Value} (hk : KInv r target cur place) (h : (cur.length : Int) ≤ (place : Int)) (hp : PairsAre news vs cur) : PairsAre news vs target := hk.done (by omega) ▸ hp
theorem nbs {p : Pr} : ([Str.ofString "", Str.ofString "."].any fun x => x == mkS p.1) = decide (p.1 = [] ∨ p.1 = [46]) := by
  have h1 : (Str.ofString "" == mkS p.1) = decide (p.1 = []) := by
    rw [Bool.eq_iff_iff, beq_str, empty_is, toL_mkS, toL_mkS, decide_eq_true_eq]
    exact ⟨fun h => h.symm, fun h => h.symm⟩
  have h2 : (Str.ofString "." == mkS p.1) = decide (p.1 = [46]) := by
    rw [Bool.eq_iff_iff, beq_str, dot_is, toL_mkS, toL_mkS, decide_eq_true_eq]
    exact ⟨fun h => h.symm, fun h => h.symm⟩
  simp only [List.any_cons, List.any_nil, Bool.or_false, h1, h2, Bool.decide_or]
theorem nb1 {p : Pr} (h : ([Str.ofString "", Str.ofString "."].any fun x => x == mkS p.1) = true) : namedB p = false := by
  rw [nbs, decide_eq_true_eq] at h
  unfold namedB
  rw [decide_eq_false_iff_not]
  rintro ⟨h1, h2⟩
  rcases h with h | h
  · exact h1 h
  · exact h2 h
theorem nb0 {p : Pr} (h : ([Str.ofString "", Str.ofString "."].any fun x => x == mkS p.1) = false) : namedB p = true := by
  rw [nbs, decide_eq_false_iff_not] at h
  unfold namedB
  rw [decide_eq_true_eq]
  exact ⟨fun h1 => h (.inl h1), fun h2 => h (.inr h2)⟩
theorem kstart {r : Bool} (hmk : Mk r) (ps : List Pr) : KInv r (keptL r ps) (ps.filter namedB) 0 := KInv.start r ps
section
variable {r : Bool} {target cur : List Pr} {place : Nat} {p q : Pr} {r0 : List Nat}
theorem kn1 (hk : KInv r target cur place) (hp : cur[(place : Int).toNat]? = some p) (h : (mkS p.1 == Str.ofString "..") = false) : KInv r target cur (place + 1) := by
  rw [Int.toNat_natCast] at hp
  exact hk.next hp (.inl (isDDF h))
theorem kn2 (hk : KInv r target cur place) (hp : cur[(place : Int).toNat]? = some p) (h0 : (place : Int) ≠ 0) (hq : cur[((place : Int) - 1).toNat]? = some q) (h : (mkS q.1 != Str.ofString "..") = false) : KInv r target cur (place + 1) := by
  rw [Int.toNat_natCast] at hp
  rw [show ((place : Int) - 1).toNat = place - 1 by omega] at hq
  exact hk.next hp (.inr (.inr ⟨by omega, fun q' hq' => by rw [hq] at hq'; cases hq'; exact neDDF h⟩))
theorem empF {r0 : List Nat} (h : (mkS r0 != Str.ofString "") = false) : r0 = [] := by
  rw [bne_str_f, toL_mkS, empty_is, toL_mkS] at h; exact h
theorem empT {r0 : List Nat} (h : (mkS r0 != Str.ofString "") = true) : r0 ≠ [] := by
  rw [bne_str, toL_mkS, empty_is, toL_mkS] at h; exact h
theorem kn3 (hk : KInv (decide (r0 ≠ [])) target cur place) (hp : cur[(place : Int).toNat]? = some p) (h0 : (place : Int) = 0) (h : (mkS r0 != Str.ofString "") = false) : KInv (decide (r0 ≠ [])) target cur (place + 1) := by
  rw [Int.toNat_natCast] at hp
  exact hk.next hp (.inr (.inl ⟨by omega, by simp [empF h]⟩))
theorem kc1 (hk : KInv r target cur place) (hp : cur[(place : Int).toNat]? = some p) (hd : (mkS p.1 == Str.ofString "..") = true) (h0 : (place : Int) ≠ 0) (hq : cur[((place : Int) - 1).toNat]? = some q) (h : (mkS q.1 != Str.ofString "..") = true) : KInv r target (cur.take (place - 1) ++ cur.drop (place + 1)) 0 := by
  rw [Int.toNat_natCast] at hp
  rw [show ((place : Int) - 1).toNat = place - 1 by omega] at hq
  exact hk.cut hp (isDD hd) (.inr ⟨by omega, q, hq, neDD h⟩)
theorem kc2 (hk : KInv (decide (r0 ≠ [])) target cur place) (hp : cur[(place : Int).toNat]? = some p) (hd : (mkS p.1 == Str.ofString "..") = true) (h0 : (place : Int) = 0) (h : (mkS r0 != Str.ofString "") = true) : KInv (decide (r0 ≠ [])) target (cur.take (place - 1) ++ cur.drop (place + 1)) 0 := by
  rw [Int.toNat_natCast] at hp
  exact hk.cut hp (isDD hd) (.inl ⟨by omega, by simpa using empT h⟩)
end
local macro_rules | `(tactic| k_mem) => `(tactic| assumption)
theorem kept_ok (w : World) (news : List (Addr × Obj)) (r : List Nat) (t : Tok) (l : Addr) (vs : List Value) (k : Nat) (ps : List Pr) (hl : (l, listOf vs.toArray k) ∈ news) (hp : PairsAre news vs ps) (hz : ps.length ≤ 10000) (hr : (mkS r).length ≤ 10000) : Ctx0 w news 20 fun A s h₀ L m Q E =>
    (∀ (D : Addr) (ws : List Value) (k : Nat) (h' : Heap) (tk' : Nat), PairsAre news ws (keptL (decide (r ≠ [])) ps) → Fr h₀ L h' m → News h₀ L h' ((D, listOf ws.toArray k) :: news) → Q (.ref D) { s with heap := h', toks := tk' }) →
    wpAny (model rowR.prog w) A (call (.ref 245) [.str (mkS r) t, .ref l]) Q E s := by
  k_with_none
  (k_with "CompEnd" => (k_dflt (first
  | (refine' cEndP0 ?Fe9 ?Ne9 ?off9 ?S9 ?r9; (case r9 => exact nb1 (by assumption)); (case Fe9 => k_asm); (case Ne9 => first | k_asm | exact drop1 (by k_asm)); (case off9 => assumption); (case S9 => assumption))
  | (refine' cEndP1 ?Fe9 ?Ne9 ?off9 ?S9 ?r9; (case r9 => exact nb0 (by assumption)); (case Fe9 => k_asm); (case Ne9 => first | k_asm | exact drop1 (by k_asm)); (case off9 => assumption); (case S9 => assumption)))))
  (k_with "exec Assign cons ListComp" => (k_here; k_dflt (refine LCt.Assign_ListComp_T (F₀ := by k_asm) (by rfl) (by with_unfolding_all rfl) (by with_unfolding_all rfl) (by decide) (by rfl) (by decide) (by rfl) (by rfl) (by rfl) ?_)))
  (k_with "CompSrcT" => (k_here; k_dflt (refine' srcP_mk namedB ?hhq9 ?Fq9 ?Nq9 ?mq9 ?pq9 ?zq9 (fun a9 t9 u9 p9 I9 oI9 C9 oC9 D9 m9 ys9 h9 tk9 E9 hm9 hC9 hx9 F9 N9 off9 ne9 hS9 => ?_) (fun ws9 D9 h9 tk9 hw9 F9 N9 => ?_); (case hhq9 => rfl); (case Fq9 => k_asm); (case Nq9 => k_asm); (case mq9 => k_mem); (case pq9 => with_reducible assumption); (case zq9 => assumption)); (all_goals (try dsimp only)); (all_goals (try k_fold))))
  (k_with "subscriptTail" => (k_here; (with_reducible show wpAny _ _ (subscriptTail _ _ (Value.ref _) (Value.int 0 _)) _ _ _); k_dflt (refine' item_fst ?Nq9 ?mq9 ?_ ?hsq9; (case Nq9 => k_asm); (case mq9 => k_mem); (case hsq9 => with_unfolding_all rfl))))
  (k_with "subscriptTail" => (k_here; (with_reducible show wpAny _ _ (subscriptTail _ _ (Value.ref _) (Value.int _ _)) _ _ _); (fail_if_success (with_reducible show wpAny _ _ (subscriptTail _ _ (Value.ref _) (Value.int 0 _)) _ _ _)); k_dflt (refine' item_pair ?Nq9 ?mq9 ?pq9 ?aq9 ?bq9 ?zq9 ?_ ?hsq9; (case Nq9 => k_asm); (case mq9 => k_mem); (case pq9 => with_reducible assumption); (case aq9 => omega); (case bq9 => omega); (case zq9 => with_reducible assumption); (case hsq9 => with_unfolding_all rfl)); intro a9 t9 u9 p9 hc9 hm9))
  (k_with "call builtin:len" => (k_here; (show wpAny _ _ (call (Value.builtin "len") [Value.ref _]) _ _ _); k_dflt (refine' len_pairs ?Nq9 ?mq9 ?pq9 ?zq9 ?_; (case Nq9 => k_asm); (case mq9 => k_mem); (case pq9 => with_reducible assumption); (case zq9 => assumption)); intro t9 tk9; (try dsimp only); (try k_fold)))
  (k_with "subscriptTail Name Slice ref ref" => (k_here; k_dflt (first
  | (refine' slice_to ?Fq9 ?Nq9 ?mq9 ?pq9 ?zq9 ?iq9 ?_ ?sq9 ?tq9; (case Fq9 => k_asm); (case Nq9 => k_asm); (case mq9 => k_mem); (case pq9 => with_reducible assumption); (case zq9 => assumption); (case iq9 => (first | omega | (split <;> omega))); (case sq9 => with_unfolding_all rfl); (case tq9 => kmk_pure))
  | (refine' slice_fr ?Fq9 ?Nq9 ?mq9 ?pq9 ?zq9 ?iq9 ?_ ?sq9 ?tq9; (case Fq9 => k_asm); (case Nq9 => k_asm); (case mq9 => k_mem); (case pq9 => with_reducible assumption); (case zq9 => assumption); (case iq9 => omega); (case sq9 => with_unfolding_all rfl); (case tq9 => kmk_pure))); intro D9 ws9 h9 hw9 F9 N9 l1; (try k_lt l1); (try dsimp only); (try k_fold)))
  (k_with "binaryOp Add ref ref" => (k_here; k_dflt (refine' add_pairs ?Fq9 ?Nq9 ?aq9 ?bq9 ?pq9 ?qq9 ?zq9 ?z2q9 ?_; (case Fq9 => k_asm); (case Nq9 => k_asm); (case aq9 => k_mem); (case bq9 => k_mem); (case pq9 => with_reducible assumption); (case qq9 => with_reducible assumption); (case zq9 => (rw [List.length_take]; omega)); (case z2q9 => (rw [List.length_drop]; omega))); intro D9 us9 h9 hw9 F9 N9 l1; (try k_lt l1); (try dsimp only); (try k_fold)))
  (k_with "exec While Compare cons nil" => (k_here; (rename Fr _ _ _ _ => lF'); (rename News _ _ _ _ => lN'); (with_unfolding_all refine' while_kept lF' lN' ?e1q9 ?e2q9 ?pq9 ?kq9 ?zq9 (fun cur9 vs9 k9 D9 pl9 tp9 h9 tk9 hp9 hk9 hl9 hz9 F9 N9 => ?_) ?kEq9); (case kEq9 => passes_own); (case e1q9 => exact rfl); (case e2q9 => exact rfl); (case pq9 => with_reducible assumption); (case kq9 => exact kstart (by assumption) _); (case zq9 => exact Nat.le_trans (List.length_filter_le _ _) (by assumption)); clear lF' lN'; (all_goals (try dsimp only)); (all_goals (try k_fold))))
  (k_with "StepKept" => (k_dflt (first
  | (refine' stepK1 ?pp9 ?kk9 ?ll9 ?zz9 ?FF9 ?NN9 ?ss9 ?ee9 ?ff9 ?hh9; (case pp9 => with_reducible assumption); (case kk9 => first | exact kn1 (by with_reducible assumption) (by with_reducible assumption) (by with_reducible assumption) | exact kn2 (by with_reducible assumption) (by with_reducible assumption) (by with_reducible assumption) (by with_reducible assumption) (by with_reducible assumption) | exact kn3 (by with_reducible assumption) (by with_reducible assumption) (by with_reducible assumption) (by with_reducible assumption)); (case ll9 => omega); (case zz9 => with_reducible assumption); (case FF9 => k_asm); (case NN9 => k_asm); (case ss9 => first | exact fun q hq => hq | exact fun q hq => .tail _ hq | exact fun q hq => .tail _ (.tail _ hq)); (case ee9 => exact rfl); (case ff9 => exact rfl); (case hh9 => (intro z hz1 hz2; first | rfl | (simp only [if_neg hz1, if_neg hz2]; done))))
  | (refine' stepK2 ?pp9 ?ii9 ?kk9 ?ll9 ?zz9 ?FF9 ?NN9 ?ss9 ?ee9 ?ff9 ?hh9; (case pp9 => with_reducible assumption); (case ii9 => first | omega | (split <;> omega)); (case kk9 => first | exact kc1 (by with_reducible assumption) (by with_reducible assumption) (by with_reducible assumption) (by with_reducible assumption) (by with_reducible assumption) (by with_reducible assumption) | exact kc2 (by with_reducible assumption) (by with_reducible assumption) (by with_reducible assumption) (by with_reducible assumption) (by with_reducible assumption)); (case ll9 => omega); (case zz9 => with_reducible assumption); (case FF9 => k_asm); (case NN9 => k_asm); (case ss9 => exact fun q hq => (List.mem_cons.mp hq).elim (fun h => h ▸ .head _) (fun h => by repeat' (first | exact h | apply List.Mem.tail))); (case ee9 => exact rfl); (case ff9 => exact rfl); (case hh9 => (intro z hz1 hz2; first | rfl | (simp only [if_neg hz1, if_neg hz2]; done)))))))
  w_on
  intro dp un gd cn cs a ccd cl outer A₀ base h₀ L m mg mb mean s Q E B F X N T hcs hdp hun hret
  refine wpAny_call ?_
  k_dflt cell_enter
  have hmk : Mk (decide (r ≠ [])) := True.intro
  k_steps
  all_goals (first | exact hret _ _ _ _ _ (kdone (by with_reducible assumption) (by omega) (by with_reducible assumption)) (by k_asm) (by k_asm))
end Mine
end
section
open PySem PySem.Calls PySem.W PyProof.Rows PySem.Spec
set_option Elab.async false
set_option maxRecDepth 100000
set_option maxHeartbeats 1000000
set_option linter.unusedVariables false
namespace Mine
noncomputable def constPairs : List PySem.Expr → Option (List (Int × Str))
  | [] => some []
  | .Tuple [.Constant (.int c) _ _, .Constant (.str p) _ _] _ _ :: r => (constPairs r).map ((c, p) :: ·)
  | _ => none
/-- tuples of an int and a text of the ledger -/
inductive CPairs (news : List (Addr × Obj)) : List Value → List (Int × Str) → Prop
  | nil : CPairs news [] []
  | cons {a : Addr} {t1 t2 : Tok} {c : Int} {p : Str} {vs : List Value} {ps : List (Int × Str)} : (a, tupOf [.int c t1, .str p t2]) ∈ news → CPairs news vs ps → CPairs news (.ref a :: vs) ((c, p) :: ps)
theorem CPairs.length {news : List (Addr × Obj)} {vs : List Value} {ps : List (Int × Str)} (h : CPairs news vs ps) : vs.length = ps.length := by
  induction h with
  | nil => rfl
  | cons _ _ ih => rw [List.length_cons, List.length_cons, ih]
theorem CPairs.mono {news news' : List (Addr × Obj)} {vs : List Value} {ps : List (Int × Str)} (h : CPairs news vs ps) (hs : ∀ q ∈ news, q ∈ news') : CPairs news' vs ps := by
  induction h with
  | nil => exact .nil
  | cons hm _ ih => exact .cons (hs _ hm) ih
theorem CPairs.get {news : List (Addr × Obj)} {vs : List Value} {ps : List (Int × Str)} (h : CPairs news vs ps) : ∀ (i : Nat) (p : Int × Str), ps[i]? = some p → ∃ a t1 t2, vs[i]? = some (.ref a) ∧ (a, tupOf [.int p.1 t1, .str p.2 t2]) ∈ news := by
  induction h with
  | nil => intro i p hp; simp at hp
  | cons hm _ ih =>
    intro i p hp
    cases i with
    | zero =>
      simp only [List.getElem?_cons_zero, Option.some.injEq] at hp ⊢
      subst hp
      exact ⟨_, _, _, rfl, hm⟩
    | succ i =>
      rw [List.getElem?_cons_succ] at hp ⊢
      exact ih i p hp
section
variable {prog : Program} {w : World} {A : Around} {E : Value → Shared → Prop} {h₀ : Heap} {L : Addr} {m : Str → Option Value} {env : Env}
theorem spliced_cp {pos : Pos} : ∀ (elts : List PySem.Expr) (cs : List (Int × Str)) (_ : constPairs elts = some cs) {s : Shared} {nx : List (Addr × Obj)} {Q : List Value → Shared → Prop} (_ : Fr h₀ L s.heap m) (_ : News h₀ L s.heap nx)
    (_ : ∀ vs h' tk nx', CPairs nx' vs cs → (∀ q ∈ nx, q ∈ nx') → Fr h₀ L h' m → News h₀ L h' nx' → Q vs { s with heap := h', toks := tk }), wpAny (model prog w) A (spliced (backTo pos (starEach elts env))) Q E s
  | [], cs, hc, s, nx, Q, F, N, hQ => by
    cases hc
    exact Calls.spliced_nil (hQ [] s.heap s.toks nx .nil (fun _ h => h) F N)
  | e :: r, cs, hc, s, nx, Q, F, N, hQ => by
    unfold constPairs at hc
    split at hc
    · rename_i h; cases h
    · rename_i c k1 p1 p k2 p2 k3 p3 r' h
      cases h
      obtain ⟨cs', hr, rfl⟩ := Option.map_eq_some_iff.mp hc
      refine Calls.spliced_cons (Tuple_ (k := k3) (Calls.spliced_cons (wpAny_Constant_int (k := k1) (pos := p1) (Calls.spliced_cons (Calls.Constant_str (k := k2) (pos := p2) (Calls.spliced_nil (newTuple_N F N (fun h' F' N' => ?_) (by have : sizeLine = 2 ^ 24 := rfl; show 2 ≤ sizeLine; omega))))))))
      refine spliced_cp r cs' hr (s := { s with heap := h', toks := s.toks + 1 + 1 }) F' N' (fun vs h2 tk nx' hcp hs F2 N2 => ?_)
      exact hQ _ h2 tk nx' (.cons (hs _ (.head _)) hcp) (fun q hq => hs q (.tail _ hq)) F2 N2
    · cases hc
theorem tuple_cp {elts : List PySem.Expr} {cs : List (Int × Str)} {k : Nat} {pos : Pos} {s : Shared} {nx : List (Addr × Obj)} {Q : Value → Shared → Prop} (hc : constPairs elts = some cs) (hl : cs.length ≤ 1000) (F : Fr h₀ L s.heap m) (N : News h₀ L s.heap nx)
    (h : ∀ T vs h' tk nx', CPairs nx' vs cs → (T, tupOf vs) ∈ nx' → (∀ q ∈ nx, q ∈ nx') → Fr h₀ L h' m → News h₀ L h' nx' → Q (.ref T) { s with heap := h', toks := tk }) : wpAny (model prog w) A (eval (.Tuple elts k pos) env) Q E s := by
  refine Tuple_ (spliced_cp elts cs hc F N (fun vs h' tk nx' hcp hs F' N' => ?_))
  refine newTuple_N F' N' (fun h2 F2 N2 => ?_) (by have : sizeLine = 2 ^ 24 := rfl; rw [hcp.length]; omega)
  exact h _ vs h2 tk _ (hcp.mono fun q hq => .tail _ hq) (.head _) (fun q hq => .tail _ (hs q hq)) F2 N2
theorem item_cp {T : Addr} {vs : List Value} {cs : List (Int × Str)} {nx : List (Addr × Obj)} {i : Int} {u : Tok} {s : Shared} {Q : Value → Shared → Prop} {value slice : PySem.Expr} (N : News h₀ L s.heap nx) (hm : (T, tupOf vs) ∈ nx) (hp : CPairs nx vs cs) (h0 : 0 ≤ i) (h1 : i < (cs.length : Int)) (hz : cs.length ≤ 1000)
    (h : ∀ a t1 t2 p, cs[i.toNat]? = some p → (a, tupOf [.int p.1 t1, .str p.2 t2]) ∈ nx → Q (.ref a) s)
    (hs : subscripted slice false (.ref T) (.int i u) = operate [.ref T, .int i u] (getItem (.ref T) (.int i u)) := by with_unfolding_all rfl) :
    wpAny (model prog w) A (subscriptTail value slice (.ref T) (.int i u)) Q E s := by
  have hi : i.toNat < cs.length := by omega
  obtain ⟨a, t1, t2, hv, hmem⟩ := hp.get i.toNat _ (List.getElem?_eq_getElem hi)
  refine item_tupleT (j := i.toNat) (l := vs) ⟨_, (N _ hm).1, rfl, 0, rfl⟩ (by omega) (by omega) ?_ hv (h a t1 t2 _ (List.getElem?_eq_getElem hi) hmem) hs
  unfold seqIndex?
  rw [hp.length]
  simp only [if_neg (show ¬ i < 0 by omega)]
  rw [if_pos (by simp [h0, h1])]
end
/-- the ten signs that mean two signs to four, and six that mean themselves -/
noncomputable def specTab : List (Nat × List Nat) := [(223, [115, 115]), (13255, [99, 111, 46]), (13254, [99, 8725, 107, 103]), (64259, [102, 102, 105]), (8470, [110, 111]), (890, [32, 953]), (329, [700, 110]), (7834, [97, 702]), (304, [105, 775]), (8481, [116, 101, 108]),
  (8229, [8229]), (8228, [8228]), (65294, [65294]), (65295, [65295]), (8725, [8725]), (8260, [8260])]
noncomputable def specOf (n : Int) : Nat × List Nat := specTab.getD (n.fmod 16).toNat (0, [])
noncomputable def specI : List (Int × Str) := specTab.map fun p => ((p.1 : Int), mkS p.2)
theorem specI_get {n : Int} {p : Int × Str} (h : specI[(n.fmod 16).toNat]? = some p) : p.1 = ((specOf n).1 : Int) ∧ p.2 = mkS (specOf n).2 := by
  unfold specI at h
  rw [List.getElem?_map] at h
  obtain ⟨q, hq, rfl⟩ := Option.map_eq_some_iff.mp h
  unfold specOf
  rw [List.getD_eq_getElem?_getD, hq]
  exact ⟨rfl, rfl⟩
theorem specC_lt (n : Int) : (specOf n).1 < 1114112 := by
  have h : ∀ k : Nat, (specTab.getD k (0, [])).1 < 1114112 := by
    intro k
    rcases Nat.lt_or_ge k 16 with hk | hk
    · have : ∀ k : Nat, k < 16 → (specTab.getD k (0, [])).1 < 1114112 := by decide
      exact this k hk
    · rw [List.getD_eq_getElem?_getD, List.getElem?_eq_none (by show 16 ≤ k; exact hk)]; decide
  exact h _
theorem subHead {h₀ h : Heap} {L : Addr} {b : Addr × Obj} {nx news : List (Addr × Obj)} (N : News h₀ L h (b :: nx)) (hs : ∀ q ∈ news, q ∈ nx) : News h₀ L h (b :: news) := fun q hq => N q (by
  rcases List.mem_cons.mp hq with rfl | hq
  · exact .head _
  · exact .tail _ (hs q hq))
theorem newsSub {h₀ h : Heap} {L : Addr} {nx news : List (Addr × Obj)} (N : News h₀ L h nx) (hs : ∀ q ∈ news, q ∈ nx) : News h₀ L h news := fun q hq => N q (hs q hq)
theorem ltSub {D : Addr} {nx news : List (Addr × Obj)} (l : ∀ p ∈ nx, p.1 < D) (hs : ∀ q ∈ news, q ∈ nx) : ∀ p ∈ news, p.1 < D := fun q hq => l q (hs q hq)
end Mine
end
section
open PySem PySem.Calls PySem.W PyProof.Rows
set_option Elab.async false
set_option maxRecDepth 100000
set_option maxHeartbeats 0
set_option linter.unusedVariables false
namespace Mine
theorem fillKG : (fun P => K P) = (fun P => K P) ∧ PySem.Challenge.rw_pd0025_01 = PySem.Challenge.rw_pd0025_01 := by
  k_fill
  exact ⟨rfl, rfl⟩
local macro_rules | `(tactic| k_mem) => `(tactic| assumption)
theorem special_ok (w : World) (news : List (Addr × Obj)) (n : Int) (t : Tok) (hn : 0 ≤ n) (hn2 : n < 10000000) : Ctx0 w news 1 fun A s h₀ L m Q E =>
    (∀ (D : Addr) (t1 t2 : Tok) (h' : Heap) (tk' : Nat), Fr h₀ L h' m → News h₀ L h' ((D, tupO [.str ⟨#[(specOf n).1]⟩ t1, .str (mkS (specOf n).2) t2]) :: news) → (∀ p ∈ news, p.1 < D) → Q (.ref D) { s with heap := h', toks := tk' }) →
    wpAny (model rowR.prog w) A (call (.ref 214) [.int n t]) Q E s := by
  k_with_none
  (k_with "eval Tuple" => (k_here; (with_reducible show wpAny _ _ (eval (Expr.Tuple (Expr.Tuple _ _ _ :: _) _ _) _) _ _ _); k_dflt (refine' tuple_cp (cs := specI) ?c ?l ?F ?N ?_; (case c => exact rfl); (case l => decide); (case F => k_asm); (case N => k_asm)); intro T9 vs9 h9 tk9 nx9 hcp9 hm9 hs9 F9 N9; (try dsimp only); (try k_fold)))
  (k_with "subscriptTail" => (k_here; (with_reducible show wpAny _ _ (subscriptTail _ _ (Value.ref _) (Value.int _ _)) _ _ _); k_dflt (refine' item_cp (cs := specI) ?N9 ?m9 ?pp9 ?a9 ?b9 ?z9 ?_ ?hs9; (case N9 => k_asm); (case m9 => k_mem); (case pp9 => assumption); (case a9 => exact Int.fmod_nonneg_of_pos _ (by decide)); (case b9 => exact Int.lt_of_lt_of_le (Int.fmod_lt_of_pos _ (by decide)) (by decide)); (case z9 => decide); (case hs9 => with_unfolding_all rfl)); intro a9 t9 u9 p9 hc9 hm9; obtain ⟨e9, f9⟩ := specI_get hc9; rw [e9, f9] at hm9))
  w_on
  intro dp un gd cn cs a ccd cl outer A₀ base h₀ L m mg mb mean s Q E B F X N T hcs hdp hun hret
  refine wpAny_call ?_
  k_dflt cell_enter
  have hf0 : 0 ≤ n.fmod 16 := Int.fmod_nonneg_of_pos _ (by decide)
  have hf1 : n.fmod 16 < 16 := Int.fmod_lt_of_pos _ (by decide)
  have hsp : ((specOf n).1 : Int) < 1114112 := by have := specC_lt n; omega
  k_steps
  all_goals (first | (refine hret _ _ _ _ _ (by k_asm) (subHead (by k_asm) (by assumption)) (ltSub (by assumption) (by assumption))))
end Mine
end
section
open PySem PySem.Calls PySem.W PyProof.Rows PySem.Spec
open PyProof.Rows.LCg
set_option Elab.async false
set_option maxRecDepth 100000
set_option maxHeartbeats 1000000
set_option linter.unusedVariables false
namespace Mine
section
variable {prog : Program} {w : World} {A : Around} {E : Value → Shared → Prop} {s : Shared} {h₀ : Heap} {L : Addr} {m : Str → Option Value} {env : Env} {news nx : List (Addr × Obj)}
/-- the end of a turn that makes a tuple of two texts -/
noncomputable def TupEnd (h₀ : Heap) (L : Addr) (m : Str → Option Value) (s₁ : Shared) (led : List (Addr × Obj)) (p q : List Nat) (y : Value) (s₂ : Shared) : Prop :=
  ∃ h' tk T t1 t2, s₂ = { s₁ with heap := h', toks := tk } ∧ Fr h₀ L h' m ∧ News h₀ L h' ((T, tupOf [.str (mkS p) t1, .str (mkS q) t2]) :: led) ∧ (∀ r ∈ led, r.1 < T) ∧ y = .ref T
theorem TupEnd.mk {s₁ : Shared} {led : List (Addr × Obj)} {p q : List Nat} {h' : Heap} {tk : Nat} {T : Addr} {t1 t2 : Tok} (F : Fr h₀ L h' m) (N : News h₀ L h' ((T, tupOf [.str (mkS p) t1, .str (mkS q) t2]) :: led)) (l : ∀ r ∈ led, r.1 < T) :
    TupEnd h₀ L m s₁ led p q (.ref T) { s₁ with heap := h', toks := tk } := ⟨h', tk, T, t1, t2, rfl, F, N, l, rfl⟩
theorem srcT_mk {elt : PySem.Expr} {x : Str} {scope : Scope} {cl : List (Str × Addr)} {Q : Value → Shared → Prop} {ax : Addr} {vs : List Value} {ls : List (List Nat)} {k : Nat}
    (hh : A.handled = none) (F : Fr h₀ L s.heap m) (N : News h₀ L s.heap nx) (hm : (ax, listOf vs.toArray k) ∈ nx) (hp : TxtsAre vs ls) (hz : vs.length ≤ 200000)
    (turn : ∀ p t I oI C oC D m₂ ys h tk nx' (E' : Value → Shared → Prop), NsObj oC m₂ → m₂ x = some (.str (mkS p) t) → Fr h₀ L h m → News h₀ L h ((I, oI) :: (C, oC) :: (D, lst ys) :: nx') →
      wpAny (model prog w) A (eval elt (compEnvC scope cl C env)) (TupEnd h₀ L m { s with heap := h, toks := tk } ((I, oI) :: (C, oC) :: (D, lst ys) :: nx') p p) E' { s with heap := h, toks := tk })
    (fin : ∀ ys D h tk nx', PairsAre nx' ys (ls.map fun p => (p, p)) → (∀ q ∈ nx, q ∈ nx') → Fr h₀ L h m → News h₀ L h ((D, listOf ys.toArray ys.length) :: nx') → Q (.ref D) { s with heap := h, toks := tk }) :
    CompSrc prog w A h₀ L m env elt x scope cl (fun s₂ => FinE h₀ L m s₂ Q) (.ref ax) s := by
  have hvl : vs.length = ls.length := by have := hp.len_eq; rw [List.length_map] at this; exact this
  refine CompSrc.ledger hh F N hm (by have : sizeLine = 2 ^ 24 := rfl; rw [List.size_toArray]; omega) (fun hp' => ?_)
  have key : ∀ (j i : Nat) (ys : List Value) (nx' : List (Addr × Obj)), i + j = ls.length → (∀ q ∈ nx, q ∈ nx') → PairsAre nx' ys ((ls.take i).map fun p => (p, p)) →
      CompRest prog w A h₀ L m env elt x scope cl { s with heap := hp' } (SrcAt h₀ ax vs.toArray) (fun i v => vs.toArray[i]? = some v) (FinE h₀ L m { s with heap := hp' } Q) j i ys nx' := by
    intro j
    induction j with
    | zero =>
      intro i ys nx' hi hs hy
      have e : i = ls.length := by omega
      subst e
      rw [List.take_length] at hy
      exact CompRest.zero fun D h tk F' N' o => fin ys D h tk nx' hy hs F' N'
    | succ j ih =>
      intro i ys nx' hi hs hy
      refine CompRest.succ ?_
      intro v I oI C oC D m₂ h tk E' hv hC hx F' N' off ne
      have hv' : vs[i]? = some v := by simpa using hv
      obtain ⟨p, t, hpi, rfl⟩ := hp.item hv'
      have ht : ls.take (i + 1) = ls.take i ++ [p] := by rw [List.take_add_one, hpi]; rfl
      refine wpAny_mono (turn p t I oI C oC D m₂ ys h tk nx' E' hC hx F' N') (fun y s₂ hq => ?_) fun _ _ e => e
      obtain ⟨h', tk', T, t1, t2, e, F₂, N₂, lt, rfl⟩ := hq
      have lI : T ≠ I := Nat.ne_of_gt (lt _ (.head _))
      have lC : T ≠ C := Nat.ne_of_gt (lt _ (.tail _ (.head _)))
      have lD : T ≠ D := Nat.ne_of_gt (lt _ (.tail _ (.tail _ (.head _))))
      refine ⟨h', tk', (T, tupOf [.str (mkS p) t1, .str (mkS p) t2]) :: nx', e, F₂, fun q hq => N₂ q ?_, ⟨⟨lI, lC, lD⟩, off⟩, .inr ⟨_, .tail _ (hs _ hm), rfl, k, rfl⟩, ?_⟩
      · rcases List.mem_cons.mp hq with rfl | hq
        · exact .tail _ (.head _)
        · rcases List.mem_cons.mp hq with rfl | hq
          · exact .tail _ (.tail _ (.head _))
          · rcases List.mem_cons.mp hq with rfl | hq
            · exact .tail _ (.tail _ (.tail _ (.head _)))
            · rcases List.mem_cons.mp hq with rfl | hq
              · exact .head _
              · exact .tail _ (.tail _ (.tail _ (.tail _ hq)))
      · refine ih (i + 1) _ _ (by omega) (fun q hq => .tail _ (hs q hq)) ?_
        rw [ht, List.map_append]
        exact (hy.mono fun q hq => .tail _ hq).append (.cons (.head _) .nil)
  have := key ls.length 0 [] nx (by omega) (fun _ h => h) (by simp; exact .nil)
  rw [show vs.toArray.size = ls.length by rw [List.size_toArray, hvl]]
  exact this
theorem srcF_mk {elt : PySem.Expr} {x : Str} {scope : Scope} {cl : List (Str × Addr)} {Q : Value → Shared → Prop} {ax : Addr} {vs : List Value} {ps : List Pr} {k : Nat} {f : Pr → List Nat} (hf : Mk f)
    (hh : A.handled = none) (F : Fr h₀ L s.heap m) (N : News h₀ L s.heap nx) (hm : (ax, listOf vs.toArray k) ∈ nx) (hp : PairsAre news vs ps) (hz : ps.length ≤ 200000)
    (turn : ∀ a t1 t2 p I oI C oC D m₂ ys h tk (E' : Value → Shared → Prop), (a, tupOf [.str (mkS p.1) t1, .str (mkS p.2) t2]) ∈ news → NsObj oC m₂ → m₂ x = some (.ref a) → Fr h₀ L h m → News h₀ L h ((I, oI) :: (C, oC) :: (D, lst ys) :: nx) → Off3 I C D nx → ((@Ne Nat I C) ∧ (@Ne Nat I D) ∧ (@Ne Nat C D)) → SrcAt h₀ ax vs.toArray nx →
      wpAny (model prog w) A (eval elt (compEnvC scope cl C env)) (CompEnd h₀ L m { s with heap := h, toks := tk } I oI C oC D (lst ys) (SrcAt h₀ ax vs.toArray) (fun y news' => news' = nx ∧ True ∧ ∃ t, y = .str (mkS (f p)) t)) E' { s with heap := h, toks := tk })
    (fin : ∀ ys D h tk, TxtsAre ys (ps.map f) → Fr h₀ L h m → News h₀ L h ((D, listOf ys.toArray ys.length) :: nx) → Q (.ref D) { s with heap := h, toks := tk }) :
    CompSrc prog w A h₀ L m env elt x scope cl (fun s₂ => FinE h₀ L m s₂ Q) (.ref ax) s := by
  have hvl := hp.length
  refine CompSrc.ledger hh F N hm (by have : sizeLine = 2 ^ 24 := rfl; rw [List.size_toArray]; omega) (fun hp' => ?_)
  have key : ∀ (j i : Nat) (ys : List Value), i + j = ps.length → TxtsAre ys ((ps.take i).map f) →
      CompRest prog w A h₀ L m env elt x scope cl { s with heap := hp' } (SrcAt h₀ ax vs.toArray) (fun i v => vs.toArray[i]? = some v) (FinE h₀ L m { s with heap := hp' } Q) j i ys nx := by
    intro j
    induction j with
    | zero =>
      intro i ys hi hy
      have e : i = ps.length := by omega
      subst e
      rw [List.take_length] at hy
      exact CompRest.zero fun D h tk F' N' o => fin ys D h tk hy F' N'
    | succ j ih =>
      intro i ys hi hy
      refine CompRest.succ ?_
      intro v I oI C oC D m₂ h tk E' hv hC hx F' N' off ne
      have hv' : vs[i]? = some v := by simpa using hv
      obtain ⟨a, t1, t2, hv2, hmem⟩ := hp.get i _ (List.getElem?_eq_getElem (show i < ps.length by omega))
      rw [hv2] at hv'
      cases hv'
      have ht : ps.take (i + 1) = ps.take i ++ [ps[i]'(by omega)] := by rw [List.take_add_one, List.getElem?_eq_getElem (by omega)]; rfl
      refine wpAny_mono (turn a t1 t2 _ I oI C oC D m₂ ys h tk E' hmem hC hx F' N' off ne (.inr ⟨_, hm, rfl, k, rfl⟩)) (fun y s₂ hq => ?_) fun _ _ e => e
      obtain ⟨h', tk', nw, e, F₂, N₂, off₂, hS, rfl, _, t', rfl⟩ := hq
      refine ⟨h', tk', nw, e, F₂, N₂, off₂, hS, ?_⟩
      refine ih (i + 1) _ (by omega) ?_
      rw [ht, List.map_append]
      exact hy.snoc _ t'
  have := key ps.length 0 [] (by omega) (by simp; exact StrsAre.nil)
  rw [show vs.toArray.size = ps.length by rw [List.size_toArray, hvl]]
  exact this
theorem cEndF {I C D : Addr} {s₁ : Shared} {oI oC oD : Obj} {S : List (Addr × Obj) → Prop} {h' : Heap} {tk : Nat} {r : Str} {t : Tok}
    (F : Fr h₀ L h' m) (N : News h₀ L h' ((I, oI) :: (C, oC) :: (D, oD) :: nx)) (off : Off3 I C D nx) (hS : S nx) :
    CompEnd h₀ L m s₁ I oI C oC D oD S (fun y news' => news' = nx ∧ True ∧ ∃ t, y = .str r t) (.str r t) { s₁ with heap := h', toks := tk } := ⟨h', tk, nx, rfl, F, N, off, hS, rfl, trivial, t, rfl⟩
end
/-- made plain by the law's own words -/
noncomputable def straightL (l : List Nat) : List Nat := orDot (rootL l ++ glue 47 ((keptL (decide (rootL l ≠ [])) ((cut 47 l).map fun p => (p, p))).map Prod.fst))
theorem cut_len (c : Nat) (l : List Nat) : (cut c l).length ≤ l.length + 1 := by
  have := cut_sum c l
  omega
theorem kept_sum (r : Bool) (ls : List (List Nat)) : (((keptL r (ls.map fun p => (p, p))).map Prod.fst).map List.length).sum + ((keptL r (ls.map fun p => (p, p))).map Prod.fst).length ≤ (ls.map List.length).sum + ls.length := by
  have h : (keptL r (ls.map fun p => (p, p))).map Prod.fst = redL r ls := by
    have := keptL_fst r (ls.map fun p => (p, p))
    rw [List.map_map] at this
    have e : ((fun x : Pr => x.1) ∘ fun p : List Nat => (p, p)) = fun p => p := rfl
    rw [e, List.map_id'] at this
    exact this
  rw [h]
  exact redL_sum r ls
theorem sg1 {a b : List Nat} (h : ((mkS a ++ mkS b).length : Int) ≠ 0) : mkS a ++ mkS b = mkS (orDot (a ++ b)) := by
  refine str_of_toL ?_
  rw [toL_append, toL_mkS, toL_mkS, orDot, if_neg]
  intro e
  exact h (by rw [length_toL, toL_append, toL_mkS, toL_mkS, e]; rfl)
theorem sg2 {a b : List Nat} (h : ((mkS a ++ mkS b).length : Int) = 0) : Str.ofString "." = mkS (orDot (a ++ b)) := by
  have h3 := Int.ofNat_eq_zero.mp h
  rw [length_toL, toL_append, toL_mkS, toL_mkS] at h3
  rw [orDot, if_pos (List.length_eq_zero_iff.mp h3), dot_is]
end Mine
end
section
open PySem PySem.Calls PySem.W PyProof.Rows
set_option Elab.async false
set_option maxRecDepth 100000
set_option maxHeartbeats 0
set_option linter.unusedVariables false
namespace Mine
theorem fillKL : (fun P => K P) = (fun P => K P) ∧ PySem.Challenge.rw_pd0025_01 = PySem.Challenge.rw_pd0025_01 := by
  k_fill
  exact ⟨rfl, rfl⟩
theorem root_okM (w : World) (news : List (Addr × Obj)) (l : List Nat) (t : Tok) (hx : l.length ≤ 100000) : Ctx0 w news 1 fun A s h₀ L m Q E =>
    (∀ (t : Tok) (h' : Heap) (tk' : Nat), Fr h₀ L h' m → News h₀ L h' news → Q (.str (mkS (rootL l)) t) { s with heap := h', toks := tk' }) →
    wpAny (model rowR.prog w) A (call (.ref 240) [.str (mkS l) t]) Q E s := by
  have h := @root_ok w news (mkS l) t (by rw [len_mk]; exact hx)
  simp only [toL_mkS] at h
  exact @h
theorem drop_nx {g h : Heap} {L : Addr} {x y z a : Addr × Obj} {nx news : List (Addr × Obj)} (N : News g L h (x :: y :: z :: nx)) (hs : ∀ q ∈ a :: news, q ∈ nx) : News g L h news := fun q hq => N q (.tail _ (.tail _ (.tail _ (hs q (.tail _ hq)))))
theorem vs_len {vs : List Value} {l : List Nat} (h : TxtsAre vs (cut 47 l)) (hx : l.length ≤ 5000) : vs.length ≤ 200000 := by
  have h1 := h.len_eq
  rw [List.length_map] at h1
  have h2 := cut_len 47 l
  omega
theorem stepP_le (r : Bool) (acc : List Pr) (p : Pr) : (stepP r acc p).length ≤ acc.length + 1 := by
  unfold stepP
  split
  · omega
  · split
    · rw [List.length_append, List.length_singleton]; omega
    · rw [List.length_dropLast]; omega
theorem keptL_le (r : Bool) (ps : List Pr) : (keptL r ps).length ≤ ps.length := by
  have key : ∀ (ps acc : List Pr), (ps.foldl (stepP r) acc).length ≤ acc.length + ps.length := by
    intro ps
    induction ps with
    | nil => intro acc; simp
    | cons p q ih => intro acc; rw [List.foldl_cons, List.length_cons]; have h1 := ih (stepP r acc p); have h2 := stepP_le r acc p; omega
  have := key ps []
  simpa [keptL] using this
theorem kept_len (r : Bool) (ps : List Pr) (h : ps.length ≤ 10000) : (keptL r ps).length ≤ 200000 := by
  have := keptL_le r ps
  omega
local macro_rules | `(tactic| k_mem) => `(tactic| assumption)
theorem straight_ok (w : World) (news : List (Addr × Obj)) (l : List Nat) (t : Tok) (hx : l.length ≤ 5000) : Ctx0 w news 40 fun A s h₀ L m Q E =>
    (∀ (t : Tok) (h' : Heap) (tk' : Nat), Fr h₀ L h' m → News h₀ L h' news → Q (.str (mkS (straightL l)) t) { s with heap := h', toks := tk' }) →
    wpAny (model rowR.prog w) A (call (.ref 250) [.str (mkS l) t]) Q E s := by
  k_with_none
  (k_with "call ref" => (k_here; (with_reducible show wpAny _ _ (call (Value.ref _) [Value.str (mkS _) _]) _ _ _); (show wpAny _ _ (call (Value.ref 240) [Value.str (mkS _) _]) _ _ _); k_dflt (refine' root_okM _ _ _ _ ?hx ?kB ?kF ?kX ?kN ?kT ?kc ?kd ?ku ?_; (case kB => k_asm); (case kF => k_asm); (case kX => k_asm); (case kN => k_asm); (case kT => k_asm); (case kc => first | exact rfl | assumption); (case kd => first | omega | (simp only [depth_deeper]; omega) | ktr_room); (case ku => first | omega | (simp only [units_deeper]; omega) | ktr_units); (case hx => (first | assumption | omega))); intro t9 h9 tk9 F9 N9; (try dsimp only); (try k_fold)))
  (k_with "call builtin:str.split" => (k_here; (show wpAny _ _ (call (Value.builtin "str.split") [Value.str (mkS _) _, Value.str (Str.ofString "/") _]) _ _ _); k_dflt (refine' split_mk ?Fq ?Nq ?_ ?hxq; (case Fq => k_asm); (case Nq => k_asm); (case hxq => (first | assumption | omega))); intro D8 vs8 h8 k8 hv8 F8 N8 lt8; (try k_lt lt8); (try dsimp only); (try k_fold)))
  (k_with "eval ListComp" => (k_here; k_dflt (refine LCg.ListComp_U (F₀ := by k_asm) (by with_unfolding_all rfl) (by decide) (by rfl) (by decide) (by rfl) ?_)))
  (k_with "CompSrc" => (k_here; k_dflt (first
  | (refine' srcT_mk ?hh9 ?FF9 ?NN9 ?mm9 ?pp9 ?zz9 (fun p9 t9 I9 oI9 C9 oC9 D9 m9 ys9 h9 tk9 nx9 E9 hC9 hx9 F9 N9 => ?_) (fun ys9 D9 h9 tk9 nx9 hy9 hs9 F9 N9 => ?_); (case hh9 => rfl); (case FF9 => k_asm); (case NN9 => k_asm); (case mm9 => k_mem); (case pp9 => with_reducible assumption); (case zz9 => exact vs_len (by with_reducible assumption) (by with_reducible assumption)))
  | (refine' srcF_mk (by with_reducible assumption) ?hh9 ?FF9 ?NN9 ?mm9 ?pp9 ?zz9 (fun a9 t9 u9 p9 I9 oI9 C9 oC9 D9 m9 ys9 h9 tk9 E9 hm9 hC9 hx9 F9 N9 off9 ne9 hS9 => ?_) (fun ys9 D9 h9 tk9 hy9 F9 N9 => ?_); (case hh9 => rfl); (case FF9 => k_asm); (case NN9 => k_asm); (case mm9 => k_mem); (case pp9 => with_reducible assumption); (case zz9 => exact kept_len _ _ (by with_reducible assumption)))); (all_goals (try dsimp only)); (all_goals (try k_fold))))
  (k_with "TupEnd" => (k_dflt (refine' TupEnd.mk ?FF9 ?NN9 ?ll9; (case FF9 => k_asm); (case NN9 => k_asm); (case ll9 => exact ltAll' (by assumption)))))
  (k_with "CompEnd" => (k_dflt (refine' cEndF ?FF9 ?NN9 ?oo9 ?SS9; (case FF9 => k_asm); (case NN9 => k_asm); (case oo9 => assumption); (case SS9 => assumption))))
  (k_with "subscriptTail" => (k_here; (with_reducible show wpAny _ _ (subscriptTail _ _ (Value.ref _) (Value.int 0 _)) _ _ _); k_dflt (refine' item_fst ?Nq9 ?mq9 ?_ ?hsq9; (case Nq9 => k_asm); (case mq9 => k_mem); (case hsq9 => with_unfolding_all rfl))))
  (k_with "subscriptTail" => (k_here; (with_reducible show wpAny _ _ (subscriptTail _ _ (Value.ref _) (Value.int 1 _)) _ _ _); k_dflt (refine' item_snd ?Nq9 ?mq9 ?_ ?hsq9; (case Nq9 => k_asm); (case mq9 => k_mem); (case hsq9 => with_unfolding_all rfl))))
  (k_with "call ref" => (k_here; (show wpAny _ _ (call (Value.ref 245) [Value.str (mkS _) _, Value.ref _]) _ _ _); k_dflt (refine' kept_ok _ _ _ _ _ _ _ _ ?hl9 ?hp9 ?hz9 ?hr9 ?kB ?kF ?kX ?kN ?kT ?kc ?kd ?ku ?_; (case kB => k_asm); (case kF => k_asm); (case kX => k_asm); (case kN => k_asm); (case hl9 => k_mem); (case hp9 => first | with_reducible assumption | exact PairsAre.mono (by with_reducible assumption) (fun q hq => .tail _ hq)); (case hz9 => with_reducible assumption); (case hr9 => with_reducible assumption); (case kT => k_asm); (case kc => first | exact rfl | assumption); (case kd => first | omega | (simp only [depth_deeper]; omega) | ktr_room); (case ku => first | omega | (simp only [units_deeper]; omega) | ktr_units)); intro D9 ws9 k9 h9 tk9 hw9 F9 N9; (try dsimp only); (try k_fold)))
  (k_with "call builtin:str.join" => (k_here; (show wpAny _ _ (call (Value.builtin "str.join") [Value.str (Str.ofString "/") _, Value.ref _]) _ _ _); k_dflt (refine' join_call ?Nq ?mq ?iq ?wq ?_; (case Nq => k_asm); (case mq => k_mem); (case iq => with_reducible assumption); (case wq => with_reducible assumption)); intro t9 k9 hj9; (try dsimp only); (try k_fold)))
  w_on
  intro dp un gd cn cs a ccd cl outer A₀ base h₀ L m mg mb mean s Q E B F X N T hcs hdp hun hret
  refine wpAny_call ?_
  k_dflt cell_enter
  have hx2 : l.length ≤ 100000 := by omega
  have hmf : Mk (Prod.fst : Pr → List Nat) := True.intro
  have hcl := cut_len 47 l
  have hcz : ((cut 47 l).map fun p => (p, p)).length ≤ 10000 := by rw [List.length_map]; omega
  have hrz : (mkS (rootL l)).length ≤ 10000 := by rw [len_mk]; have := rootL_le l; omega
  have hjz : (((keptL (decide (rootL l ≠ [])) ((cut 47 l).map fun p => (p, p))).map Prod.fst).map List.length).sum + ((keptL (decide (rootL l ≠ [])) ((cut 47 l).map fun p => (p, p))).map Prod.fst).length ≤ 1000000 := by have h1 := kept_sum (decide (rootL l ≠ [])) (cut 47 l); have h2 := cut_sum 47 l; omega
  k_steps
  all_goals (first | ((rw [sg1 (by assumption)]); exact hret _ _ _ (by k_asm) (drop_nx (by k_asm) (by assumption))) | ((rw [sg2 (by assumption)]); exact hret _ _ _ (by k_asm) (drop_nx (by k_asm) (by assumption))))
end Mine
end
section
open PySem PySem.Calls PySem.W PyProof.Rows PySem.Spec
set_option Elab.async false
set_option maxRecDepth 100000
set_option maxHeartbeats 1000000
set_option linter.unusedVariables false
namespace Mine
/-- the signs of a spelled path that stand in table B.3, and what they mean -/
noncomputable def sgIn : List (Nat × List Nat) := [(223, [115, 115]), (13255, [99, 111, 46]), (13254, [99, 8725, 107, 103]), (64259, [102, 102, 105]), (8470, [110, 111]), (890, [32, 953]), (329, [700, 110]), (7834, [97, 702]), (304, [105, 775]), (8481, [116, 101, 108]),
  (119808, [97]), (120068, [97]), (119964, [97]), (119809, [98]), (8492, [98])]
/-- those that do not -/
noncomputable def sgOut : List (Nat × List Nat) := [(8229, [8229]), (8228, [8228]), (65294, [65294]), (65295, [65295]), (8725, [8725]), (8260, [8260]), (47, [47]), (46, [46]), (97, [97]), (65, [97]), (98, [98]), (66, [98])]
noncomputable def sgGone : List (Nat × List Nat) := goneT.map fun c => (c, [])
noncomputable def sgTab : List (Nat × List Nat) := sgIn ++ sgOut ++ sgGone
noncomputable def sgInOk : Prop := (sgIn.all fun q => decide (KTD.datumAt (q.1 : Int) b3Tab = some (mkS q.2))) = true
noncomputable def sgOutOk : Prop := (sgOut.all fun q => decide (KTD.datumAt (q.1 : Int) b3Tab = none)) = true
lay_quick Mine.sgInOk
lay_quick Mine.sgOutOk
theorem sgIn_ok : ∀ q ∈ sgIn, KTD.datumAt (q.1 : Int) b3Tab = some (mkS q.2) := by
  have h : sgInOk := by rw [PySem.W.Fast.te12411044430844810972]; delta PySem.W.Fast.tw12411044430844810972; kernel_rfl
  unfold sgInOk at h
  intro q hq
  exact of_decide_eq_true (List.all_eq_true.mp h q hq)
theorem sgOut_ok : ∀ q ∈ sgOut, KTD.datumAt (q.1 : Int) b3Tab = none := by
  have h : sgOutOk := by rw [PySem.W.Fast.te16951848917933263660]; delta PySem.W.Fast.tw16951848917933263660; kernel_rfl
  unfold sgOutOk at h
  intro q hq
  exact of_decide_eq_true (List.all_eq_true.mp h q hq)
theorem sg_lower : ∀ q ∈ sgOut, Txt.lower ⟨#[q.1]⟩ = mkS q.2 := by decide +kernel
theorem sg_keep : ∀ q ∈ sgIn ++ sgOut, keepB q.1 = true := by decide +kernel
theorem sg_gone : ∀ q ∈ sgGone, keepB q.1 = false ∧ q.2 = [] := by decide +kernel
theorem prep_one {c : Nat} (h : keepB c = true) : prepL [c] = b3L c := by
  unfold prepL
  rw [List.filter_cons, if_pos h, List.filter_nil, List.flatMap_cons, List.flatMap_nil, List.append_nil]
theorem prep_none {c : Nat} (h : keepB c = false) : prepL [c] = [] := by
  unfold prepL
  rw [List.filter_cons, if_neg (by rw [h]; decide), List.filter_nil, List.flatMap_nil]
theorem sg_prep : ∀ q ∈ sgTab, prepL [q.1] = q.2 := by
  intro q hq
  rcases List.mem_append.mp hq with hq | hq
  · rw [prep_one (sg_keep q hq)]
    unfold b3L
    rcases List.mem_append.mp hq with hq | hq
    · rw [b3F_some (sgIn_ok q hq), toL_mkS]
    · rw [b3F_none (sgOut_ok q hq), sg_lower q hq, toL_mkS]
  · rw [prep_none (sg_gone q hq).1, (sg_gone q hq).2]
noncomputable def sgB (c : Nat) : Bool := (sgTab.map (·.1)).contains c
theorem sgB_mem {c : Nat} (h : sgB c = true) : ∃ q ∈ sgTab, q.1 = c := by
  unfold sgB at h
  have h1 : c ∈ sgTab.map (·.1) := by simpa using h
  obtain ⟨q, hq, e⟩ := List.mem_map.mp h1
  exact ⟨q, hq, e⟩
theorem sg_slash : ∀ q ∈ sgTab, (q.1 = 47 → q.2 = [47]) ∧ (q.1 ≠ 47 → 47 ∉ q.2) ∧ q.1 < 1114112 := by decide +kernel
theorem prep_slash : prepL [47] = [47] := sg_prep (47, [47]) (by decide)
theorem prep_dot : prepL [46] = [46] := sg_prep (46, [46]) (by decide)
theorem prep_noslash {c : Nat} (h : sgB c = true) (hc : c ≠ 47) : 47 ∉ prepL [c] := by
  obtain ⟨q, hq, rfl⟩ := sgB_mem h
  rw [sg_prep q hq]
  exact (sg_slash q hq).2.1 hc
theorem sgB_ok {c : Nat} (h : sgB c = true) : c < 1114112 := by
  obtain ⟨q, hq, rfl⟩ := sgB_mem h
  exact (sg_slash q hq).2.2
/-- a sign or some, and what they mean -/
noncomputable def SPair (a b : List Nat) : Prop := a.length ≤ 3 ∧ a.all sgB = true ∧ prepL a = b
theorem SPair.of {c : Nat} {b : List Nat} (h : (c, b) ∈ sgTab) : SPair [c] b := by
  refine ⟨by show 1 ≤ 3; omega, ?_, sg_prep _ h⟩
  rw [List.all_cons, List.all_nil, Bool.and_true]
  unfold sgB
  have : c ∈ sgTab.map (·.1) := List.mem_map.mpr ⟨_, h, rfl⟩
  simpa using this
theorem SPair.slash : SPair [47] [47] := .of (by decide)
theorem SPair.dot : SPair [46] [46] := .of (by decide)
theorem SPair.dots : SPair [46, 46] [46, 46] := ⟨by decide, by decide +kernel, by rw [show [46, 46] = [46] ++ [46] from rfl, prepL_append, prep_dot]⟩
theorem SPair.up : SPair [47, 46, 46] [47, 46, 46] := ⟨by decide, by decide +kernel, by rw [show [47, 46, 46] = [47] ++ ([46] ++ [46]) from rfl, prepL_append, prepL_append, prep_dot, prep_slash]⟩
theorem goneC_mem (n : Int) : (goneC n, ([] : List Nat)) ∈ sgTab := by
  refine List.mem_append.mpr (.inr (List.mem_map.mpr ⟨goneC n, ?_, rfl⟩))
  have h0 : 0 ≤ n.fmod 27 := Int.fmod_nonneg_of_pos _ (by decide)
  have h1 : n.fmod 27 < 27 := Int.fmod_lt_of_pos _ (by decide)
  unfold goneC
  have h2 : (n.fmod 27).toNat < goneT.length := by show _ < 27; omega
  rw [List.getD_eq_getElem?_getD, List.getElem?_eq_getElem h2]
  exact List.getElem_mem h2
theorem SPair.gone (n : Int) : SPair [goneC n] [] := .of (goneC_mem n)
theorem specOf_mem (n : Int) : specOf n ∈ sgTab := by
  have h0 : 0 ≤ n.fmod 16 := Int.fmod_nonneg_of_pos _ (by decide)
  have h1 : n.fmod 16 < 16 := Int.fmod_lt_of_pos _ (by decide)
  have h2 : (n.fmod 16).toNat < specTab.length := by show _ < 16; omega
  have h3 : specOf n ∈ specTab := by
    unfold specOf
    rw [List.getD_eq_getElem?_getD, List.getElem?_eq_getElem h2]
    exact List.getElem_mem h2
  have h4 : ∀ q ∈ specTab, q ∈ sgTab := by decide
  exact h4 _ h3
theorem SPair.spec (n : Int) : SPair [(specOf n).1] (specOf n).2 := .of (specOf_mem n)
noncomputable def fourT : List Nat := [97, 65, 119808, 120068, 119964]
noncomputable def eightT : List Nat := [98, 66, 119809, 8492]
theorem SPair.four {c : Nat} (h : c ∈ fourT) : SPair [c] [97] := by
  have : ∀ c ∈ fourT, (c, [97]) ∈ sgTab := by decide
  exact .of (this c h)
theorem SPair.eight {c : Nat} (h : c ∈ eightT) : SPair [c] [98] := by
  have : ∀ c ∈ eightT, (c, [98]) ∈ sgTab := by decide
  exact .of (this c h)
/-- a spelled path of at most n figures, and its meaning -/
noncomputable def SG (n : Nat) (w p : List Nat) : Prop := w.length ≤ 3 * n ∧ w.all sgB = true ∧ p = prepL w
theorem SG.start : SG 0 [] [] := ⟨by decide, rfl, rfl⟩
theorem SG.snoc {n : Nat} {w p a b : List Nat} (h : SG n w p) (h' : SPair a b) : SG (n + 1) (w ++ a) (p ++ b) := by
  obtain ⟨h1, h2, rfl⟩ := h
  obtain ⟨k1, k2, rfl⟩ := h'
  refine ⟨by rw [List.length_append]; omega, by rw [List.all_append, h2, k2]; rfl, (prepL_append w a).symm⟩
theorem SG.okL {n : Nat} {w p : List Nat} (h : SG n w p) : okL w := fun c hc => sgB_ok (List.all_eq_true.mp h.2.1 c hc)
theorem SG.le {n : Nat} {w p : List Nat} (h : SG n w p) : w.length ≤ 3 * n ∧ p.length ≤ 12 * n := by
  obtain ⟨h1, _, rfl⟩ := h
  have := prepL_le w
  exact ⟨h1, by omega⟩
theorem digit_of {c : Char} (h : c.isDigit = true) : 48 ≤ c.toNat ∧ c.toNat < 58 := by
  simp only [Char.isDigit, Bool.and_eq_true, decide_eq_true_eq, ge_iff_le] at h
  have h1 := UInt32.le_iff_toNat_le.mp h.1
  have h2 := UInt32.le_iff_toNat_le.mp h.2
  have e1 : ('0' : Char).val.toNat = 48 := by decide
  have e2 : ('9' : Char).val.toNat = 57 := by decide
  simp only [Char.toNat] at *
  omega
/-- the figures of a number -/
noncomputable def figs (n : Nat) : List Nat := (Nat.toDigits 10 n).map Char.toNat
theorem figs_dig {n c : Nat} (h : c ∈ figs n) : 48 ≤ c ∧ c < 58 := by
  obtain ⟨d, hd, rfl⟩ := List.mem_map.mp h
  exact digit_of (Nat.isDigit_of_mem_toDigits (by decide) (by decide) hd)
theorem figs_len {n : Nat} (h : n < 1000000) : (figs n).length ≤ 6 := by
  unfold figs
  rw [List.length_map]
  exact (Nat.length_toDigits_le_iff (by decide) (by decide)).mpr (by simpa using h)
theorem str_figs {n : Int} (h : 0 ≤ n) : Str.ofString (toString n) = mkS (figs n.toNat) := by
  obtain ⟨m, rfl⟩ := Int.eq_ofNat_of_zero_le h
  have e : toString (m : Int) = Nat.repr m := rfl
  rw [e, Str.ofString_eq_toList]
  unfold figs Nat.repr
  simp [mkS]
end Mine
end
section
open PySem PySem.Calls PySem.W PyProof.Rows PySem.Spec
set_option Elab.async false
set_option maxRecDepth 100000
set_option maxHeartbeats 1000000
set_option linter.unusedVariables false
namespace Mine
section
variable {prog : Program} {w : World} {A : Around} {E : Value → Shared → Prop} {s : Shared} {env : Env} {h₀ : Heap} {x : Str} {body : List Stmt} {Q : Flow → Shared → Prop}
/-- a loop over the signs of a text -/
theorem iter_anyS {T : Str} {t : Tok} {m₀ : Str → Option Value} {news : List (Addr × Obj)} (J : Nat → (Str → Option Value) → List (Addr × Obj) → Prop)
    (hh : A.handled = none) (F : Fr h₀ env.locals s.heap m₀) (N : News h₀ env.locals s.heap news) (hj : J 0 m₀ news)
    (turn : ∀ i c u m₁ news₁ h tk own, T.cps[i]? = some c → news₁.map (·.1) = news.map (·.1) → J i m₁ news₁ → Fr h₀ env.locals h (fun y => if y = x then some (.str ⟨#[c]⟩ u) else m₁ y) → News h₀ env.locals h (news₁ ++ own) →
      wpAny (model prog w) A (execs body env) (InvPostN h₀ env.locals (fun m' nx => J (i + 1) m' nx) own (news.map (·.1)) { s with heap := h, toks := tk } Q) E { s with heap := h, toks := tk })
    (done : ∀ m₁ news₁ h tk, J T.cps.size m₁ news₁ → Fr h₀ env.locals h m₁ → News h₀ env.locals h news₁ → Q .next { s with heap := h, toks := tk }) :
    wpAny (model prog w) A (pyIter (.str T t)) (fun it s₂ => LoopAtV prog w A h₀ env x body Q E it s₂) E s := by
  refine wpAny_pyIter_str (fun o St W hst => ?_)
  refine ⟨_, _, _, T.cps.size, _, _, m₀, news, (fun i m nx => nx.map (·.1) = news.map (·.1) ∧ J i m nx), rfl, W A hh, ?_, ?_, ?_, hst, F.push _, (fun p hp => ⟨Heap.get?_push_of_some _ (N p hp).1, (N p hp).2⟩), ⟨rfl, hj⟩, ?_, ?_⟩
  · intro hm
    exact absurd F.ns.lt ((List.mem_singleton.mp hm) ▸ Nat.lt_irrefl _)
  · intro b hb
    rw [List.mem_singleton.mp hb]
    exact next_is_new F
  · intro p hp hI
    exact absurd (Heap.lt_size (N p hp).1) ((List.mem_singleton.mp hI) ▸ Nat.lt_irrefl _)
  · rintro i v m₁ news₁ s₁ own ⟨hh', tk', rfl⟩ hin ⟨c, u, hc, rfl⟩ ⟨hadr, hJ⟩ hoff hown hget hfp _ F₁ N₁
    have N₂ : News h₀ env.locals hh' (news₁ ++ own) := fun p hp => N₁ p ((List.mem_append.mp hp).elim (fun h => List.mem_append.mpr (.inr h)) fun h => List.mem_append.mpr (.inl h))
    refine wpAny_mono (turn i c u m₁ news₁ hh' tk' _ hc hadr hJ F₁ N₂) (fun f s₂ p => ?_) fun _ _ e => e
    have fin : InvEndN h₀ env.locals (fun m' nx => J (i + 1) m' nx) own (news.map (·.1)) { s with heap := hh', toks := tk' } s₂ →
        LoopStepU h₀ env.locals [s.heap.objs.size] own (fun m nx => nx.map (·.1) = news.map (·.1) ∧ J (i + 1) m nx) { s with heap := hh', toks := tk' } .next s₂ := by
      rintro ⟨h', tk, m', news', nx, e, F', N', hn, ho, ha, hm⟩
      refine ⟨rfl, h', tk, m', nx, e, F', fun p hp => ?_, fun p hp => ?_, ha, hm⟩
      · rcases List.mem_append.mp hp with h | h
        · exact N' p (ho p h)
        · exact N' p (hn p h)
      · have h1 : p.1 ∈ nx.map (·.1) := List.mem_map.mpr ⟨p, hp, rfl⟩
        rw [ha] at h1
        obtain ⟨q, hq, e⟩ := List.mem_map.mp h1
        intro hI
        exact absurd (Heap.lt_size (N q hq).1) (by rw [e, List.mem_singleton.mp hI]; exact Nat.lt_irrefl _)
    cases f with
    | ret v => exact .ret p
    | brk => exact .brk p
    | next => exact .next (fin p)
    | cont => exact .cont (fin p)
  · rintro h' tk m' news' F' N' _ ⟨_, hJ⟩
    exact done m' news' h' tk hJ F' N'
noncomputable abbrev nmN : Str := Str.ofString "number"
noncomputable abbrev nmF : Str := Str.ofString "figure"
noncomputable abbrev nmT : Str := Str.ofString "turn"
noncomputable abbrev nmS : Str := Str.ofString "sign"
noncomputable abbrev nmM : Str := Str.ofString "meant"
noncomputable abbrev nmW : Str := Str.ofString "written"
noncomputable abbrev nmP : Str := Str.ofString "plain"
/-- written and plain so far; the names xs forgotten -/
noncomputable def SgAt (n : Nat) (m₀ m : Str → Option Value) (xs : List Str) : Prop := ∃ w p tw tp, SG n w p ∧ m nmW = some (.str (mkS w) tw) ∧ m nmP = some (.str (mkS p) tp) ∧ ∀ z, z ∉ xs → m z = m₀ z
noncomputable abbrev xsIn : List Str := [nmF, nmW, nmP, nmT, nmS, nmM]
noncomputable abbrev xsOut : List Str := [nmN, nmW, nmP, nmF, nmT, nmS, nmM]
theorem sgEnd {h' : Heap} {L : Addr} {m₀ m' : Str → Option Value} {n : Nat} {w p : List Nat} {tw tp : Tok} {xs : List Str} {own news : List (Addr × Obj)} {s₁ : Shared} {tk : Nat}
    (F : Fr h₀ L h' m') (N : News h₀ L h' (news ++ own)) (hg : SG n w p) (hw : m' nmW = some (.str (mkS w) tw)) (hp : m' nmP = some (.str (mkS p) tp)) (hm : ∀ z, z ∉ xs → m' z = m₀ z) :
    InvEndN h₀ L (fun m' nx => nx = news ∧ SgAt n m₀ m' xs) own (news.map (·.1)) s₁ { s₁ with heap := h', toks := tk } :=
  ⟨h', tk, m', _, news, rfl, F, N, fun p hp => List.mem_append.mpr (.inl hp), fun p hp => List.mem_append.mpr (.inr hp), rfl, rfl, w, p, tw, tp, hg, hw, hp, hm⟩
/-- the loop over the figures -/
theorem iter_figs {T : List Nat} {t : Tok} {m₀ : Str → Option Value} {news : List (Addr × Obj)} {n : Nat} {w₀ p₀ : List Nat} {tw₀ tp₀ : Tok} (hg : SG n w₀ p₀) (ew : m₀ nmW = some (.str (mkS w₀) tw₀)) (ep : m₀ nmP = some (.str (mkS p₀) tp₀)) (hx : x = nmF) (hT : T.length ≤ 6) (hd : ∀ c ∈ T, 48 ≤ c ∧ c < 58) (hn : n ≤ 30)
    (hh : A.handled = none) (F : Fr h₀ env.locals s.heap m₀) (N : News h₀ env.locals s.heap news)
    (turn : ∀ k c u wr pl tw tp u1 u2 u3 h tk own, k ≤ 35 → SG k wr pl → wr.length ≤ 110 → (mkS wr).length ≤ 110 → (mkS pl).length ≤ 500 → 48 ≤ c → c < 58 →
      Fr h₀ env.locals h (fun z => if z = nmF then some (.str (mkS [c]) u) else if z = nmW then some (.str (mkS wr) tw) else if z = nmP then some (.str (mkS pl) tp) else if z = nmT then u1 else if z = nmS then u2 else if z = nmM then u3 else m₀ z) → News h₀ env.locals h (news ++ own) →
      wpAny (model prog w) A (execs body env) (InvPostN h₀ env.locals (fun m' nx => nx = news ∧ SgAt (k + 1) m₀ m' xsIn) own (news.map (·.1)) { s with heap := h, toks := tk } Q) E { s with heap := h, toks := tk })
    (done : ∀ wr pl tw tp u0 u1 u2 u3 h tk, SG (n + 6) wr pl → (mkS wr).length ≤ 110 → (mkS pl).length ≤ 500 → Fr h₀ env.locals h (fun z => if z = nmF then u0 else if z = nmW then some (.str (mkS wr) tw) else if z = nmP then some (.str (mkS pl) tp) else if z = nmT then u1 else if z = nmS then u2 else if z = nmM then u3 else m₀ z) → News h₀ env.locals h news → Q .next { s with heap := h, toks := tk }) :
    wpAny (model prog w) A (pyIter (.str (mkS T) t)) (fun it s₂ => LoopAtV prog w A h₀ env x body Q E it s₂) E s := by
  subst hx
  refine iter_anyS (fun i m nx => nx = news ∧ SgAt (n + i) m₀ m xsIn) hh F N ⟨rfl, w₀, p₀, tw₀, tp₀, hg, ew, ep, fun _ _ => rfl⟩ ?_ ?_
  · rintro i c u m₁ news₁ h tk own hc _ ⟨rfl, wr, pl, tw, tp, hg1, e1, e2, hm⟩ F₁ N₁
    have hc' : T[i]? = some c := by simpa using hc
    have hi : i < T.length := (List.getElem?_eq_some_iff.mp hc').1
    have hdc := hd c (List.mem_of_getElem? hc')
    have e : (fun z => if z = nmF then some (Value.str (mkS [c]) u) else m₁ z) = fun z => if z = nmF then some (Value.str (mkS [c]) u) else if z = nmW then some (.str (mkS wr) tw) else if z = nmP then some (.str (mkS pl) tp) else if z = nmT then m₁ nmT else if z = nmS then m₁ nmS else if z = nmM then m₁ nmM else m₀ z := by
      funext z
      by_cases h1 : z = nmF
      · simp only [if_pos h1]
      simp only [if_neg h1]
      by_cases h2 : z = nmW
      · simp only [if_pos h2]; rw [h2, e1]
      simp only [if_neg h2]
      by_cases h3 : z = nmP
      · simp only [if_pos h3]; rw [h3, e2]
      simp only [if_neg h3]
      by_cases h4 : z = nmT
      · simp only [if_pos h4]; rw [h4]
      simp only [if_neg h4]
      by_cases h5 : z = nmS
      · simp only [if_pos h5]; rw [h5]
      simp only [if_neg h5]
      by_cases h6 : z = nmM
      · simp only [if_pos h6]; rw [h6]
      simp only [if_neg h6]
      exact hm z (by simp only [List.mem_cons, List.not_mem_nil, or_false, not_or]; exact ⟨h1, h2, h3, h4, h5, h6⟩)
    have F₂ : Fr h₀ env.locals h (fun z => if z = nmF then some (Value.str (mkS [c]) u) else m₁ z) := F₁
    rw [e] at F₂
    have hle := hg1.le
    exact turn (n + i) c u wr pl tw tp _ _ _ h tk own (by omega) hg1 (by omega) (by rw [len_mk]; omega) (by rw [len_mk]; omega) hdc.1 hdc.2 F₂ N₁
  · rintro m₁ news₁ h tk ⟨rfl, wr, pl, tw, tp, hg1, e1, e2, hm⟩ F₁ N₁
    have hs : (mkS T).cps.size = T.length := by simp
    rw [hs] at hg1
    have hg2 : SG (n + 6) wr pl := ⟨by have := hg1.1; omega, hg1.2⟩
    have e : m₁ = fun z => if z = nmF then m₁ nmF else if z = nmW then some (.str (mkS wr) tw) else if z = nmP then some (.str (mkS pl) tp) else if z = nmT then m₁ nmT else if z = nmS then m₁ nmS else if z = nmM then m₁ nmM else m₀ z := by
      funext z
      by_cases h1 : z = nmF
      · simp only [if_pos h1]; rw [h1]
      simp only [if_neg h1]
      by_cases h2 : z = nmW
      · simp only [if_pos h2]; rw [h2, e1]
      simp only [if_neg h2]
      by_cases h3 : z = nmP
      · simp only [if_pos h3]; rw [h3, e2]
      simp only [if_neg h3]
      by_cases h4 : z = nmT
      · simp only [if_pos h4]; rw [h4]
      simp only [if_neg h4]
      by_cases h5 : z = nmS
      · simp only [if_pos h5]; rw [h5]
      simp only [if_neg h5]
      by_cases h6 : z = nmM
      · simp only [if_pos h6]; rw [h6]
      simp only [if_neg h6]
      exact hm z (by simp only [List.mem_cons, List.not_mem_nil, or_false, not_or]; exact ⟨h1, h2, h3, h4, h5, h6⟩)
    have hle := hg2.le
    refine done wr pl tw tp (m₁ nmF) (m₁ nmT) (m₁ nmS) (m₁ nmM) h tk hg2 (by rw [len_mk]; omega) (by rw [len_mk]; omega) ?_ N₁
    rw [← e]
    exact F₁
/-- the loop over the numbers -/
noncomputable def NumsAre (vs : List Value) : Prop := vs.length ≤ 6 ∧ ∀ v ∈ vs, ∃ (n : Int) (t : Tok), v = .int n t ∧ 0 ≤ n ∧ n < 1000000
theorem iter_nums {l : Addr} {vs : List Value} {kk : Nat} {m₀ : Str → Option Value} {news : List (Addr × Obj)} {tw₀ tp₀ : Tok} (ew : m₀ nmW = some (.str (mkS []) tw₀)) (ep : m₀ nmP = some (.str (mkS []) tp₀)) (hx : x = nmN) (hv : NumsAre vs) (hl : (l, listOf vs.toArray kk) ∈ news)
    (hh : A.handled = none) (F : Fr h₀ env.locals s.heap m₀) (N : News h₀ env.locals s.heap news)
    (turn : ∀ k n u wr pl tw tp u0 u1 u2 u3 h tk own, k ≤ 30 → SG k wr pl → (mkS wr).length ≤ 110 → (mkS pl).length ≤ 500 → 0 ≤ n → n < 1000000 →
      Fr h₀ env.locals h (fun z => if z = nmN then some (.int n u) else if z = nmW then some (.str (mkS wr) tw) else if z = nmP then some (.str (mkS pl) tp) else if z = nmF then u0 else if z = nmT then u1 else if z = nmS then u2 else if z = nmM then u3 else m₀ z) → News h₀ env.locals h (news ++ own) →
      wpAny (model prog w) A (execs body env) (InvPostN h₀ env.locals (fun m' nx => nx = news ∧ SgAt (k + 6) m₀ m' xsOut) own (news.map (·.1)) { s with heap := h, toks := tk } Q) E { s with heap := h, toks := tk })
    (done : ∀ wr pl tw tp u u0 u1 u2 u3 h tk, SG 36 wr pl → (mkS wr).length ≤ 110 → (mkS pl).length ≤ 500 → Fr h₀ env.locals h (fun z => if z = nmN then u else if z = nmW then some (.str (mkS wr) tw) else if z = nmP then some (.str (mkS pl) tp) else if z = nmF then u0 else if z = nmT then u1 else if z = nmS then u2 else if z = nmM then u3 else m₀ z) → News h₀ env.locals h news → Q .next { s with heap := h, toks := tk }) :
    wpAny (model prog w) A (pyIter (.ref l)) (fun it s₂ => LoopAtV prog w A h₀ env x body Q E it s₂) E s := by
  subst hx
  obtain ⟨hvl, hvs⟩ := hv
  have ex : ∀ (m₁ : Str → Option Value) (wr pl : List Nat) (tw tp : Tok), m₁ nmW = some (.str (mkS wr) tw) → m₁ nmP = some (.str (mkS pl) tp) → (∀ z, z ∉ xsOut → m₁ z = m₀ z) → ∀ r : Option Value,
      (fun z => if z = nmN then r else m₁ z) = fun z => if z = nmN then r else if z = nmW then some (.str (mkS wr) tw) else if z = nmP then some (.str (mkS pl) tp) else if z = nmF then m₁ nmF else if z = nmT then m₁ nmT else if z = nmS then m₁ nmS else if z = nmM then m₁ nmM else m₀ z := by
    intro m₁ wr pl tw tp e1 e2 hm r
    funext z
    by_cases h0 : z = nmN
    · simp only [if_pos h0]
    simp only [if_neg h0]
    by_cases h2 : z = nmW
    · simp only [if_pos h2]; rw [h2, e1]
    simp only [if_neg h2]
    by_cases h3 : z = nmP
    · simp only [if_pos h3]; rw [h3, e2]
    simp only [if_neg h3]
    by_cases h1 : z = nmF
    · simp only [if_pos h1]; rw [h1]
    simp only [if_neg h1]
    by_cases h4 : z = nmT
    · simp only [if_pos h4]; rw [h4]
    simp only [if_neg h4]
    by_cases h5 : z = nmS
    · simp only [if_pos h5]; rw [h5]
    simp only [if_neg h5]
    by_cases h6 : z = nmM
    · simp only [if_pos h6]; rw [h6]
    simp only [if_neg h6]
    exact hm z (by simp only [List.mem_cons, List.not_mem_nil, or_false, not_or]; exact ⟨h0, h2, h3, h1, h4, h5, h6⟩)
  refine iter_anyL (fun i m nx => nx = news ∧ SgAt (6 * i) m₀ m xsOut) hh hl F N ⟨rfl, [], [], tw₀, tp₀, SG.start, ew, ep, fun _ _ => rfl⟩ ?_ ?_
  · rintro i v m₁ news₁ h tk own hv _ _ hl₁ ⟨rfl, wr, pl, tw, tp, hg1, e1, e2, hm⟩ F₁ N₁
    have hi : i < vs.length := (List.getElem?_eq_some_iff.mp hv).1
    obtain ⟨n, u, rfl, h0, h1⟩ := hvs v (List.mem_of_getElem? hv)
    have hle := hg1.le
    rw [ex m₁ wr pl tw tp e1 e2 hm] at F₁
    refine wpAny_mono (turn (6 * i) n u wr pl tw tp _ _ _ _ h tk own (by omega) hg1 (by rw [len_mk]; omega) (by rw [len_mk]; omega) h0 h1 F₁ N₁) (fun f s₂ q => ?_) fun _ _ e => e
    have conv : InvEndN h₀ env.locals (fun m' nx => nx = news₁ ∧ SgAt (6 * i + 6) m₀ m' xsOut) own (news₁.map (·.1)) { s with heap := h, toks := tk } s₂ →
        InvEndN h₀ env.locals (fun m' nx => (l, listOf vs.toArray kk) ∈ nx ∧ nx = news₁ ∧ SgAt (6 * (i + 1)) m₀ m' xsOut) own (news₁.map (·.1)) { s with heap := h, toks := tk } s₂ := by
      rintro ⟨h', tk', m', news', nx, e, F', N', hn, ho, ha, rfl, hw⟩
      exact ⟨h', tk', m', news', _, e, F', N', hn, ho, ha, hl₁, rfl, hw⟩
    cases f with
    | ret v => exact q
    | brk => exact q
    | next => exact conv q
    | cont => exact conv q
  · rintro m₁ news₁ h tk _ ⟨rfl, wr, pl, tw, tp, hg1, e1, e2, hm⟩ F₁ N₁
    have hg2 : SG 36 wr pl := ⟨by have := hg1.1; omega, hg1.2⟩
    have hle := hg2.le
    refine done wr pl tw tp (m₁ nmN) (m₁ nmF) (m₁ nmT) (m₁ nmS) (m₁ nmM) h tk hg2 (by rw [len_mk]; omega) (by rw [len_mk]; omega) ?_ N₁
    rw [← ex m₁ wr pl tw tp e1 e2 hm (m₁ nmN)]
    have e : (fun z => if z = nmN then m₁ nmN else m₁ z) = m₁ := by
      funext z
      by_cases h0 : z = nmN
      · simp only [if_pos h0]; rw [h0]
      · simp only [if_neg h0]
    rw [e]
    exact F₁
end
end Mine
end
section
open PySem PySem.Calls PySem.W PyProof.Rows PySem.Spec
set_option Elab.async false
set_option maxRecDepth 100000
set_option maxHeartbeats 1000000
set_option linter.unusedVariables false
namespace Mine
/-- ints of a tuple -/
inductive TupI : List Value → List Nat → Prop
  | nil : TupI [] []
  | cons {c : Nat} {i : Int} {t : Tok} {vs : List Value} {cs : List Nat} : i = (c : Int) → TupI vs cs → TupI (.int i t :: vs) (c :: cs)
theorem TupI.length {vs : List Value} {cs : List Nat} (h : TupI vs cs) : vs.length = cs.length := by
  induction h with
  | nil => rfl
  | cons _ _ ih => rw [List.length_cons, List.length_cons, ih]
theorem TupI.get {vs : List Value} {cs : List Nat} (h : TupI vs cs) : ∀ i : Nat, i < cs.length → ∃ c t, c ∈ cs ∧ vs[i]? = some (.int (c : Int) t) := by
  induction h with
  | nil => intro i hi; exact absurd hi (Nat.not_lt_zero _)
  | cons he _ ih =>
    intro i hi
    subst he
    cases i with
    | zero => exact ⟨_, _, .head _, rfl⟩
    | succ i =>
      obtain ⟨c, t, hc, e⟩ := ih i (by simpa using hi)
      exact ⟨c, t, .tail _ hc, by rw [List.getElem?_cons_succ]; exact e⟩
section
variable {prog : Program} {w : World} {A : Around} {E : Value → Shared → Prop} {h₀ : Heap} {L : Addr} {m : Str → Option Value} {env : Env}
theorem item_ti {T : Addr} {vs : List Value} (cs : List Nat) {nx : List (Addr × Obj)} {i : Int} {u : Tok} {s : Shared} {Q : Value → Shared → Prop} {value slice : PySem.Expr} (N : News h₀ L s.heap nx) (hm : (T, tupOf vs) ∈ nx) (hp : TupI vs cs) (h0 : 0 ≤ i) (h1 : i < (cs.length : Int)) (hz : cs.length ≤ 1000) (hb : ∀ c ∈ cs, c < 1114112)
    (h : ∀ c t, c ∈ cs → (c : Int) < 1114112 → Q (.int (c : Int) t) s)
    (hs : subscripted slice false (.ref T) (.int i u) = operate [.ref T, .int i u] (getItem (.ref T) (.int i u)) := by with_unfolding_all rfl) :
    wpAny (model prog w) A (subscriptTail value slice (.ref T) (.int i u)) Q E s := by
  have hi : i.toNat < cs.length := by omega
  obtain ⟨c, t, hc, hv⟩ := hp.get i.toNat hi
  refine item_tupleT (j := i.toNat) (l := vs) ⟨_, (N _ hm).1, rfl, 0, rfl⟩ (by omega) (by omega) ?_ hv (h c t hc (by have := hb c hc; omega)) hs
  unfold seqIndex?
  rw [hp.length]
  simp only [if_neg (show ¬ i < 0 by omega)]
  rw [if_pos (by simp [h0, h1])]
end
theorem chr_nat {prog : Program} {w : World} {A : Around} {E : Value → Shared → Prop} {s : Shared} {Q : Value → Shared → Prop} {c : Nat} {t : Tok} (h : (c : Int) < 1114112) (hQ : Q (.str ⟨#[c]⟩ s.toks) { s with toks := s.toks + 1 }) : wpAny (model prog w) A (call (.builtin "chr") [.int (c : Int) t]) Q E s :=
  chr_of_range (by omega) (by omega) (by rw [Int.toNat_natCast]; exact hQ)
theorem ps1 : SPair (toL (Str.ofString "/")) (toL (Str.ofString "/")) := by rw [show toL (Str.ofString "/") = [47] by decide +kernel]; exact SPair.slash
theorem ps2 : SPair (toL (Str.ofString ".")) (toL (Str.ofString ".")) := by rw [show toL (Str.ofString ".") = [46] by decide +kernel]; exact SPair.dot
theorem ps3 : SPair (toL (Str.ofString "/..")) (toL (Str.ofString "/..")) := by rw [show toL (Str.ofString "/..") = [47, 46, 46] by decide +kernel]; exact SPair.up
theorem ps4 : SPair (toL (Str.ofString "..")) (toL (Str.ofString "..")) := by rw [show toL (Str.ofString "..") = [46, 46] by decide +kernel]; exact SPair.dots
theorem ps5 (n : Int) : SPair (toL ⟨#[goneC n]⟩) (toL (Str.ofString "")) := by rw [show toL (Str.ofString "") = [] by decide +kernel]; exact SPair.gone n
theorem ps6 {c : Nat} (h : c ∈ fourT) : SPair (toL ⟨#[c]⟩) (toL (Str.ofString "a")) := by rw [show toL (Str.ofString "a") = [97] by decide +kernel]; exact SPair.four h
theorem ps7 {c : Nat} (h : c ∈ eightT) : SPair (toL ⟨#[c]⟩) (toL (Str.ofString "b")) := by rw [show toL (Str.ofString "b") = [98] by decide +kernel]; exact SPair.eight h
theorem ps8 (n : Int) : SPair (toL ⟨#[(specOf n).1]⟩) (toL (mkS (specOf n).2)) := by rw [toL_mkS]; exact SPair.spec n
theorem fourB : ∀ c ∈ fourT, c < 1114112 := by decide
theorem eightB : ∀ c ∈ eightT, c < 1114112 := by decide
theorem mk_add (w : List Nat) (x : Str) : mkS w ++ x = mkS (w ++ toL x) := by
  refine str_of_toL ?_
  rw [toL_append, toL_mkS]
theorem sub_refl {α : Type} {a : List α} : ∀ q ∈ a, q ∈ a := fun _ h => h
theorem sub_app {α : Type} {a b : List α} : ∀ q ∈ a, q ∈ a ++ b := fun _ h => List.mem_append.mpr (.inl h)
theorem sub_appr {α : Type} {a b : List α} : ∀ q ∈ b, q ∈ a ++ b := fun _ h => List.mem_append.mpr (.inr h)
theorem sub_head {α : Type} {x : α} {a b : List α} (h : ∀ q ∈ a, q ∈ b) : ∀ q ∈ x :: a, q ∈ x :: b := fun q hq => (List.mem_cons.mp hq).elim (fun e => e ▸ .head _) fun hq => .tail _ (h q hq)
theorem sub_cons {α : Type} {x : α} {a b : List α} (h : ∀ q ∈ a, q ∈ b) : ∀ q ∈ a, q ∈ x :: b := fun q hq => .tail _ (h q hq)
section
variable {h₀ : Heap}
theorem sgEnd3 {h' : Heap} {L : Addr} {m₀ m' : Str → Option Value} {n : Nat} {w p : List Nat} {x y : Str} {tw tp : Tok} {xs : List Str} {own news nx : List (Addr × Obj)} {s₁ : Shared} {tk : Nat}
    (F : Fr h₀ L h' m') (N : News h₀ L h' nx) (hn : ∀ q ∈ news, q ∈ nx) (ho : ∀ q ∈ own, q ∈ nx) (hw : m' nmW = some (.str (mkS w ++ x) tw)) (hp : m' nmP = some (.str (mkS p ++ y) tp)) (hg : SG n w p) (hs : SPair (toL x) (toL y)) (hm : ∀ z, z ∉ xs → m' z = m₀ z) :
    InvEndN h₀ L (fun m' nx => nx = news ∧ SgAt (n + 1) m₀ m' xs) own (news.map (·.1)) s₁ { s₁ with heap := h', toks := tk } := by
  rw [mk_add] at hw hp
  exact ⟨h', tk, m', nx, news, rfl, F, N, hn, ho, rfl, rfl, _, _, tw, tp, hg.snoc hs, hw, hp, hm⟩
theorem sgEnd4 {h' : Heap} {L : Addr} {m₀ m' : Str → Option Value} {n : Nat} {w p : List Nat} {tw tp : Tok} {xs : List Str} {own news nx : List (Addr × Obj)} {s₁ : Shared} {tk : Nat}
    (F : Fr h₀ L h' m') (N : News h₀ L h' nx) (hn : ∀ q ∈ news, q ∈ nx) (ho : ∀ q ∈ own, q ∈ nx) (hw : m' nmW = some (.str (mkS w) tw)) (hp : m' nmP = some (.str (mkS p) tp)) (hg : SG n w p) (hm : ∀ z, z ∉ xs → m' z = m₀ z) :
    InvEndN h₀ L (fun m' nx => nx = news ∧ SgAt n m₀ m' xs) own (news.map (·.1)) s₁ { s₁ with heap := h', toks := tk } :=
  ⟨h', tk, m', nx, news, rfl, F, N, hn, ho, rfl, rfl, _, _, tw, tp, hg, hw, hp, hm⟩
end
section
variable {h₀ : Heap}
theorem sgEnd2 {h' : Heap} {L : Addr} {m₀ m' : Str → Option Value} {n : Nat} {w p : List Nat} {x y : Str} {tw tp : Tok} {xs : List Str} {own news : List (Addr × Obj)} {s₁ : Shared} {tk : Nat}
    (F : Fr h₀ L h' m') (N : News h₀ L h' (news ++ own)) (hw : m' nmW = some (.str (mkS w ++ x) tw)) (hp : m' nmP = some (.str (mkS p ++ y) tp)) (hg : SG n w p) (hs : SPair (toL x) (toL y)) (hm : ∀ z, z ∉ xs → m' z = m₀ z) :
    InvEndN h₀ L (fun m' nx => nx = news ∧ SgAt (n + 1) m₀ m' xs) own (news.map (·.1)) s₁ { s₁ with heap := h', toks := tk } := by
  rw [mk_add] at hw hp
  exact sgEnd F N (hg.snoc hs) hw hp hm
end
theorem fg0 : mkS [48] = Str.ofString "0" := by decide +kernel
theorem fg1 : mkS [49] = Str.ofString "1" := by decide +kernel
theorem fg2 : mkS [50] = Str.ofString "2" := by decide +kernel
theorem fg3 : mkS [51] = Str.ofString "3" := by decide +kernel
theorem fg4 : mkS [52] = Str.ofString "4" := by decide +kernel
theorem fg5 : mkS [53] = Str.ofString "5" := by decide +kernel
theorem fg6 : mkS [54] = Str.ofString "6" := by decide +kernel
theorem fg7 : mkS [55] = Str.ofString "7" := by decide +kernel
theorem fg8 : mkS [56] = Str.ofString "8" := by decide +kernel
theorem fg9 : mkS [57] = Str.ofString "9" := by decide +kernel
section
variable {prog : Program} {w : World} {A : Around} {E : Value → Shared → Prop} {s : Shared} {Q : Value → Shared → Prop} {t u : Tok}
theorem in29_0 (h : Q (.bool false) s) : wpAny (model prog w) A (compareOp .In (.str (Str.ofString "0") u) (.str (Str.ofString "29") t)) Q E s := PyProof.Rows.in_str (by rw [show (!(Builtin.Str.occurrences (Str.ofString "29") (Str.ofString "0") 0 (Str.ofString "29").length 1).isEmpty) = false by decide +kernel]; exact h)
theorem in29_1 (h : Q (.bool false) s) : wpAny (model prog w) A (compareOp .In (.str (Str.ofString "1") u) (.str (Str.ofString "29") t)) Q E s := PyProof.Rows.in_str (by rw [show (!(Builtin.Str.occurrences (Str.ofString "29") (Str.ofString "1") 0 (Str.ofString "29").length 1).isEmpty) = false by decide +kernel]; exact h)
theorem in29_2 (h : Q (.bool true) s) : wpAny (model prog w) A (compareOp .In (.str (Str.ofString "2") u) (.str (Str.ofString "29") t)) Q E s := PyProof.Rows.in_str (by rw [show (!(Builtin.Str.occurrences (Str.ofString "29") (Str.ofString "2") 0 (Str.ofString "29").length 1).isEmpty) = true by decide +kernel]; exact h)
theorem in29_3 (h : Q (.bool false) s) : wpAny (model prog w) A (compareOp .In (.str (Str.ofString "3") u) (.str (Str.ofString "29") t)) Q E s := PyProof.Rows.in_str (by rw [show (!(Builtin.Str.occurrences (Str.ofString "29") (Str.ofString "3") 0 (Str.ofString "29").length 1).isEmpty) = false by decide +kernel]; exact h)
theorem in29_4 (h : Q (.bool false) s) : wpAny (model prog w) A (compareOp .In (.str (Str.ofString "4") u) (.str (Str.ofString "29") t)) Q E s := PyProof.Rows.in_str (by rw [show (!(Builtin.Str.occurrences (Str.ofString "29") (Str.ofString "4") 0 (Str.ofString "29").length 1).isEmpty) = false by decide +kernel]; exact h)
theorem in29_5 (h : Q (.bool false) s) : wpAny (model prog w) A (compareOp .In (.str (Str.ofString "5") u) (.str (Str.ofString "29") t)) Q E s := PyProof.Rows.in_str (by rw [show (!(Builtin.Str.occurrences (Str.ofString "29") (Str.ofString "5") 0 (Str.ofString "29").length 1).isEmpty) = false by decide +kernel]; exact h)
theorem in29_6 (h : Q (.bool false) s) : wpAny (model prog w) A (compareOp .In (.str (Str.ofString "6") u) (.str (Str.ofString "29") t)) Q E s := PyProof.Rows.in_str (by rw [show (!(Builtin.Str.occurrences (Str.ofString "29") (Str.ofString "6") 0 (Str.ofString "29").length 1).isEmpty) = false by decide +kernel]; exact h)
theorem in29_7 (h : Q (.bool false) s) : wpAny (model prog w) A (compareOp .In (.str (Str.ofString "7") u) (.str (Str.ofString "29") t)) Q E s := PyProof.Rows.in_str (by rw [show (!(Builtin.Str.occurrences (Str.ofString "29") (Str.ofString "7") 0 (Str.ofString "29").length 1).isEmpty) = false by decide +kernel]; exact h)
theorem in29_8 (h : Q (.bool false) s) : wpAny (model prog w) A (compareOp .In (.str (Str.ofString "8") u) (.str (Str.ofString "29") t)) Q E s := PyProof.Rows.in_str (by rw [show (!(Builtin.Str.occurrences (Str.ofString "29") (Str.ofString "8") 0 (Str.ofString "29").length 1).isEmpty) = false by decide +kernel]; exact h)
theorem in29_9 (h : Q (.bool true) s) : wpAny (model prog w) A (compareOp .In (.str (Str.ofString "9") u) (.str (Str.ofString "29") t)) Q E s := PyProof.Rows.in_str (by rw [show (!(Builtin.Str.occurrences (Str.ofString "29") (Str.ofString "9") 0 (Str.ofString "29").length 1).isEmpty) = true by decide +kernel]; exact h)
end
/-- a figure: ten signs -/
theorem figure_cases {c : Nat} (h1 : 48 ≤ c) (h2 : c < 58) : c = 48 ∨ c = 49 ∨ c = 50 ∨ c = 51 ∨ c = 52 ∨ c = 53 ∨ c = 54 ∨ c = 55 ∨ c = 56 ∨ c = 57 := by omega
section
variable {prog : Program} {w : World} {A : Around} {E : Value → Shared → Prop} {s : Shared} {env : Env} {h₀ : Heap} {x : Str} {body : List Stmt} {Q : Flow → Shared → Prop}
/-- a turn of the figures' loop -/
noncomputable abbrev FigTurn (prog : Program) (w : World) (A : Around) (E : Value → Shared → Prop) (env : Env) (h₀ : Heap) (body : List Stmt) (Q : Flow → Shared → Prop) (m₀ : Str → Option Value) (news : List (Addr × Obj)) (s : Shared) (fx : Str) : Prop :=
  ∀ k u wr pl tw tp u1 u2 u3 h tk own, k ≤ 35 → SG k wr pl → wr.length ≤ 110 → (mkS wr).length ≤ 110 → (mkS pl).length ≤ 500 →
      Fr h₀ env.locals h (fun z => if z = nmF then some (.str fx u) else if z = nmW then some (.str (mkS wr) tw) else if z = nmP then some (.str (mkS pl) tp) else if z = nmT then u1 else if z = nmS then u2 else if z = nmM then u3 else m₀ z) → News h₀ env.locals h (news ++ own) →
      wpAny (model prog w) A (execs body env) (InvPostN h₀ env.locals (fun m' nx => nx = news ∧ SgAt (k + 1) m₀ m' xsIn) own (news.map (·.1)) { s with heap := h, toks := tk } Q) E { s with heap := h, toks := tk }
theorem iter_fig10 {num : Int} {t : Tok} {m₀ : Str → Option Value} {news : List (Addr × Obj)} {n : Nat} {w₀ p₀ : List Nat} {tw₀ tp₀ : Tok} (hg : SG n w₀ p₀) (ew : m₀ nmW = some (.str (mkS w₀) tw₀)) (ep : m₀ nmP = some (.str (mkS p₀) tp₀)) (hx : x = nmF) (h0 : 0 ≤ num) (h1 : num < 1000000) (hn : n ≤ 30)
    (hh : A.handled = none) (F : Fr h₀ env.locals s.heap m₀) (N : News h₀ env.locals s.heap news)
    (t0 : FigTurn prog w A E env h₀ body Q m₀ news s (Str.ofString "0")) (t1 : FigTurn prog w A E env h₀ body Q m₀ news s (Str.ofString "1")) (t2 : FigTurn prog w A E env h₀ body Q m₀ news s (Str.ofString "2")) (t3 : FigTurn prog w A E env h₀ body Q m₀ news s (Str.ofString "3")) (t4 : FigTurn prog w A E env h₀ body Q m₀ news s (Str.ofString "4")) (t5 : FigTurn prog w A E env h₀ body Q m₀ news s (Str.ofString "5")) (t6 : FigTurn prog w A E env h₀ body Q m₀ news s (Str.ofString "6")) (t7 : FigTurn prog w A E env h₀ body Q m₀ news s (Str.ofString "7")) (t8 : FigTurn prog w A E env h₀ body Q m₀ news s (Str.ofString "8")) (t9 : FigTurn prog w A E env h₀ body Q m₀ news s (Str.ofString "9"))
    (done : ∀ wr pl tw tp u0 u1 u2 u3 h tk, SG (n + 6) wr pl → (mkS wr).length ≤ 110 → (mkS pl).length ≤ 500 → Fr h₀ env.locals h (fun z => if z = nmF then u0 else if z = nmW then some (.str (mkS wr) tw) else if z = nmP then some (.str (mkS pl) tp) else if z = nmT then u1 else if z = nmS then u2 else if z = nmM then u3 else m₀ z) → News h₀ env.locals h news → Q .next { s with heap := h, toks := tk }) :
    wpAny (model prog w) A (pyIter (.str (Str.ofString (toString num)) t)) (fun it s₂ => LoopAtV prog w A h₀ env x body Q E it s₂) E s := by
  rw [str_figs h0]
  refine iter_figs hg ew ep hx (figs_len (by omega)) (fun c hc => figs_dig hc) hn hh F N ?_ done
  intro k c u wr pl tw tp u1 u2 u3 h tk own hk hg hw hl hp h2 h3 F₁ N₁
  rcases figure_cases h2 h3 with rfl | rfl | rfl | rfl | rfl | rfl | rfl | rfl | rfl | rfl
  · rw [fg0] at F₁; exact t0 k u wr pl tw tp u1 u2 u3 h tk own hk hg hw hl hp F₁ N₁
  · rw [fg1] at F₁; exact t1 k u wr pl tw tp u1 u2 u3 h tk own hk hg hw hl hp F₁ N₁
  · rw [fg2] at F₁; exact t2 k u wr pl tw tp u1 u2 u3 h tk own hk hg hw hl hp F₁ N₁
  · rw [fg3] at F₁; exact t3 k u wr pl tw tp u1 u2 u3 h tk own hk hg hw hl hp F₁ N₁
  · rw [fg4] at F₁; exact t4 k u wr pl tw tp u1 u2 u3 h tk own hk hg hw hl hp F₁ N₁
  · rw [fg5] at F₁; exact t5 k u wr pl tw tp u1 u2 u3 h tk own hk hg hw hl hp F₁ N₁
  · rw [fg6] at F₁; exact t6 k u wr pl tw tp u1 u2 u3 h tk own hk hg hw hl hp F₁ N₁
  · rw [fg7] at F₁; exact t7 k u wr pl tw tp u1 u2 u3 h tk own hk hg hw hl hp F₁ N₁
  · rw [fg8] at F₁; exact t8 k u wr pl tw tp u1 u2 u3 h tk own hk hg hw hl hp F₁ N₁
  · rw [fg9] at F₁; exact t9 k u wr pl tw tp u1 u2 u3 h tk own hk hg hw hl hp F₁ N₁
end
end Mine
end
section
open PySem PySem.Calls PySem.W PyProof.Rows
set_option Elab.async false
set_option maxRecDepth 100000
set_option maxHeartbeats 0
set_option linter.unusedVariables false
namespace Mine
theorem fillKM : (fun P => K P) = (fun P => K P) ∧ PySem.Challenge.rw_pd0025_01 = PySem.Challenge.rw_pd0025_01 := by
  k_fill
  exact ⟨rfl, rfl⟩
theorem spec_len (n : Int) : (mkS (specOf n).2).length ≤ 4 := by
  have h : ∀ k : Nat, ((specTab.getD k (0, [])).2).length ≤ 4 := by
    intro k
    rcases Nat.lt_or_ge k 16 with hk | hk
    · have : ∀ k : Nat, k < 16 → ((specTab.getD k (0, [])).2).length ≤ 4 := by decide
      exact this k hk
    · rw [List.getD_eq_getElem?_getD, List.getElem?_eq_none (by show 16 ≤ k; exact hk)]; decide
  rw [len_mk]
  exact h _
theorem special_okB (w : World) (news : List (Addr × Obj)) (n : Int) (t : Tok) (hn : 0 ≤ n) (hn2 : n < 10000000) : Ctx0 w news 1 fun A s h₀ L m Q E =>
    (∀ (D : Addr) (t1 t2 : Tok) (h' : Heap) (tk' : Nat), (mkS (specOf n).2).length ≤ 4 → Fr h₀ L h' m → News h₀ L h' ((D, tupO [.str ⟨#[(specOf n).1]⟩ t1, .str (mkS (specOf n).2) t2]) :: news) → (∀ p ∈ news, p.1 < D) → Q (.ref D) { s with heap := h', toks := tk' }) →
    wpAny (model rowR.prog w) A (call (.ref 214) [.int n t]) Q E s := by
  have h := @special_ok w news n t hn hn2
  intro dp un gd cn cs a ccd cl outer A₀ base h₀ L m mg mb mean s Q E B F X N T hcs hdp hun hret
  exact h B F X N T hcs hdp hun (fun D t1 t2 h' tk' F' N' l => hret D t1 t2 h' tk' (spec_len n) F' N' l)
local macro_rules | `(tactic| k_mem) => `(tactic| first | assumption | exact .tail _ (by assumption))
theorem spelled_ok (w : World) (news : List (Addr × Obj)) (l : Addr) (vs : List Value) (k : Nat) (hl : (l, listOf vs.toArray k) ∈ news) (hv : NumsAre vs) : Ctx0 w news 20 fun A s h₀ L m Q E =>
    (∀ (D : Addr) (wr pl : List Nat) (t1 t2 : Tok) (h' : Heap) (tk' : Nat), SG 36 wr pl → Fr h₀ L h' m → News h₀ L h' ((D, tupO [.str (mkS wr) t1, .str (mkS pl) t2]) :: news) → (∀ p ∈ news, p.1 < D) → Q (.ref D) { s with heap := h', toks := tk' }) →
    wpAny (model rowR.prog w) A (call (.ref 221) [.ref l]) Q E s := by
  k_with_none
  (k_with "call ref" => (k_here; (with_reducible show wpAny _ _ (call (Value.ref _) [Value.int _ _]) _ _ _); (show wpAny _ _ (call (Value.ref 207) [Value.int _ _]) _ _ _); k_dflt (refine' gone_ok _ _ _ _ ?hga ?hgb ?kB ?kF ?kX ?kN ?kT ?kc ?kd ?ku ?_; (case kB => k_asm); (case kF => k_asm); (case kX => k_asm); (case kN => k_asm); (case kT => k_asm); (case kc => first | exact rfl | assumption); (case kd => first | omega | (simp only [depth_deeper]; omega) | ktr_room); (case ku => first | omega | (simp only [units_deeper]; omega) | ktr_units); (case hga => omega); (case hgb => omega)); intro t9 h9 tk9 F9 N9; (try dsimp only); (try k_fold)))
  (k_with "call ref" => (k_here; (with_reducible show wpAny _ _ (call (Value.ref _) [Value.int _ _]) _ _ _); (show wpAny _ _ (call (Value.ref 214) [Value.int _ _]) _ _ _); k_dflt (refine' special_okB _ _ _ _ ?hga ?hgb ?kB ?kF ?kX ?kN ?kT ?kc ?kd ?ku ?_; (case kB => k_asm); (case kF => k_asm); (case kX => k_asm); (case kN => k_asm); (case kT => k_asm); (case kc => first | exact rfl | assumption); (case kd => first | omega | (simp only [depth_deeper]; omega) | ktr_room); (case ku => first | omega | (simp only [units_deeper]; omega) | ktr_units); (case hga => omega); (case hgb => omega)); intro D9 ta9 tb9 h9 tk9 hsl9 F9 N9 lt9; (try dsimp only); (try k_fold)))
  (k_with "call builtin:chr" => (k_here; k_dflt (refine chr_nat (by with_reducible assumption) ?_)))
  (k_with "subscriptTail" => (k_here; (with_reducible show wpAny _ _ (subscriptTail _ _ (Value.ref _) (Value.int (Int.fmod _ _) _)) _ _ _); k_dflt (first | (refine' item_ti fourT ?N9 ?m9 ?pp9 ?a9 ?b9 ?z9 ?bb9 ?_ ?hs9; (case N9 => k_asm); (case m9 => exact .head _); (case pp9 => exact (.cons rfl (.cons rfl (.cons rfl (.cons rfl (.cons rfl (.nil))))))); (case a9 => exact Int.fmod_nonneg_of_pos _ (by decide)); (case b9 => exact Int.lt_of_lt_of_le (Int.fmod_lt_of_pos _ (by decide)) (by decide)); (case z9 => decide); (case bb9 => decide); (case hs9 => with_unfolding_all rfl)) | (refine' item_ti eightT ?N9 ?m9 ?pp9 ?a9 ?b9 ?z9 ?bb9 ?_ ?hs9; (case N9 => k_asm); (case m9 => exact .head _); (case pp9 => exact (.cons rfl (.cons rfl (.cons rfl (.cons rfl (.nil)))))); (case a9 => exact Int.fmod_nonneg_of_pos _ (by decide)); (case b9 => exact Int.lt_of_lt_of_le (Int.fmod_lt_of_pos _ (by decide)) (by decide)); (case z9 => decide); (case bb9 => decide); (case hs9 => with_unfolding_all rfl))); intro c9 t9 hc9 hb9))
  (k_with "InvEndN" => ((first | (refine' sgEnd3 ?FFq ?NNq ?hnq ?hoq ?hwq ?hpq (by assumption) ?hsq ?hmq; (case FFq => first | k_asm | assumption | with_unfolding_all assumption); (case NNq => first | k_asm | assumption | with_unfolding_all assumption); (case hnq => (repeat (first | (with_reducible exact sub_refl) | (with_reducible exact sub_app) | (with_reducible exact sub_appr) | (with_reducible refine sub_head ?_) | (refine sub_cons ?_)))); (case hoq => (repeat (first | (with_reducible exact sub_refl) | (with_reducible exact sub_app) | (with_reducible exact sub_appr) | (with_reducible refine sub_head ?_) | (refine sub_cons ?_)))); (case hwq => first | exact rfl | with_unfolding_all exact rfl); (case hpq => first | exact rfl | with_unfolding_all exact rfl); (case hmq => (intro z hz; (simp only [List.mem_cons, List.not_mem_nil, or_false, not_or] at hz); (simp only [hz, if_false]; done))); (case hsq => first | (with_reducible exact ps1) | (with_reducible exact ps2) | (with_reducible exact ps3) | (with_reducible exact ps4) | (with_reducible exact ps5 _) | (with_reducible exact ps6 (by assumption)) | (with_reducible exact ps7 (by assumption)) | (with_reducible exact ps8 _) | exact ps5 _ | exact ps6 (by assumption) | exact ps7 (by assumption) | exact ps8 _)) | (refine' sgEnd4 ?FFq ?NNq ?hnq ?hoq ?hwq ?hpq ?hgq ?hmq; (case FFq => first | k_asm | assumption | with_unfolding_all assumption); (case NNq => first | k_asm | assumption | with_unfolding_all assumption); (case hnq => (repeat (first | (with_reducible exact sub_refl) | (with_reducible exact sub_app) | (with_reducible exact sub_appr) | (with_reducible refine sub_head ?_) | (refine sub_cons ?_)))); (case hoq => (repeat (first | (with_reducible exact sub_refl) | (with_reducible exact sub_app) | (with_reducible exact sub_appr) | (with_reducible refine sub_head ?_) | (refine sub_cons ?_)))); (case hwq => first | exact rfl | with_unfolding_all exact rfl); (case hpq => first | exact rfl | with_unfolding_all exact rfl); (case hgq => assumption); (case hmq => (intro z hz; (simp only [List.mem_cons, List.not_mem_nil, or_false, not_or] at hz); (simp only [hz, if_false]; done)))))))
  (k_with "compareOp In str str" => (k_here; with_reducible first | refine in29_0 ?_ | refine in29_1 ?_ | refine in29_2 ?_ | refine in29_3 ?_ | refine in29_4 ?_ | refine in29_5 ?_ | refine in29_6 ?_ | refine in29_7 ?_ | refine in29_8 ?_ | refine in29_9 ?_))
  (k_with "compareOp In str" => (k_here; with_reducible first | refine in29_0 ?_ | refine in29_1 ?_ | refine in29_2 ?_ | refine in29_3 ?_ | refine in29_4 ?_ | refine in29_5 ?_ | refine in29_6 ?_ | refine in29_7 ?_ | refine in29_8 ?_ | refine in29_9 ?_))
  (k_with "exec For Name Name cons nil" => (k_here; (rename Fr _ _ _ _ => lF'); (with_unfolding_all refine' For_invVF lF' ?k1 ?k2 ?_; (case k1 => exact rfl); (case k2 => exact rfl); k_whole)))
  (k_with "exec For Name Call cons nil" => (k_here; (rename Fr _ _ _ _ => lF'); (with_unfolding_all refine' For_invVF lF' ?k1 ?k2 ?_; (case k1 => exact rfl); (case k2 => exact rfl); k_whole)))
  (k_with "pyIter ref" => (k_here; (with_reducible show wpAny _ _ (pyIter (Value.ref _)) (fun it s₂ => LoopAtV _ _ _ _ _ _ _ _ _ it s₂) _ _); (rename Fr _ _ _ _ => lF'); (rename News _ _ _ _ => lN'); (with_unfolding_all refine' iter_nums ?ewq9 ?epq9 ?exq9 (by assumption) (by k_mem) (by rfl) lF' lN' (fun k9 n9 u9 wr9 pl9 tw9 tp9 u0q9 u1q9 u2q9 u3q9 h9 tk9 own9 hk9 hg9 hl9 hp9 ha9 hb9 F9 N9 => ?_) (fun wr9 pl9 tw9 tp9 uq9 u0q9 u1q9 u2q9 u3q9 h9 tk9 hg9 hl9 hp9 F9 N9 => ?_)); (case ewq9 => exact rfl); (case epq9 => exact rfl); (case exq9 => rfl); (all_goals (try clear lF' lN')); (all_goals (try simp only [List.cons_append] at N9)); (all_goals (try dsimp only)); (all_goals (try k_fold))))
  (k_with "pyIter str" => (k_here; (with_reducible show wpAny _ _ (pyIter (Value.str _ _)) (fun it s₂ => LoopAtV _ _ _ _ _ _ _ _ _ it s₂) _ _); (rename Fr _ _ _ _ => lF'); (rename News _ _ _ _ => lN'); (with_unfolding_all refine' iter_fig10 (by assumption) ?ewq9 ?epq9 ?exq9 ?hlq9 ?hhq9 (by assumption) (by rfl) lF' lN' (fun k9 u9 wr9 pl9 tw9 tp9 u1q9 u2q9 u3q9 h9 tk9 own9 hk9 hg9 hw9 hl9 hp9 F9 N9 => ?_) (fun k9 u9 wr9 pl9 tw9 tp9 u1q9 u2q9 u3q9 h9 tk9 own9 hk9 hg9 hw9 hl9 hp9 F9 N9 => ?_) (fun k9 u9 wr9 pl9 tw9 tp9 u1q9 u2q9 u3q9 h9 tk9 own9 hk9 hg9 hw9 hl9 hp9 F9 N9 => ?_) (fun k9 u9 wr9 pl9 tw9 tp9 u1q9 u2q9 u3q9 h9 tk9 own9 hk9 hg9 hw9 hl9 hp9 F9 N9 => ?_) (fun k9 u9 wr9 pl9 tw9 tp9 u1q9 u2q9 u3q9 h9 tk9 own9 hk9 hg9 hw9 hl9 hp9 F9 N9 => ?_) (fun k9 u9 wr9 pl9 tw9 tp9 u1q9 u2q9 u3q9 h9 tk9 own9 hk9 hg9 hw9 hl9 hp9 F9 N9 => ?_) (fun k9 u9 wr9 pl9 tw9 tp9 u1q9 u2q9 u3q9 h9 tk9 own9 hk9 hg9 hw9 hl9 hp9 F9 N9 => ?_) (fun k9 u9 wr9 pl9 tw9 tp9 u1q9 u2q9 u3q9 h9 tk9 own9 hk9 hg9 hw9 hl9 hp9 F9 N9 => ?_) (fun k9 u9 wr9 pl9 tw9 tp9 u1q9 u2q9 u3q9 h9 tk9 own9 hk9 hg9 hw9 hl9 hp9 F9 N9 => ?_) (fun k9 u9 wr9 pl9 tw9 tp9 u1q9 u2q9 u3q9 h9 tk9 own9 hk9 hg9 hw9 hl9 hp9 F9 N9 => ?_) (fun wr9 pl9 tw9 tp9 u0q9 u1q9 u2q9 u3q9 h9 tk9 hg9 hl9 hp9 F9 N9 => ?_)); (case hlq9 => assumption); (case hhq9 => assumption); (case ewq9 => exact rfl); (case epq9 => exact rfl); (case exq9 => rfl); (all_goals (try clear lF' lN')); (all_goals (try simp only [List.cons_append] at N9)); (all_goals (try dsimp only)); (all_goals (try k_fold))))
  w_on
  intro dp un gd cn cs a ccd cl outer A₀ base h₀ L m mg mb mean s Q E B F X N T hcs hdp hun hret
  refine wpAny_call ?_
  k_dflt cell_enter
  k_steps
  all_goals (first | exact hret _ _ _ _ _ _ _ (by assumption) (by k_asm) (subHead (by k_asm) (fun q hq => .tail _ hq)) (ltSub (by assumption) (fun q hq => .tail _ hq)) | exact hret _ _ _ _ _ _ _ (by assumption) (by k_asm) (subHead (by k_asm) (fun q hq => .tail _ hq)) (ltAll (And.right (by assumption))))
end Mine
end
section
open PySem PySem.Calls PySem.W PyProof.Rows PySem.Spec
set_option Elab.async false
set_option maxRecDepth 100000
set_option maxHeartbeats 1000000
set_option linter.unusedVariables false
namespace Mine
/-- a zip whose last tuple is still held -/
noncomputable abbrev ZipO (h : Heap) (z TI TO T : Addr) (f : Bool) : Prop :=
  h.get? z = some { cls := .type "zip", dict := none, data := .fields #[rawInt T, .bool f, .bool false, .ref TI, .ref TO], slots := #[] }
section
variable {prog : Program} {w : World} {A : Around} {E : Value → Shared → Prop} {s : Shared}
theorem zip_held {z TI TO T : Addr} {f : Bool} {oT : Obj} {Q : Bool → Shared → Prop} (hz : ZipO s.heap z TI TO T f) (hT : s.heap.get? T = some oT)
    (hQ : ∀ h', ZipO h' z TI TO T true → Heap.SameBut z s.heap h' → Q false { s with heap := h' }) : wpAny (model prog w) A (Builtin.SmallTypes.ownedTupleIsFree (.ref z)) Q E s := by
  unfold Builtin.SmallTypes.ownedTupleIsFree
  refine wpAny_bind (wpAny_field hz rfl (x := rawInt T) rfl ?_)
  show wpAny _ _ (loadIfAlive ((T : Int)).toNat >>= _) _ _ s
  rw [Int.toNat_natCast]
  refine wpAny_bind (kdx_alive hT ?_)
  simp only [Option.isNone_some, Bool.false_eq_true, if_false]
  refine wpAny_bind (wpAny_field hz rfl (x := .bool f) rfl ?_)
  cases f with
  | true =>
    rw [if_neg (show ¬ ((Value.bool true != Value.bool true) = true) from Bool.false_ne_true)]
    exact wpAny_pure (hQ _ hz (Heap.SameBut.refl _ _))
  | false =>
    rw [if_pos (show (Value.bool false != Value.bool true) = true from rfl)]
    refine wpAny_bind (wpAny_setField_rec hz (by simp) fun h₁ hz₁ hs₁ => ?_)
    exact wpAny_pure (hQ h₁ hz₁ hs₁)
theorem zip_out_item {z TI TO i1 i2 l1 l2 T : Addr} {f : Bool} {oT : Obj} {k : Nat} {xs ys : Array Value} {x y : Value} {Q : Value → Shared → Prop} (D : ZipApart z TI TO i1 i2 l1 l2)
    (hz : ZipO s.heap z TI TO T f) (hT : s.heap.get? T = some oT) (hTI : IsPair s.heap TI (.ref i1) (.ref i2))
    (h1 : s.heap.IsListIter i1 l1 k) (h2 : s.heap.IsListIter i2 l2 k) (hl1 : s.heap.IsList l1 xs) (hl2 : s.heap.IsList l2 ys) (hx : xs[k]? = some x) (hy : ys[k]? = some y)
    (hQ : ∀ h', ZipO h' z TI TO T true → h'.IsListIter i1 l1 (k + 1) → h'.IsListIter i2 l2 (k + 1) → IsPair h' s.heap.objs.size x y →
      (∀ c o, c ≠ z → c ≠ i1 → c ≠ i2 → s.heap.get? c = some o → h'.get? c = some o) → Q (.ref s.heap.objs.size) { s with heap := h' }) :
    wpAny (model prog w) A (Builtin.«zip.__next__» ⟨[.ref z], []⟩) (fun fin s' => ∃ v, fin = .done (.ret v) ∧ Q v s') E s := by
  show wpAny _ _ (field (.ref z) 2 >>= _) _ _ _
  refine wpAny_bind (wpAny_field hz rfl (x := .bool false) rfl ?_)
  show wpAny _ _ (field (.ref z) 3 >>= _) _ _ _
  refine wpAny_bind (wpAny_field hz rfl (x := .ref TI) rfl ?_)
  refine wpAny_bind (wpAny_seqItems hTI rfl ?_)
  show wpAny _ _ (Builtin.SmallTypes.ownedTupleIsFree (.ref z) >>= _) _ _ _
  refine wpAny_bind (zip_held hz hT fun h₁ hz₁ hs₁ => ?_)
  simp only [Bool.false_eq_true, if_false, List.forIn_cons, List.forIn_nil, ← Array.forIn_toList]
  refine wpAny_bind (wpAny_bind (wpAny_bind (wpAny_holding ?_)))
  show wpAny _ _ (Builtin.SmallTypes.nextOf (.ref i1) >>= _) _ _ _
  refine wpAny_bind (wpAny_nextOf_list_item (h1.extBut hs₁.extBut D.i1z) (hl1.extBut hs₁.extBut D.l1z) hx fun h₂ h1₂ hs₂ => wpAny_pure ?_)
  refine wpAny_pure ?_
  refine wpAny_bind (wpAny_bind (wpAny_holding ?_))
  show wpAny _ _ (Builtin.SmallTypes.nextOf (.ref i2) >>= _) _ _ _
  refine wpAny_bind (wpAny_nextOf_list_item ((h2.extBut hs₁.extBut D.i2z).extBut hs₂.extBut D.i12.symm) ((hl2.extBut hs₁.extBut D.l2z).extBut hs₂.extBut D.l2i1) hy fun h₃ h2₃ hs₃ => wpAny_pure ?_)
  refine wpAny_pure ?_
  refine wpAny_pure ?_
  have hz₃ : ZipO h₃ z TI TO T true := hs₃.extBut _ _ D.i2z.symm (hs₂.extBut _ _ D.i1z.symm hz₁)
  have hsz : h₃.objs.size = s.heap.objs.size := by rw [hs₃.1, hs₂.1, hs₁.1]
  have hk₃ : ∀ c o, c ≠ z → c ≠ i1 → c ≠ i2 → s.heap.get? c = some o → h₃.get? c = some o := fun c o c1 c2 c3 e =>
    hs₃.extBut _ _ c3 (hs₂.extBut _ _ c2 (hs₁.extBut _ _ c1 e))
  have h1₃ : h₃.IsListIter i1 l1 (k + 1) := h1₂.extBut hs₃.extBut D.i12
  show wpAny _ _ (newTuple [x, y] >>= _) _ _ _
  refine wpAny_bind (wpAny_newTuple ?_)
  refine wpAny_pure ⟨_, rfl, ?_⟩
  show Q (.ref h₃.objs.size) _
  rw [hsz]
  refine hQ _ (Heap.get?_push_of_some _ hz₃) (h1₃.at fun o e => Heap.get?_push_of_some _ e) (h2₃.at fun o e => Heap.get?_push_of_some _ e) ?_ fun c o c1 c2 c3 e => Heap.get?_push_of_some _ (hk₃ c o c1 c2 c3 e)
  rw [← hsz]
  exact Heap.get?_push_size _ rfl
theorem zip_out_end {z TI TO i1 i2 l1 l2 T : Addr} {f : Bool} {oT : Obj} {k : Nat} {xs ys : Array Value} {Q : Fin → Shared → Prop} (hh : A.handled = none) (D : ZipApart z TI TO i1 i2 l1 l2)
    (hz : ZipO s.heap z TI TO T f) (hT : s.heap.get? T = some oT) (hTI : IsPair s.heap TI (.ref i1) (.ref i2))
    (h1 : s.heap.IsListIter i1 l1 k) (hl1 : s.heap.IsList l1 xs) (hx : xs[k]? = none)
    (hE : ∀ h' e, (∀ c o, c ≠ z → c ≠ i1 → s.heap.get? c = some o → h'.get? c = some o) → (∃ o, h'.get? e = some o ∧ o.cls = .type "StopIteration") → E (.ref e) { s with heap := h' }) :
    wpAny (model prog w) A (Builtin.«zip.__next__» ⟨[.ref z], []⟩) Q E s := by
  show wpAny _ _ (field (.ref z) 2 >>= _) _ _ _
  refine wpAny_bind (wpAny_field hz rfl (x := .bool false) rfl ?_)
  show wpAny _ _ (field (.ref z) 3 >>= _) _ _ _
  refine wpAny_bind (wpAny_field hz rfl (x := .ref TI) rfl ?_)
  refine wpAny_bind (wpAny_seqItems hTI rfl ?_)
  show wpAny _ _ (Builtin.SmallTypes.ownedTupleIsFree (.ref z) >>= _) _ _ _
  refine wpAny_bind (zip_held hz hT fun h₁ hz₁ hs₁ => ?_)
  simp only [Bool.false_eq_true, if_false, List.forIn_cons, List.forIn_nil, ← Array.forIn_toList]
  refine wpAny_bind (wpAny_bind (wpAny_bind (wpAny_holding ?_)))
  show wpAny _ _ (Builtin.SmallTypes.nextOf (.ref i1) >>= _) _ _ _
  refine wpAny_bind (wpAny_nextOf_list_end hh (h1.extBut hs₁.extBut D.i1z) (hl1.extBut hs₁.extBut D.l1z) hx fun h₂ e hs₂ he => ?_)
  exact hE h₂ e (fun c o c1 c2 x => hs₂ _ _ c2 (hs₁.extBut _ _ c1 x)) he
/-- where a zip over two lists stands, as its pairs are kept -/
noncomputable def ZipSt (h : Heap) (z TI TO i1 i2 l1 l2 S : Addr) (xs ys : Array Value) (i : Nat) : Prop :=
  ((i = 0 ∧ IsZip h z TI TO .none ∧ ∃ a b, IsPair h TO a b) ∨ ∃ T f oT, ZipO h z TI TO T f ∧ h.get? T = some oT ∧ T ≠ z ∧ T ≠ i1 ∧ T ≠ i2 ∧ T ≠ S) ∧
  IsPair h TI (.ref i1) (.ref i2) ∧ h.IsListIter i1 l1 i ∧ h.IsListIter i2 l2 i ∧ h.IsList l1 xs ∧ h.IsList l2 ys
theorem zipst_item {z TI TO i1 i2 l1 l2 S : Addr} {xs ys : Array Value} {i : Nat} {x y : Value} {Q : Option Value → Shared → Prop} (D : ZipApart z TI TO i1 i2 l1 l2) (hst : ZipSt s.heap z TI TO i1 i2 l1 l2 S xs ys i) (hS : S < s.heap.objs.size)
    (hx : xs[i]? = some x) (hy : ys[i]? = some y)
    (hQ : ∀ h', ZipSt h' z TI TO i1 i2 l1 l2 S xs ys (i + 1) → IsPair h' s.heap.objs.size x y → (∀ c o, c ≠ z → c ≠ TO → c ≠ i1 → c ≠ i2 → s.heap.get? c = some o → h'.get? c = some o) → Q (some (.ref s.heap.objs.size)) { s with heap := h' }) :
    wpAny (model prog w) A (pyNext (.ref z)) Q E s := by
  obtain ⟨h0, hTI, h1, h2, hl1, hl2⟩ := hst
  have lt1 : i1 < s.heap.objs.size := by obtain ⟨_, e, _⟩ := h1; exact Heap.lt_size e
  have lt2 : i2 < s.heap.objs.size := by obtain ⟨_, e, _⟩ := h2; exact Heap.lt_size e
  rcases h0 with ⟨_, hz, a, b, hTO⟩ | ⟨T, f, oT, hz, hT, t1, t2, t3, t4⟩
  · refine wpAny_pyNext_zip_item D hz hTI hTO h1 h2 hl1 hl2 hx hy fun h' a1 a2 a3 a4 a5 _ hk => ?_
    refine hQ h' ⟨.inr ⟨_, false, _, a1, a5, Nat.ne_of_gt (Heap.lt_size hz), Nat.ne_of_gt lt1, Nat.ne_of_gt lt2, Nat.ne_of_gt hS⟩, hk _ _ D.TIz D.TITO D.TIi1 D.TIi2 hTI, a3, a4, hl1.at fun o e => hk _ o D.l1z D.l1TO D.l1i1 D.l1i2 e, hl2.at fun o e => hk _ o D.l2z D.l2TO D.l2i1 D.l2i2 e⟩ a5 hk
  · have hTy : s.TypeIs (.ref z) "zip" := ⟨_, hz, rfl⟩
    unfold pyNext
    exact wpAny_bind (wpAny_attempt (wpAny_callSpecial?_slot (name := Str.ofString "__next__") hTy PySem.F.slot_zip_next
      (wpAny_call_entry PySem.F.slot_zip_next hTy PySem.F.entry_zip_next
        (zip_out_item D hz hT hTI h1 h2 hl1 hl2 hx hy fun h' a1 a3 a4 a5 hk => wpAny_pure (hQ h' ⟨.inr ⟨T, true, oT, a1, hk _ _ t1 t2 t3 hT, t1, t2, t3, t4⟩, hk _ _ D.TIz D.TIi1 D.TIi2 hTI, a3, a4, hl1.at fun o e => hk _ o D.l1z D.l1i1 D.l1i2 e, hl2.at fun o e => hk _ o D.l2z D.l2i1 D.l2i2 e⟩ a5 fun c o c1 _ c3 c4 e => hk c o c1 c3 c4 e)) (PySem.F.args_zip_next_1 _))))
theorem zipst_end {z TI TO i1 i2 l1 l2 S : Addr} {xs ys : Array Value} {i : Nat} {Q : Option Value → Shared → Prop} (hh : A.handled = none) (D : ZipApart z TI TO i1 i2 l1 l2) (hst : ZipSt s.heap z TI TO i1 i2 l1 l2 S xs ys i) (hx : xs[i]? = none)
    (hQ : ∀ h', (∀ c o, c ≠ z → c ≠ TO → c ≠ i1 → c ≠ i2 → s.heap.get? c = some o → h'.get? c = some o) → Q none { s with heap := h' }) : wpAny (model prog w) A (pyNext (.ref z)) Q E s := by
  obtain ⟨h0, hTI, h1, h2, hl1, hl2⟩ := hst
  rcases h0 with ⟨_, hz, a, b, hTO⟩ | ⟨T, f, oT, hz, hT, t1, t2, t3, t4⟩
  · exact wpAny_pyNext_zip_end hh D hz hTI hTO h1 h2 hl1 hl2 (.inl hx) hQ
  · have hTy : s.TypeIs (.ref z) "zip" := ⟨_, hz, rfl⟩
    unfold pyNext
    refine wpAny_bind (wpAny_attempt (wpAny_callSpecial?_slot (name := Str.ofString "__next__") hTy PySem.F.slot_zip_next
      (wpAny_call_entry PySem.F.slot_zip_next hTy PySem.F.entry_zip_next (zip_out_end (ys := ys) hh D hz hT hTI h1 hl1 hx fun h' e hk he => ?_) (PySem.F.args_zip_next_1 _))))
    obtain ⟨o, ho, hc⟩ := he
    refine wpAny_bind (wpAny_isInstance (T := "StopIteration") (b := true) ⟨o, ho, hc⟩ isSubtype_stop ?_)
    exact wpAny_pure (hQ _ fun c o c1 _ c3 _ e => hk c o c1 c3 e)
end
/-- the kept pairs: addresses in rising order -/
structure ZipG (xs ys : Array Value) (lo : Addr) (h : Heap) (as : List Addr) : Prop where
  above : ∀ a ∈ as, lo < a
  pairs : ∀ (j : Nat) (a : Addr), as[j]? = some a → ∃ x y, xs[j]? = some x ∧ ys[j]? = some y ∧ IsPair h a x y
section
variable {prog : Program} {w : World} {A : Around} {E : Value → Shared → Prop} {s : Shared} {R : Result → Shared → Prop} {xs ys : Array Value}
theorem zip_loop {S z TI TO i1 i2 l1 l2 : Addr} {lo : Addr} (hh : A.handled = none) (D : ZipApart z TI TO i1 i2 l1 l2) (hSz : S ≠ z) (hSTI : S ≠ TI) (hSTO : S ≠ TO) (hSi1 : S ≠ i1) (hSi2 : S ≠ i2) (hSl1 : S ≠ l1) (hSl2 : S ≠ l2) (hlS : S ≤ lo) (hlz : z ≤ lo) (hlTO : TO ≤ lo) (hli1 : i1 ≤ lo) (hli2 : i2 ≤ lo)
    (hxy : xs.size = ys.size) (hn : xs.size ≤ sizeLine) (res : Value) {h₁ : Heap}
    (hR : ∀ h' tk acc c as, (∀ b o, b ≠ S → b ≠ z → b ≠ TO → b ≠ i1 → b ≠ i2 → h₁.get? b = some o → h'.get? b = some o) → h'.get? S = some { cls := .type "list", dict := none, data := .seq acc c, slots := #[] } → as.length = xs.size → ZipG xs ys lo h' as →
      acc.toList = as.map Value.ref → R (.ok (.ret res)) { s with heap := h', toks := tk }) :
    ∀ (k i : Nat) (h : Heap) (tk c : Nat) (acc : Array Value) (as : List Addr), xs.size - i = k → i ≤ xs.size → ZipSt h z TI TO i1 i2 l1 l2 S xs ys i → (∀ b o, b ≠ S → b ≠ z → b ≠ TO → b ≠ i1 → b ≠ i2 → h₁.get? b = some o → h.get? b = some o) →
      h.get? S = some { cls := .type "list", dict := none, data := .seq acc c, slots := #[] } → acc.toList = as.map Value.ref → as.length = i → ZipG xs ys lo h as → lo < h.objs.size →
      codeAny (model prog w) A (.builtin "list.extend.loop" ⟨[.ref S, .ref z, res], []⟩) R { s with heap := h, toks := tk } := by
  intro k
  induction k with
  | zero =>
    intro i h tk c acc as hk hi hst hkeep hS hacc hal hG hIs
    have hin : i = xs.size := by omega
    refine codeAny_builtin PySem.F.entry_extend_loop ?_
    rw [Around.under_plainId PySem.F.plain_extend_loop _]
    show wpAny _ A.in1 (pyNext (.ref z) >>= _) _ _ _
    refine wpAny_bind (zipst_end (s := { s with heap := h, toks := tk }) (A := A.in1) hh D hst (Array.getElem?_eq_none (by omega)) fun h' he => ?_)
    refine wpAny_pure (hR h' tk acc c as (fun b o h1 h2 h3 h4 h5 e => he b o h2 h3 h4 h5 (hkeep b o h1 h2 h3 h4 h5 e)) (he S _ hSz hSTO hSi1 hSi2 hS) (by omega) ⟨hG.above, fun j a hj => ?_⟩ hacc)
    obtain ⟨x, y, e1, e2, e3⟩ := hG.pairs j a hj
    have hb := hG.above a (List.mem_of_getElem? hj)
    exact ⟨x, y, e1, e2, he a _ (Nat.ne_of_gt (Nat.lt_of_le_of_lt hlz hb)) (Nat.ne_of_gt (Nat.lt_of_le_of_lt hlTO hb)) (Nat.ne_of_gt (Nat.lt_of_le_of_lt hli1 hb)) (Nat.ne_of_gt (Nat.lt_of_le_of_lt hli2 hb)) e3⟩
  | succ k ih =>
    intro i h tk c acc as hk hi hst hkeep hS hacc hal hG hIs
    have hlt : i < xs.size := by omega
    have hx : xs[i]? = some xs[i] := Array.getElem?_eq_getElem hlt
    have hlt2 : i < ys.size := by omega
    have hy : ys[i]? = some ys[i] := Array.getElem?_eq_getElem hlt2
    have hsz : acc.size = i := by rw [← Array.length_toList, hacc, List.length_map, hal]
    refine codeAny_builtin PySem.F.entry_extend_loop ?_
    rw [Around.under_plainId PySem.F.plain_extend_loop _]
    show wpAny _ A.in1 (pyNext (.ref z) >>= _) _ _ _
    refine wpAny_bind (zipst_item (s := { s with heap := h, toks := tk }) (S := S) D hst (Heap.lt_size hS) hx hy fun h' hst' ht hkp => ?_)
    dsimp only at ht hkp ⊢
    have hS' := hkp S _ hSz hSTO hSi1 hSi2 hS
    have up : ∀ b o, b ≠ S → h'.get? b = some o → (h'.update S (Obj.mapSeq (·.push (Value.ref h.objs.size)))).get? b = some o := fun b o hb e => (Heap.get?_update_other _ _ (Ne.symm hb)).trans e
    have hSl : S < h.objs.size := Heap.lt_size hS
    have keepSt : ZipSt (h'.update S (Obj.mapSeq (·.push (Value.ref h.objs.size)))) z TI TO i1 i2 l1 l2 S xs ys (i + 1) := by
      obtain ⟨h0, q1, q2, q3, q4, q5⟩ := hst'
      refine ⟨?_, up _ _ (Ne.symm hSTI) q1, q2.at fun o e => up _ o (Ne.symm hSi1) e, q3.at fun o e => up _ o (Ne.symm hSi2) e, q4.at fun o e => up _ o (Ne.symm hSl1) e, q5.at fun o e => up _ o (Ne.symm hSl2) e⟩
      rcases h0 with ⟨e, _⟩ | ⟨T, f, oT, hz, hT, t1, t2, t3, t4⟩
      · exact absurd e (Nat.succ_ne_zero _)
      · exact .inr ⟨T, f, oT, up _ _ (Ne.symm hSz) hz, up _ _ t4 hT, t1, t2, t3, t4⟩
    show wpAny _ A.in1 (updateSeq S (·.push (Value.ref h.objs.size)) >>= _) _ _ _
    refine wpAny_bind ?_
    refine wpAny_updateSeq hS' rfl (wpAny_pure ⟨plainId_quiet PySem.F.plain_extend_loop _, ih (i + 1) _ tk _ (acc.push (Value.ref h.objs.size)) (as ++ [h.objs.size]) (by omega) hlt keepSt
      (fun b o h1 h2 h3 h4 h5 e => up b o h1 (hkp b o h2 h3 h4 h5 (hkeep b o h1 h2 h3 h4 h5 e))) (Heap.get?_update_self _ hS' rfl) (by rw [Array.toList_push, hacc, List.map_append]; rfl) (by rw [List.length_append, hal]; rfl) ⟨?_, ?_⟩ ?_⟩) (by rw [hsz]; omega) (by show (acc.push (Value.ref h.objs.size)).size ≤ sizeLine + 1; rw [Array.size_push, hsz]; omega)
    · intro a ha
      rcases List.mem_append.mp ha with ha | ha
      · exact hG.above a ha
      · rw [List.mem_singleton.mp ha]; exact hIs
    · intro j b hj
      rcases Nat.lt_trichotomy j as.length with h1 | h1 | h1
      · rw [List.getElem?_append_left h1] at hj
        obtain ⟨x', y', e1, e2, e3⟩ := hG.pairs j b hj
        have hb := hG.above b (List.mem_of_getElem? hj)
        exact ⟨x', y', e1, e2, up b _ (Nat.ne_of_gt (Nat.lt_of_le_of_lt hlS hb)) (hkp b _ (Nat.ne_of_gt (Nat.lt_of_le_of_lt hlz hb)) (Nat.ne_of_gt (Nat.lt_of_le_of_lt hlTO hb)) (Nat.ne_of_gt (Nat.lt_of_le_of_lt hli1 hb)) (Nat.ne_of_gt (Nat.lt_of_le_of_lt hli2 hb)) e3)⟩
      · subst h1
        have hb : h.objs.size = b := by simpa using hj
        subst hb
        exact ⟨_, _, by rw [hal]; exact hx, by rw [hal]; exact hy, up _ _ (Nat.ne_of_gt hSl) ht⟩
      · have hnone : (as ++ [h.objs.size])[j]? = none := List.getElem?_eq_none (by rw [List.length_append, List.length_singleton]; omega)
        rw [hnone] at hj; cases hj
    · have e : (h'.update S (Obj.mapSeq (·.push (Value.ref h.objs.size)))).get? h.objs.size = _ := up _ _ (Nat.ne_of_gt hSl) ht
      exact Nat.lt_trans hIs (Heap.lt_size e)
end
theorem zip_nolen : typeLookup (.type "zip") "__len__" = pure none := by rw [typeLookup_type, builtinLookup_eq_fast]; kernel_rfl
theorem zip_nohint : typeLookup (.type "zip") "__length_hint__" = pure none := by rw [typeLookup_type, builtinLookup_eq_fast]; kernel_rfl
section
variable {prog : Program} {w : World} {A : Around} {E : Value → Shared → Prop} {s : Shared}
theorem zip_hint {r : Addr} (hT : s.TypeIs (.ref r) "zip") {Q : Bool → Shared → Prop} (h : Q true s) : wpAny (model prog w) A (Builtin.List.listLengthHint (.ref r)) Q E s := by
  unfold Builtin.List.listLengthHint
  refine wpAny_bind (wpAny_specialOf hT zip_nolen ?_)
  show wpAny _ _ (specialOf (Value.ref r) (Str.ofString "__length_hint__") >>= _) _ _ _
  refine wpAny_bind (wpAny_specialOf hT zip_nohint ?_)
  exact wpAny_pure h
/-- a zip over two lists, at its start -/
structure ZipNew (h : Heap) (z TI TO i1 i2 l1 l2 : Addr) (xs ys : Array Value) : Prop where
  D : ZipApart z TI TO i1 i2 l1 l2
  hz : IsZip h z TI TO .none
  hTI : IsPair h TI (.ref i1) (.ref i2)
  hTO : ∃ a b, IsPair h TO a b
  h1 : h.IsListIter i1 l1 0
  h2 : h.IsListIter i2 l2 0
  hl1 : h.IsList l1 xs
  hl2 : h.IsList l2 ys
theorem ZipNew.at {h h' : Heap} {z TI TO i1 i2 l1 l2 : Addr} {xs ys : Array Value} (x : ZipNew h z TI TO i1 i2 l1 l2 xs ys) (hk : ∀ b, b ∈ [z, TI, TO, i1, i2, l1, l2] → ∀ o, h.get? b = some o → h'.get? b = some o) : ZipNew h' z TI TO i1 i2 l1 l2 xs ys :=
  ⟨x.D, hk z (by simp) _ x.hz, hk TI (by simp) _ x.hTI, (let ⟨a, b, e⟩ := x.hTO; ⟨a, b, hk TO (by simp) _ e⟩), x.h1.at fun o e => hk i1 (by simp) o e, x.h2.at fun o e => hk i2 (by simp) o e, x.hl1.at fun o e => hk l1 (by simp) o e, x.hl2.at fun o e => hk l2 (by simp) o e⟩
theorem ZipNew.lt {h : Heap} {z TI TO i1 i2 l1 l2 : Addr} {xs ys : Array Value} (x : ZipNew h z TI TO i1 i2 l1 l2 xs ys) : ∀ b ∈ [z, TI, TO, i1, i2, l1, l2], b < h.objs.size := by
  intro b hb
  simp only [List.mem_cons, List.not_mem_nil, or_false] at hb
  rcases hb with rfl | rfl | rfl | rfl | rfl | rfl | rfl
  · exact Heap.lt_size x.hz
  · exact Heap.lt_size x.hTI
  · obtain ⟨_, _, e⟩ := x.hTO; exact Heap.lt_size e
  · obtain ⟨_, e, _⟩ := x.h1; exact Heap.lt_size e
  · obtain ⟨_, e, _⟩ := x.h2; exact Heap.lt_size e
  · obtain ⟨_, e, _⟩ := x.hl1; exact Heap.lt_size e
  · obtain ⟨_, e, _⟩ := x.hl2; exact Heap.lt_size e
theorem zip_extend {R : Result → Shared → Prop} {z TI TO i1 i2 l1 l2 : Addr} {xs ys : Array Value} (hh : A.handled = none) (hv : ZipNew s.heap z TI TO i1 i2 l1 l2 xs ys) (S : Addr) (hSn : S ∉ [z, TI, TO, i1, i2, l1, l2]) (hlo : ∀ b ∈ [z, TI, TO, i1, i2, l1, l2], b ≤ S) (hxy : xs.size = ys.size) (res : Value) (c₀ : Nat) (hS : s.heap.get? S = some { cls := .type "list", data := .seq #[] c₀ })
    (hR : ∀ h' tk acc c as, (∀ b o, b ≠ S → b ≠ z → b ≠ TO → b ≠ i1 → b ≠ i2 → s.heap.get? b = some o → h'.get? b = some o) → h'.get? S = some { cls := .type "list", dict := none, data := .seq acc c, slots := #[] } → as.length = xs.size → ZipG xs ys S h' as →
      acc.toList = as.map Value.ref → R (.ok (.ret res)) { s with heap := h', toks := tk }) (hn : xs.size ≤ sizeLine) :
    wpAny (model prog w) A.in1 (Builtin.List.listExtendWith (.ref S) (.ref z) res)
      (fun fin s' => match fin with | .done f => R (.ok f) s' | .again c' => c'.quiet = true ∧ codeAny (model prog w) A c' R s') (fun e s' => R (.error e) s') s := by
  simp only [List.mem_cons, List.not_mem_nil, or_false, not_or] at hSn
  obtain ⟨n1, n2, n3, n4, n5, n6, n7⟩ := hSn
  have hT : s.TypeIs (.ref z) "zip" := ⟨_, hv.hz, rfl⟩
  have key : ∀ (h : Heap) (c₁ tk : Nat), (∀ b o, b ≠ S → s.heap.get? b = some o → h.get? b = some o) →
      h.get? S = some { cls := .type "list", data := .seq #[] c₁ } → codeAny (model prog w) A (.builtin "list.extend.loop" ⟨[.ref S, .ref z, res], []⟩) R { s with heap := h, toks := tk } := by
    intro h c₁ tk hk hS₁
    have hv' : ZipNew h z TI TO i1 i2 l1 l2 xs ys := hv.at fun b hb o e => hk b o (by
      intro e; subst e
      simp only [List.mem_cons, List.not_mem_nil, or_false] at hb
      rcases hb with e | e | e | e | e | e | e
      · exact n1 e
      · exact n2 e
      · exact n3 e
      · exact n4 e
      · exact n5 e
      · exact n6 e
      · exact n7 e) e
    refine zip_loop (s := s) (h₁ := s.heap) (lo := S) hh hv.D n1 n2 n3 n4 n5 n6 n7 (Nat.le_refl _) (hlo _ (by simp)) (hlo _ (by simp)) (hlo _ (by simp)) (hlo _ (by simp)) hxy hn res (fun h' tk' acc c as hk' hS' hl hG hacc => hR h' tk' acc c as hk' hS' hl hG hacc)
      xs.size 0 h tk c₁ #[] [] (Nat.sub_zero _) (Nat.zero_le _) ⟨.inl ⟨rfl, hv'.hz, hv'.hTO⟩, hv'.hTI, hv'.h1, hv'.h2, hv'.hl1, hv'.hl2⟩ (fun b o hb _ _ _ _ e => hk b o hb e) hS₁ rfl rfl
      ⟨(fun _ ha => nomatch ha), (fun j a hj => by simp at hj)⟩ (Heap.lt_size hS₁)
  unfold Builtin.List.listExtendWith
  refine wpAny_bind (wpAny_typeOf (T := "zip") hT ?_)
  have h1 : Builtin.List.listSameRef (.ref S) (.ref z) = false := by simp [Builtin.List.listSameRef, n1]
  have h2 : (Value.type "zip" == Value.type "list") = false := by decide
  have h3 : (Value.type "zip" == Value.type "tuple") = false := by decide
  simp only [h1, h2, h3, Bool.or_false, Bool.false_eq_true, if_false]
  refine wpAny_bind (wpAny_pyIter_zip hv.hz ?_)
  refine wpAny_bind (wpAny_holding (zip_hint hT ?_))
  refine wpAny_ite_split (fun _ => ?_) (fun _ => wpAny_pure ⟨plainId_quiet PySem.F.plain_extend_loop _, key _ c₀ _ (fun b o _ e => e) hS⟩)
  refine wpAny_bind (wpAny_rule ?_)
  refine wpAny_bind ?_
  show wpAny _ _ (updateSeq S (·.push .none) >>= fun _ => updateSeq S (·.pop)) _ _ _
  refine wpAny_bind (wpAny_updateSeq hS rfl ?_)
  have hS₂ := Heap.get?_update_self (Obj.mapSeq (·.push Value.none)) hS rfl
  refine wpAny_updateSeq (hz := by seq_fits) hS₂ rfl ?_
  have hS₃ := Heap.get?_update_self (Obj.mapSeq (·.pop)) hS₂ rfl
  refine wpAny_pure ⟨plainId_quiet PySem.F.plain_extend_loop _, key _ _ _ (fun b o hb e => ?_) hS₃⟩
  exact (Heap.get?_update_other _ _ (Ne.symm hb)).trans ((Heap.get?_update_other _ _ (Ne.symm hb)).trans e)
theorem zip_init {R : Result → Shared → Prop} {z TI TO i1 i2 l1 l2 : Addr} {xs ys : Array Value} (hh : A.handled = none) (hv : ZipNew s.heap z TI TO i1 i2 l1 l2 xs ys) (S : Addr) (hSn : S ∉ [z, TI, TO, i1, i2, l1, l2]) (hlo : ∀ b ∈ [z, TI, TO, i1, i2, l1, l2], b ≤ S) (hxy : xs.size = ys.size) (hS : s.heap.get? S = some { cls := .type "list", data := .seq #[] })
    (hR : ∀ h' tk acc c as, (∀ b o, b ≠ S → b ≠ z → b ≠ TO → b ≠ i1 → b ≠ i2 → s.heap.get? b = some o → h'.get? b = some o) → h'.get? S = some { cls := .type "list", dict := none, data := .seq acc c, slots := #[] } → as.length = xs.size → ZipG xs ys S h' as →
      acc.toList = as.map Value.ref → R (.ok (.ret .none)) { s with heap := h', toks := tk }) (hn : xs.size ≤ sizeLine) :
    wpAny (model prog w) A.in1 (Builtin.«list.__init__» ⟨[.ref S, .ref z], []⟩)
      (fun fin s' => match fin with | .done f => R (.ok f) s' | .again c' => c'.quiet = true ∧ codeAny (model prog w) A c' R s') (fun e s' => R (.error e) s') s := by
  show wpAny _ _ (do let old ← Builtin.List.listItems (.ref S); Builtin.List.listUpdate (.ref S) (fun _ => #[]); letGo old.toList.reverse; Builtin.List.listExtendWith (.ref S) (.ref z) .none) _ _ s
  refine wpAny_bind ?_
  unfold Builtin.List.listItems
  refine wpAny_bind (wpAny_seqItems hS rfl (wpAny_pure ?_))
  show wpAny _ _ (updateSeq S (fun _ => #[]) >>= fun _ => letGo (#[] : Array Value).toList.reverse >>= fun _ => Builtin.List.listExtendWith (.ref S) (.ref z) .none) _ _ s
  refine wpAny_bind (wpAny_updateSeq hS rfl ?_)
  have hS₂ := Heap.get?_update_self (Obj.mapSeq (fun _ => (#[] : Array Value))) hS rfl
  have oth : ∀ b o, b ≠ S → s.heap.get? b = some o → (s.heap.update S (Obj.mapSeq (fun _ => (#[] : Array Value)))).get? b = some o :=
    fun b o hb e => (Heap.get?_update_other _ _ (Ne.symm hb)).trans e
  refine wpAny_bind (wpAny_letGo ?_)
  refine zip_extend hh (hv.at fun b hb o e => oth b o (fun e => hSn (e ▸ hb)) e) S hSn hlo hxy .none _ hS₂ (fun h' tk acc c as hk hS' hl hG hacc => ?_) hn
  exact hR h' tk acc c as (fun b o hb h1 h2 h3 h4 e => hk b o hb h1 h2 h3 h4 (oth b o hb e)) hS' hl hG hacc
theorem zip_list {z TI TO i1 i2 l1 l2 : Addr} {xs ys : Array Value} {Q : Value → Shared → Prop} (hh : A.handled = none) (hv : ZipNew s.heap z TI TO i1 i2 l1 l2 xs ys) (hxy : xs.size = ys.size) (hn : xs.size ≤ sizeLine)
    (hQ : ∀ h' tk acc c as, (∀ b o, b ≠ z → b ≠ TO → b ≠ i1 → b ≠ i2 → s.heap.get? b = some o → h'.get? b = some o) → h'.get? s.heap.objs.size = some { cls := .type "list", dict := none, data := .seq acc c, slots := #[] } → as.length = xs.size → ZipG xs ys s.heap.objs.size h' as →
      acc.toList = as.map Value.ref → Q (.ref s.heap.objs.size) { s with heap := h', toks := tk }) :
    wpAny (model prog w) A (call (.type "list") [.ref z]) Q E s := by
  refine callType_codes (Q₁ := fun obj s₁ => obj = .ref s.heap.objs.size ∧ s₁ = { s with heap := s.heap.push { cls := .type "list", data := .seq #[] } }) PySem.F.called_list (PySem.F.typeCall_list_1 _) PySem.F.entry_list_init
    (code_list_new _ ⟨rfl, rfl⟩) fun obj s₁ h₁ => ?_
  obtain ⟨rfl, rfl⟩ := h₁
  have hS : (s.heap.push { cls := .type "list", data := .seq #[] }).get? s.heap.objs.size = some { cls := .type "list", data := .seq #[] } := Heap.get?_push_size _ rfl
  have hlt := hv.lt
  refine ⟨⟨_, hS, rfl⟩, PySem.F.args_list_init_2 _ _, zip_init (A := A.in1) hh (hv.at fun b hb o e => Heap.get?_push_of_some _ e) _ (fun hm => Nat.lt_irrefl _ (hlt _ hm)) (fun b hb => Nat.le_of_lt (hlt b hb)) hxy hS (fun h' tk acc c as hk hS' hl hG hacc => ?_) hn⟩
  exact ⟨rfl, hQ h' tk acc c as (fun b o h1 h2 h3 h4 e => hk b o (Nat.ne_of_lt (Heap.lt_size e)) h1 h2 h3 h4 (Heap.get?_push_of_some _ e)) hS' hl hG hacc⟩
end
end Mine
end
section
open PySem PySem.Calls PySem.W PyProof.Rows PySem.Spec
set_option Elab.async false
set_option maxRecDepth 100000
set_option maxHeartbeats 1000000
set_option linter.unusedVariables false
namespace Mine
/-- the ledger's zip of two lists of texts, at its start -/
noncomputable def ZipMark (h₀ : Heap) (L : Addr) (h : Heap) (news : List (Addr × Obj)) (z : Addr) (ps : List Pr) : Prop :=
  ∃ TI TO i1 i2 l1 l2 vs us ls ms, ZipNew h z TI TO i1 i2 l1 l2 (List.toArray vs) (List.toArray us) ∧ TxtsAre vs ls ∧ TxtsAre us ms ∧ ls.length = ms.length ∧ ls.length ≤ 10000 ∧ ps = ls.zip ms ∧ ∀ b ∈ [z, TO, i1, i2], L < b ∧ h₀.get? b = none ∧ ∀ q ∈ news, q.1 < b
section
variable {prog : Program} {w : World} {A : Around} {E : Value → Shared → Prop} {s : Shared} {h₀ : Heap} {L : Addr} {m : Str → Option Value} {news : List (Addr × Obj)} {Q : Value → Shared → Prop}
theorem zip_callN {l1 l2 : Addr} {vs us : List Value} {ls ms : List (List Nat)} {k1 k2 : Nat} (F : Fr h₀ L s.heap m) (N : News h₀ L s.heap news) (hm1 : (l1, listOf vs.toArray k1) ∈ news) (hm2 : (l2, listOf us.toArray k2) ∈ news) (hi1 : TxtsAre vs ls) (hi2 : TxtsAre us ms) (hl : ls.length = ms.length) (hz : ls.length ≤ 10000)
    (h : ∀ z h', ZipMark h₀ L h' news z (ls.zip ms) → Fr h₀ L h' m → News h₀ L h' news → Q (.ref z) { s with heap := h' }) :
    wpAny (model prog w) A (call (.type "zip") [.ref l1, .ref l2]) Q E s := by
  have a1 : s.heap.IsList l1 vs.toArray := ⟨_, (N _ hm1).1, rfl, k1, rfl⟩
  have a2 : s.heap.IsList l2 us.toArray := ⟨_, (N _ hm2).1, rfl, k2, rfl⟩
  have b1 : l1 < s.heap.objs.size := Heap.lt_size (N _ hm1).1
  have b2 : l2 < s.heap.objs.size := Heap.lt_size (N _ hm2).1
  refine call_zip_2 a1 a2 fun h' hz' hTI hTO hi1' hi2' _ hk => h _ h' ⟨_, _, _, _, _, _, _, _, ls, ms, ⟨zipApart_new b1 b2, hz', hTI, ⟨_, _, hTO⟩, hi1', hi2', a1.at fun o e => hk _ o e, a2.at fun o e => hk _ o e⟩, hi1, hi2, hl, hz, rfl, ?_⟩ (F.keeps hk) (fun p hp => ⟨hk _ _ (N p hp).1, (N p hp).2⟩)
  have hb : ∀ b : Nat, s.heap.objs.size ≤ b → L < b ∧ h₀.get? b = none ∧ ∀ q ∈ news, q.1 < b := fun b hb =>
    ⟨Nat.lt_of_lt_of_le F.ns.lt hb, (kdx_fresh F hb).2, fun q hq => Nat.lt_of_lt_of_le (Heap.lt_size (N q hq).1) hb⟩
  intro b hbm
  simp only [List.mem_cons, List.not_mem_nil, or_false] at hbm
  rcases hbm with rfl | rfl | rfl | rfl
  · exact hb _ (Nat.le_add_right _ 4)
  · exact hb _ (Nat.le_add_right _ 3)
  · exact hb _ (Nat.le_refl _)
  · exact hb _ (Nat.le_add_right _ 1)
theorem pairs_ledger {h : Heap} {lo : Addr} {vs us : List Value} {ls ms : List (List Nat)} (h1 : TxtsAre vs ls) (h2 : TxtsAre us ms) {as : List Addr} (hG : ZipG vs.toArray us.toArray lo h as) (hl : ls.length = ms.length) (ha : as.length = ls.length) :
    ∃ tups : List (Addr × Obj), PairsAre tups (as.map Value.ref) (ls.zip ms) ∧ ∀ q ∈ tups, lo < q.1 ∧ h.get? q.1 = some q.2 := by
  have key : ∀ (n : Nat) (as : List Addr) (qs : List Pr), as.length = n → qs.length = n → (∀ (j : Nat) (a : Addr), as[j]? = some a → lo < a ∧ ∃ (p : Pr) (t1 t2 : Tok), qs[j]? = some p ∧ h.get? a = some (tupOf [.str (mkS p.1) t1, .str (mkS p.2) t2])) →
      ∃ tups : List (Addr × Obj), PairsAre tups (as.map Value.ref) qs ∧ ∀ q ∈ tups, lo < q.1 ∧ h.get? q.1 = some q.2 := by
    intro n
    induction n with
    | zero =>
      intro as qs e1 e2 _
      have e1 := List.length_eq_zero_iff.mp e1
      have e2 := List.length_eq_zero_iff.mp e2
      subst e1 e2
      exact ⟨[], .nil, fun q hq => nomatch hq⟩
    | succ n ih =>
      intro as qs e1 e2 hp
      match as, qs, e1, e2 with
      | a :: as, q :: qs, e1, e2 =>
        obtain ⟨tups, hP, hT⟩ := ih as qs (by simpa using e1) (by simpa using e2) (fun j a' hj => by
          obtain ⟨hlt, p, t1, t2, f1, f2⟩ := hp (j + 1) a' (by simpa using hj)
          exact ⟨hlt, p, t1, t2, by simpa using f1, f2⟩)
        obtain ⟨hlt, p, t1, t2, f1, f2⟩ := hp 0 a rfl
        have ep : q = p := by simpa using f1
        subst ep
        refine ⟨(a, tupOf [.str (mkS q.1) t1, .str (mkS q.2) t2]) :: tups, .cons (.head _) (hP.mono fun r hr => .tail _ hr), fun r hr => ?_⟩
        rcases List.mem_cons.mp hr with rfl | hr
        · exact ⟨hlt, f2⟩
        · exact hT r hr
  refine key ls.length as (ls.zip ms) ha (by rw [List.length_zip]; omega) fun j a hj => ?_
  obtain ⟨x, y, e1, e2, e3⟩ := hG.pairs j a hj
  have e1' : vs[j]? = some x := by simpa using e1
  have e2' : us[j]? = some y := by simpa using e2
  obtain ⟨p, t1, hp, rfl⟩ := h1.item e1'
  obtain ⟨q, t2, hq, rfl⟩ := h2.item e2'
  exact ⟨hG.above a (List.mem_of_getElem? hj), (p, q), t1, t2, List.getElem?_zip_eq_some.mpr ⟨hp, hq⟩, e3⟩
theorem zip_listN {z : Addr} {ps : List Pr} (hh : A.handled = none) (F : Fr h₀ L s.heap m) (N : News h₀ L s.heap news) (hmk : ZipMark h₀ L s.heap news z ps)
    (h : ∀ D ws k tups h' tk, PairsAre tups ws ps → ps.length ≤ 10000 → (∀ q ∈ news, q ∈ tups) → Fr h₀ L h' m → News h₀ L h' ((D, listOf ws.toArray k) :: tups) → (∀ q ∈ news, q.1 < D) → Q (.ref D) { s with heap := h', toks := tk }) :
    wpAny (model prog w) A (call (.type "list") [.ref z]) Q E s := by
  obtain ⟨TI, TO, i1, i2, l1, l2, vs, us, ls, ms, hv, hi1, hi2, hl, hz, rfl, hfr⟩ := hmk
  have e1 : vs.length = ls.length := by have := hi1.len_eq; rw [List.length_map] at this; exact this
  have e2 : us.length = ms.length := by have := hi2.len_eq; rw [List.length_map] at this; exact this
  have hsz : sizeLine = 2 ^ 24 := rfl
  refine zip_list hh hv (by rw [List.size_toArray, List.size_toArray]; omega) (by rw [List.size_toArray]; omega) fun h' tk acc c as hk hS hal hG hacc => ?_
  rw [List.size_toArray] at hal
  obtain ⟨tups, hP, hT⟩ := pairs_ledger hi1 hi2 hG hl (by omega)
  have ea : acc = (as.map Value.ref).toArray := by rw [← hacc, Array.toArray_toList]
  obtain ⟨f1, g1, k1⟩ := hfr z (by simp)
  obtain ⟨f2, g2, k2⟩ := hfr TO (by simp)
  obtain ⟨f3, g3, k3⟩ := hfr i1 (by simp)
  obtain ⟨f4, g4, k4⟩ := hfr i2 (by simp)
  have hL : ∀ o, s.heap.get? L = some o → h'.get? L = some o := fun o e => hk L o (Nat.ne_of_lt f1) (Nat.ne_of_lt f2) (Nat.ne_of_lt f3) (Nat.ne_of_lt f4) e
  have F' : Fr h₀ L h' m := ⟨F.ns.at hL, fun b o e => hk b o (by intro eb; subst eb; rw [g1] at e; cases e) (by intro eb; subst eb; rw [g2] at e; cases e) (by intro eb; subst eb; rw [g3] at e; cases e) (by intro eb; subst eb; rw [g4] at e; cases e) (F.keep b o e), F.above⟩
  refine h s.heap.objs.size (as.map Value.ref) c (tups ++ news) h' tk (hP.mono fun q hq => List.mem_append.mpr (.inl hq)) (by rw [List.length_zip]; omega) (fun q hq => List.mem_append.mpr (.inr hq)) F' (fun q hq => ?_) (fun q hq => Heap.lt_size (N q hq).1)
  rcases List.mem_cons.mp hq with rfl | hq
  · exact ⟨by rw [← ea]; exact hS, kdx_fresh F (Nat.le_refl _)⟩
  · rcases List.mem_append.mp hq with hq | hq
    · exact ⟨(hT q hq).2, kdx_fresh F (Nat.le_of_lt (hT q hq).1)⟩
    · exact ⟨hk _ _ (Nat.ne_of_lt (k1 q hq)) (Nat.ne_of_lt (k2 q hq)) (Nat.ne_of_lt (k3 q hq)) (Nat.ne_of_lt (k4 q hq)) (N q hq).1, (N q hq).2⟩
end
end Mine
end
section
open PySem PySem.Calls PySem.W PyProof.Rows PySem.Spec
set_option Elab.async false
set_option maxRecDepth 100000
set_option maxHeartbeats 1000000
set_option linter.unusedVariables false
namespace Mine
/-- a measure of a list of pairs by one side -/
noncomputable def wid (f : Pr → List Nat) (ps : List Pr) : Nat := ((ps.map f).map List.length).sum + ps.length
theorem wid_append (f : Pr → List Nat) (a b : List Pr) : wid f (a ++ b) = wid f a + wid f b := by
  unfold wid
  rw [List.map_append, List.map_append, List.sum_append, List.length_append]
  omega
theorem wid_dropLast (f : Pr → List Nat) (a : List Pr) : wid f a.dropLast ≤ wid f a := by
  rcases List.eq_nil_or_concat a with rfl | ⟨b, x, rfl⟩
  · exact Nat.le_refl _
  · rw [List.concat_eq_append, List.dropLast_concat, wid_append]; omega
theorem wid_stepP (f : Pr → List Nat) (r : Bool) (acc : List Pr) (p : Pr) : wid f (stepP r acc p) ≤ wid f acc + wid f [p] := by
  unfold stepP
  split
  · omega
  · split
    · rw [wid_append]; omega
    · have := wid_dropLast f acc; omega
theorem wid_kept (f : Pr → List Nat) (r : Bool) (ps : List Pr) : wid f (keptL r ps) ≤ wid f ps := by
  have key : ∀ (ps acc : List Pr), wid f (ps.foldl (stepP r) acc) ≤ wid f acc + wid f ps := by
    intro ps
    induction ps with
    | nil => intro acc; simp [wid]
    | cons p q ih =>
      intro acc
      rw [List.foldl_cons]
      have h1 := ih (stepP r acc p)
      have h2 := wid_stepP f r acc p
      have h3 := wid_append f [p] q
      rw [List.singleton_append] at h3
      omega
  have := key ps []
  have e : wid f ([] : List Pr) = 0 := rfl
  rw [e, Nat.zero_add] at this
  exact this
theorem wid_join (f : Pr → List Nat) (r : Bool) (ps : List Pr) (n : Nat) (h : wid f ps ≤ n) : (((keptL r ps).map f).map List.length).sum + ((keptL r ps).map f).length ≤ n := by
  have h1 := wid_kept f r ps
  have h2 : (((keptL r ps).map f).map List.length).sum + ((keptL r ps).map f).length = wid f (keptL r ps) := by unfold wid; rw [List.length_map]
  omega
theorem wid_dup (f : Pr → List Nat) (hf : ∀ p, f (p, p) = p) (ls : List (List Nat)) : wid f (ls.map fun p => (p, p)) = (ls.map List.length).sum + ls.length := by
  have e : (ls.map fun p => (p, p)).map f = ls := by
    rw [List.map_map]
    have e : (f ∘ fun p => (p, p)) = fun p => p := by funext p; exact hf p
    rw [e, List.map_id']
  unfold wid
  rw [e, List.length_map]
theorem wid_zip1 : ∀ (ls ms : List (List Nat)), wid Prod.fst (ls.zip ms) ≤ (ls.map List.length).sum + ls.length
  | [], ms => by simp [wid]
  | a :: ls, [] => by simp [wid]
  | a :: ls, b :: ms => by
    have h := wid_zip1 ls ms
    unfold wid at h ⊢
    simp only [List.zip_cons_cons, List.map_cons, List.sum_cons, List.length_cons] at h ⊢
    omega
theorem wid_zip2 : ∀ (ls ms : List (List Nat)), wid Prod.snd (ls.zip ms) ≤ (ms.map List.length).sum + ms.length
  | [], ms => by simp [wid]
  | a :: ls, [] => by simp [wid]
  | a :: ls, b :: ms => by
    have h := wid_zip2 ls ms
    unfold wid at h ⊢
    simp only [List.zip_cons_cons, List.map_cons, List.sum_cons, List.length_cons] at h ⊢
    omega
/-- what split peels off, prepared, is not long -/
theorem peel_len {l p : List Nat} {acc : List (List Nat)} (h : Peel l p acc) : 5 * p.length + (acc.map List.length).sum + acc.length ≤ 5 * l.length := by
  induction h with
  | start => simp
  | step hp hn ih =>
    have h1 := peel_less hn
    rename_i q acc'
    have h2 := prepL_le (tailL q)
    rw [List.map_append, List.sum_append, List.length_append, List.map_singleton, List.sum_singleton, List.length_singleton]
    omega
theorem joinL_fold_le : ∀ (ls : List (List Nat)) (p : List Nat), (ls.foldl joinL p).length ≤ p.length + (ls.map List.length).sum + ls.length
  | [], p => by simp
  | a :: ls, p => by
    rw [List.foldl_cons]
    have h1 := joinL_fold_le ls (joinL p a)
    have h2 := joinL_le p a
    rw [List.map_cons, List.sum_cons, List.length_cons]
    omega
theorem sum_reverse' (ls : List Nat) : ls.reverse.sum = ls.sum := by
  induction ls with
  | nil => rfl
  | cons a r ih => rw [List.reverse_cons, List.sum_append, ih]; simp only [List.sum_cons, List.sum_nil]; omega
theorem peel_join_len {l p : List Nat} {acc : List (List Nat)} (h : Peel l p acc) (hl : l.length ≤ 110) : (acc.reverse.foldl joinL p).length ≤ 100000 := by
  have h1 := joinL_fold_le acc.reverse p
  have h2 := peel_len h
  rw [List.map_reverse, sum_reverse', List.length_reverse] at h1
  omega
theorem orDot_le (l : List Nat) : (orDot l).length ≤ l.length + 1 := by
  unfold orDot
  split
  · show 1 ≤ _; omega
  · omega
theorem normL_le (l : List Nat) : (normL l).length ≤ 2 * l.length + 3 := by
  unfold normL
  have h1 := orDot_le (if l = [] then [] else rootL l ++ glue 47 (redL (decide (rootL l ≠ [])) (cut 47 (restL l))))
  have h2 : (if l = [] then [] else rootL l ++ glue 47 (redL (decide (rootL l ≠ [])) (cut 47 (restL l)))).length ≤ 2 * l.length + 2 := by
    split
    · simp
    · rw [List.length_append]
      have a1 := rootL_le l
      have a2 := restL_le l
      have a3 := glue_length 47 (redL (decide (rootL l ≠ [])) (cut 47 (restL l)))
      have a4 := redL_sum (decide (rootL l ≠ [])) (cut 47 (restL l))
      have a5 := cut_sum 47 (restL l)
      omega
  omega
/-- the numbers are small -/
theorem nums1 {ys : List Value} {l : List Int} {M : Int} (h : IntsAre ys ((l.take 6).map fun k => k.fmod M)) (hM : M = 1000000) : NumsAre ys := by
  subst hM
  have key : ∀ {vs : List Value} {ns : List Int}, IntsAre vs ns → (∀ n ∈ ns, 0 ≤ n ∧ n < 1000000) → vs.length = ns.length ∧ ∀ v ∈ vs, ∃ (n : Int) (t : Tok), v = .int n t ∧ 0 ≤ n ∧ n < 1000000 := by
    intro vs ns h
    induction h with
    | nil => intro _; exact ⟨rfl, fun v hv => nomatch hv⟩
    | cons n t _ ih =>
      intro hn
      obtain ⟨e, hv⟩ := ih fun k hk => hn k (.tail _ hk)
      refine ⟨by rw [List.length_cons, List.length_cons, e], fun v hv' => ?_⟩
      rcases List.mem_cons.mp hv' with rfl | hv'
      · exact ⟨n, t, rfl, hn n (.head _)⟩
      · exact hv v hv'
  obtain ⟨e, hv⟩ := key h (fun n hn => by
    obtain ⟨k, _, rfl⟩ := List.mem_map.mp hn
    exact ⟨Int.fmod_nonneg_of_pos _ (by decide), Int.fmod_lt_of_pos _ (by decide)⟩)
  refine ⟨?_, hv⟩
  rw [e, List.length_map, List.length_take]
  omega
theorem nums2 {t : Tok} : NumsAre [.int 452358 t] := ⟨by show 1 ≤ 6; omega, fun v hv => ⟨452358, t, List.mem_singleton.mp hv, by omega, by omega⟩⟩
end Mine
end
section
open PySem PySem.Calls PySem.W PyProof.Rows PySem.Spec
set_option Elab.async false
set_option maxRecDepth 100000
set_option maxHeartbeats 1000000
set_option linter.unusedVariables false
namespace Mine
/-- the pieces that are something -/
noncomputable def nes (ls : List (List Nat)) : List (List Nat) := ls.filter fun p => !p.isEmpty
theorem nes_append (a b : List (List Nat)) : nes (a ++ b) = nes a ++ nes b := List.filter_append ..
theorem nes_nil (ls : List (List Nat)) : nes ([] :: ls) = nes ls := by unfold nes; rw [List.filter_cons, if_neg (by simp)]
theorem redL_nes (r : Bool) (ls : List (List Nat)) : redL r (nes ls) = redL r ls := by
  have key : ∀ (ls acc : List (List Nat)), (nes ls).foldl (stepL r) acc = ls.foldl (stepL r) acc := by
    intro ls
    induction ls with
    | nil => intro acc; rfl
    | cons p q ih =>
      intro acc
      cases p with
      | nil => rw [nes_nil, ih, List.foldl_cons, stepL, if_pos (.inl rfl)]
      | cons a p =>
        have e : nes ((a :: p) :: q) = (a :: p) :: nes q := by unfold nes; rw [List.filter_cons, if_pos (by simp)]
        rw [e, List.foldl_cons, List.foldl_cons, ih]
  exact key ls []
theorem cutS (c : Nat) (l : List Nat) : cut c (c :: l) = [] :: cut c l := by
  conv => lhs; unfold cut
  exact if_pos rfl
theorem cutN {c x : Nat} (h : x ≠ c) {l p : List Nat} {r : List (List Nat)} (e : cut c l = p :: r) : cut c (x :: l) = (x :: p) :: r := by
  conv => lhs; unfold cut
  rw [if_neg h, e]
theorem cut_sep (l : List Nat) : cut 47 (47 :: l) = [] :: cut 47 l := cutS 47 l
theorem cut_app (c : Nat) (b : List Nat) : ∀ a : List Nat, cut c (a ++ c :: b) = cut c a ++ cut c b
  | [] => by rw [List.nil_append, cutS]; rfl
  | x :: a => by
    rw [List.cons_append]
    by_cases h : x = c
    · rw [h, cutS, cutS, cut_app c b a]; rfl
    · cases e : cut c a with
      | nil => exact absurd e (cut_ne c a)
      | cons p r =>
        rw [cutN h e, cutN h (show cut c (a ++ c :: b) = p :: (r ++ cut c b) from by rw [cut_app c b a, e]; rfl)]
        rfl
theorem cut_rest (l : List Nat) : nes (cut 47 (restL l)) = nes (cut 47 l) := by
  match l with
  | [] => rfl
  | a :: t =>
    by_cases ha : a = 47
    · subst ha
      unfold restL
      rw [if_pos (show (47 :: t).take 1 = [47] from by simp)]
      split
      · rename_i h
        match t, h with
        | [], h => exact absurd h.1 (by decide)
        | b :: t, h =>
          have hb : b = 47 := by simpa using h.1
          subst hb
          show nes (cut 47 t) = _
          rw [cut_sep, cut_sep, nes_nil, nes_nil]
      · show nes (cut 47 t) = _
        rw [cut_sep, nes_nil]
    · unfold restL
      rw [if_neg (by simpa using ha)]
theorem kept_dup (r : Bool) (ls : List (List Nat)) : (keptL r (ls.map fun p => (p, p))).map Prod.fst = redL r ls := by
  have h := keptL_fst r (ls.map fun p => (p, p))
  have e : (ls.map fun p => (p, p)).map (fun q => q.1) = ls := by
    rw [List.map_map]
    exact List.map_id' ls
  rw [e] at h
  exact h
theorem straight_red (l : List Nat) : straightL l = orDot (rootL l ++ glue 47 (redL (decide (rootL l ≠ [])) (nes (cut 47 l)))) := by
  unfold straightL
  rw [kept_dup, redL_nes]
theorem norm_straight (l : List Nat) : normL l = straightL l := by
  rw [straight_red, ← cut_rest, redL_nes]
  unfold normL
  by_cases h : l = []
  · subst h; decide
  · rw [if_neg h]
/-- the root tells by the slashes ahead -/
noncomputable def ahead (l : List Nat) : List Nat := l.takeWhile (· == 47)
noncomputable def rootN (k : List Nat) : List Nat := if k = [] then [] else if k = [47, 47] then [47, 47] else [47]
theorem root_ahead (l : List Nat) : rootL l = rootN (ahead l) := by
  unfold ahead rootL
  match l with
  | [] => rfl
  | a :: t =>
    by_cases ha : a = 47
    · subst ha
      match t with
      | [] => rfl
      | b :: t =>
        by_cases hb : b = 47
        · subst hb
          match t with
          | [] => rfl
          | c :: t =>
            by_cases hc : c = 47
            · subst hc; simp [rootN]
            · simp [rootN, hc]
        · simp [rootN, hb]
    · simp [rootN, ha]
theorem ahead_app (a b : List Nat) (h : ∃ c ∈ a, c ≠ 47) : ahead (a ++ b) = ahead a := by
  unfold ahead
  induction a with
  | nil => obtain ⟨c, hc, _⟩ := h; cases hc
  | cons x a ih =>
    by_cases hx : x = 47
    · subst hx
      obtain ⟨c, hc, hn⟩ := h
      have hc' : c ∈ a := by
        rcases List.mem_cons.mp hc with e | e
        · exact absurd e hn
        · exact e
      rw [List.cons_append, List.takeWhile_cons, List.takeWhile_cons, if_pos (by rfl), if_pos (by rfl), ih ⟨c, hc', hn⟩]
    · rw [List.cons_append, List.takeWhile_cons, List.takeWhile_cons, if_neg (by simpa using hx), if_neg (by simpa using hx)]
theorem ahead_free {b : List Nat} (hb : 47 ∉ b) : ahead b = [] := by
  unfold ahead
  cases b with
  | nil => rfl
  | cons x b => rw [List.takeWhile_cons, if_neg (by intro h; exact hb (by rw [beq_iff_eq] at h; rw [h]; exact .head _))]
theorem ahead_rep (k : Nat) {b : List Nat} (hb : 47 ∉ b) : ahead (List.replicate k 47 ++ b) = List.replicate k 47 := by
  have h := ahead_free hb
  unfold ahead at h ⊢
  induction k with
  | zero => exact h
  | succ k ih => rw [List.replicate_succ, List.cons_append, List.takeWhile_cons, if_pos (by rfl), ih]
theorem all_or (a : List Nat) : (∃ c ∈ a, c ≠ 47) ∨ a = List.replicate a.length 47 := by
  by_cases h : ∃ c ∈ a, c ≠ 47
  · exact .inl h
  · refine .inr (List.eq_replicate_iff.mpr ⟨rfl, fun c hc => ?_⟩)
    by_cases e : c = 47
    · exact e
    · exact absurd ⟨c, hc, e⟩ h
/-- ahead does not see a free text behind -/
theorem ahead_same (a : List Nat) {b : List Nat} (hb : 47 ∉ b) : ahead (a ++ b) = ahead a := by
  rcases all_or a with h | h
  · exact ahead_app a b h
  · rw [h, ahead_rep _ hb]
    have := ahead_rep a.length (b := []) (by simp)
    rw [List.append_nil] at this
    exact this.symm
/-- the meant pieces -/
noncomputable def N (l : List Nat) : List (List Nat) := nes ((cut 47 l).map prepL)
theorem N_app (a b : List Nat) : N (a ++ 47 :: b) = N a ++ N b := by
  unfold N
  rw [cut_app, List.map_append, nes_append]
theorem prep_nil : prepL [] = [] := rfl
theorem N_nil : N [] = [] := rfl
theorem N_rep : ∀ k : Nat, N (List.replicate k 47) = []
  | 0 => N_nil
  | k + 1 => by
    rw [List.replicate_succ, ← List.nil_append (47 :: _), N_app, N_nil, N_rep k, List.nil_append]
theorem N_apprep (a : List Nat) : ∀ k : Nat, N (a ++ List.replicate k 47) = N a
  | 0 => by rw [List.replicate_zero, List.append_nil]
  | k + 1 => by
    rw [List.replicate_succ, N_app, N_rep, List.append_nil]
theorem N_free {b : List Nat} (hb : 47 ∉ b) : N b = nes [prepL b] := by
  unfold N
  rw [cut_free 47 b hb]
  rfl
theorem dropWhile_all (g : Nat → Bool) : ∀ l : List Nat, ∀ c ∈ l.takeWhile g, g c = true
  | [], c, h => nomatch h
  | a :: l, c, h => by
    rw [List.takeWhile_cons] at h
    split at h
    · rcases List.mem_cons.mp h with rfl | h
      · assumption
      · exact dropWhile_all g l c h
    · cases h
theorem tail_free (p : List Nat) : 47 ∉ tailL p := by
  unfold tailL
  intro h
  have := dropWhile_all (· != 47) p.reverse 47 (List.mem_reverse.mp h)
  exact absurd this (by decide)
theorem pre_split (p : List Nat) : p = preL p ++ tailL p := by
  have h : p.reverse.takeWhile (· != 47) ++ p.reverse.dropWhile (· != 47) = p.reverse := List.takeWhile_append_dropWhile
  unfold preL tailL
  rw [← List.reverse_append, h, List.reverse_reverse]
theorem pre_end (p : List Nat) : preL p = [] ∨ ∃ a, preL p = a ++ [47] := by
  unfold preL
  cases e : p.reverse.dropWhile (· != 47) with
  | nil => exact .inl rfl
  | cons c r =>
    refine .inr ⟨r.reverse, ?_⟩
    have h : (p.reverse.dropWhile (· != 47)).head? = some c := by rw [e]; rfl
    have h2 := List.head?_dropWhile_not (· != 47) p.reverse
    rw [h] at h2
    have : c = 47 := by simpa using h2
    rw [List.reverse_cons, this]
theorem head_spec (p : List Nat) : ∃ k, preL p = headL p ++ List.replicate k 47 ∧ (k ≠ 0 → ∃ c ∈ headL p, c ≠ 47) := by
  unfold headL
  split
  · exact ⟨0, by rw [List.replicate_zero, List.append_nil], fun h => absurd rfl h⟩
  · rename_i hn
    have h : (preL p).reverse.takeWhile (· == 47) ++ (preL p).reverse.dropWhile (· == 47) = (preL p).reverse := List.takeWhile_append_dropWhile
    have ht : (preL p).reverse.takeWhile (· == 47) = List.replicate ((preL p).reverse.takeWhile (· == 47)).length 47 :=
      List.eq_replicate_iff.mpr ⟨rfl, fun c hc => by have := dropWhile_all (· == 47) _ c hc; simpa using this⟩
    have e : preL p = ((preL p).reverse.dropWhile (· == 47)).reverse ++ List.replicate ((preL p).reverse.takeWhile (· == 47)).length 47 := by
      have h2 := congrArg List.reverse h
      rw [List.reverse_append, List.reverse_reverse] at h2
      have h3 : ((preL p).reverse.takeWhile (· == 47)).reverse = List.replicate ((preL p).reverse.takeWhile (· == 47)).length 47 := by
        conv => lhs; rw [ht]
        rw [List.reverse_replicate]
      rw [h3] at h2
      exact h2.symm
    refine ⟨_, e, fun _ => ?_⟩
    rcases all_or (preL p) with ⟨c, hc, hcn⟩ | h4
    · rw [e] at hc
      rcases List.mem_append.mp hc with hc | hc
      · exact ⟨c, hc, hcn⟩
      · exact absurd (List.eq_of_mem_replicate hc) hcn
    · exact absurd h4 hn
theorem N_head (p : List Nat) : N p = N (headL p) ++ nes [prepL (tailL p)] := by
  obtain ⟨k, e, _⟩ := head_spec p
  have e1 : N (headL p) = N (preL p) := by rw [e, N_apprep]
  rw [e1]
  conv => lhs; rw [pre_split p]
  rcases pre_end p with h | ⟨a, h⟩
  · rw [h, List.nil_append, N_nil, List.nil_append, N_free (tail_free p)]
  · rw [h, List.append_assoc]
    show N (a ++ 47 :: tailL p) = _
    rw [N_app, N_app a [], N_nil, List.append_nil, N_free (tail_free p)]
theorem ahead_head (p : List Nat) : ahead p = ahead (headL p) := by
  obtain ⟨k, e, hk⟩ := head_spec p
  conv => lhs; rw [pre_split p]
  rw [ahead_same _ (tail_free p), e]
  by_cases h : k = 0
  · rw [h, List.replicate_zero, List.append_nil]
  · exact ahead_app _ _ (hk h)
theorem N_peel {w q : List Nat} {acc : List (List Nat)} (h : Peel w q acc) : N w = N q ++ nes acc.reverse ∧ ahead w = ahead q := by
  induction h with
  | start => exact ⟨(List.append_nil _).symm, rfl⟩
  | step hp hn ih =>
    refine ⟨?_, ih.2.trans (ahead_head _)⟩
    rw [ih.1, N_head, List.reverse_append, List.append_assoc, ← nes_append]
    rfl
theorem peel_end {q : List Nat} (h1 : headL q = q) (h2 : tailL q = []) : q = List.replicate q.length 47 := by
  have h3 := preL_all h2
  rcases pre_end q with h | ⟨a, h⟩
  · rw [← h3, h]; rfl
  · unfold headL at h1
    rw [h3] at h1
    split at h1
    · assumption
    · exfalso
      rw [h3] at h
      rw [h, List.reverse_append, List.reverse_singleton, List.singleton_append, List.dropWhile_cons, if_pos (by rfl)] at h1
      have h4 := congrArg List.length h1
      have h5 := dropWhile_le' (· == 47) a.reverse
      simp only [List.length_reverse, List.length_append, List.length_cons, List.length_nil] at h4 h5
      omega
/-- the plain pieces -/
noncomputable def M (l : List Nat) : List (List Nat) := nes (cut 47 l)
theorem M_app (a b : List Nat) : M (a ++ 47 :: b) = M a ++ M b := by
  unfold M
  rw [cut_app, nes_append]
theorem M_free {b : List Nat} (hb : 47 ∉ b) : M b = nes [b] := by unfold M; rw [cut_free 47 b hb]
theorem M_rep : ∀ k : Nat, M (List.replicate k 47) = []
  | 0 => rfl
  | k + 1 => by
    rw [List.replicate_succ, ← List.nil_append (47 :: _), M_app, M_rep k]; rfl
theorem M_join (a : List Nat) {b : List Nat} (hb : 47 ∉ b) : M (joinL a b) = M a ++ nes [b] ∧ ahead (joinL a b) = ahead a := by
  have hb1 : b.take 1 ≠ [47] := by
    intro e
    exact hb (List.mem_of_mem_take (i := 1) (by rw [e]; exact .head _))
  unfold joinL
  by_cases ha : a = []
  · rw [if_pos (.inr ha), ha, M_free hb]
    exact ⟨rfl, ahead_free hb⟩
  · rw [if_neg (by rintro (h | h); exact hb1 h; exact ha h)]
    by_cases hl : a.getLast? = some 47
    · rw [if_pos hl]
      refine ⟨?_, ahead_same a hb⟩
      obtain ⟨x, e⟩ := List.getLast?_eq_some_iff.mp hl
      rw [e, List.append_assoc]
      show M (x ++ 47 :: b) = _
      rw [M_app, M_app x [], M_free hb]
      simp [M, cut, nes]
    · rw [if_neg hl, M_app, M_free hb]
      refine ⟨rfl, ahead_app a _ ?_⟩
      rcases all_or a with h | h
      · exact h
      · exfalso
        apply hl
        rw [h]
        cases hk : a.length with
        | zero => exact absurd (List.length_eq_zero_iff.mp hk) ha
        | succ k => rw [List.getLast?_replicate, if_neg (Nat.succ_ne_zero k)]
theorem M_joins : ∀ (ls : List (List Nat)) (a : List Nat), (∀ b ∈ ls, 47 ∉ b) → M (ls.foldl joinL a) = M a ++ nes ls ∧ ahead (ls.foldl joinL a) = ahead a
  | [], a, _ => ⟨(List.append_nil _).symm, rfl⟩
  | b :: ls, a, h => by
    rw [List.foldl_cons]
    obtain ⟨h1, h2⟩ := M_joins ls (joinL a b) fun c hc => h c (.tail _ hc)
    obtain ⟨k1, k2⟩ := M_join a (h b (.head _))
    refine ⟨?_, h2.trans k2⟩
    rw [h1, k1, List.append_assoc, ← nes_append]
    rfl
section
variable (hs : prepL [47] = [47]) (hd : prepL [46] = [46])
theorem prep_free {b : List Nat} (g : ∀ c ∈ b, c ≠ 47 → 47 ∉ prepL [c]) (hb : 47 ∉ b) : 47 ∉ prepL b := by
  induction b with
  | nil => exact fun h => nomatch h
  | cons c b ih =>
    rw [← List.singleton_append, prepL_append]
    intro h
    rcases List.mem_append.mp h with h | h
    · exact g c (.head _) (fun e => hb (e ▸ .head _)) h
    · exact ih (fun c hc => g c (.tail _ hc)) (fun h => hb (.tail _ h)) h
theorem cut_free_app {x : List Nat} (hx : 47 ∉ x) (y : List Nat) {p : List Nat} {r : List (List Nat)} (e : cut 47 y = p :: r) : cut 47 (x ++ y) = (x ++ p) :: r := by
  induction x with
  | nil => exact e
  | cons a x ih =>
    rw [List.cons_append, cutN (fun h => hx (by rw [h]; exact .head _)) (ih (fun h => hx (.tail _ h)))]
    rfl
include hs in
theorem cut_prep : ∀ w : List Nat, (∀ c ∈ w, c ≠ 47 → 47 ∉ prepL [c]) → cut 47 (prepL w) = (cut 47 w).map prepL
  | [], _ => rfl
  | a :: w, g => by
    have ih := cut_prep w fun c hc => g c (.tail _ hc)
    rw [← List.singleton_append, prepL_append]
    by_cases ha : a = 47
    · rw [ha, hs, List.singleton_append, List.singleton_append, cut_sep, cut_sep, ih]; rfl
    · cases e : cut 47 w with
      | nil => exact absurd e (cut_ne 47 w)
      | cons p r =>
        rw [e, List.map_cons] at ih
        rw [cut_free_app (g a (.head _) ha) _ ih, cut_free_app (x := [a]) (by simpa using fun h : 47 = a => ha h.symm) w e, List.map_cons, prepL_append]
include hs in
theorem prep_glue : ∀ ls : List (List Nat), prepL (glue 47 ls) = glue 47 (ls.map prepL)
  | [] => rfl
  | [p] => rfl
  | p :: q :: r => by
    have ih := prep_glue (q :: r)
    rw [glue_cons 47 p (r := q :: r) (fun h => nomatch h), prepL_append, ← List.singleton_append (l := glue 47 (q :: r)), prepL_append, hs, ih, List.map_cons (l := q :: r), glue_cons 47 _ (r := (q :: r).map prepL) (by rw [List.map_cons]; exact fun h => nomatch h), List.singleton_append]
theorem stepP_mem (r : Bool) (acc : List Pr) (p q : Pr) (h : q ∈ stepP r acc p) : q ∈ acc ∨ (q = p ∧ p.1 ≠ []) := by
  unfold stepP at h
  split at h
  · exact .inl h
  · rename_i hn
    split at h
    · rcases List.mem_append.mp h with h | h
      · exact .inl h
      · exact .inr ⟨List.mem_singleton.mp h, fun e => hn (.inl e)⟩
    · exact .inl ((List.dropLast_sublist acc).mem h)
theorem kept_mem (r : Bool) (ps : List Pr) {q : Pr} (h : q ∈ keptL r ps) : q ∈ ps ∧ q.1 ≠ [] := by
  have key : ∀ (ps acc : List Pr), q ∈ ps.foldl (stepP r) acc → q ∈ acc ∨ (q ∈ ps ∧ q.1 ≠ []) := by
    intro ps
    induction ps with
    | nil => exact fun acc h => .inl h
    | cons p ps ih =>
      intro acc h
      rw [List.foldl_cons] at h
      rcases ih _ h with h | h
      · rcases stepP_mem r acc p q h with h | ⟨h, hn⟩
        · exact .inl h
        · exact .inr ⟨h ▸ .head _, h ▸ hn⟩
      · exact .inr ⟨.tail _ h.1, h.2⟩
  rcases key ps [] h with h | h
  · cases h
  · exact h
theorem zip_prep : ∀ ls : List (List Nat), ls.zip (ls.map prepL) = ls.map fun p => (p, prepL p)
  | [] => rfl
  | a :: ls => by rw [List.map_cons, List.zip_cons_cons, zip_prep ls, List.map_cons]
include hs in
theorem prep_root (l : List Nat) : prepL (rootL l) = rootL l := by
  have h2 : prepL [47, 47] = [47, 47] := by rw [show [47, 47] = [47] ++ [47] from rfl, prepL_append, hs]
  unfold rootL
  split
  · split
    · exact h2
    · exact hs
  · rfl
theorem glue_nil {ls : List (List Nat)} (h : glue 47 ls = []) (hn : ∀ p ∈ ls, p ≠ []) : ls = [] := by
  match ls, h, hn with
  | [], _, _ => rfl
  | [p], h, hn => exact absurd h (hn p (.head _))
  | p :: q :: r, h, hn =>
    rw [glue_cons 47 p (by simp)] at h
    exact absurd (List.append_eq_nil_iff.mp h).2 (by simp)
include hs hd in
theorem prep_norm {w : List Nat} (g : ∀ c ∈ w, c ≠ 47 → 47 ∉ prepL [c]) :
    prepL (normL w) = if rootL w ≠ [] ∨ keptL (decide (rootL w ≠ [])) ((cut 47 w).zip (cut 47 (prepL w))) ≠ [] then rootL w ++ glue 47 ((keptL (decide (rootL w ≠ [])) ((cut 47 w).zip (cut 47 (prepL w)))).map Prod.snd) else [46] := by
  rw [cut_prep hs w g, zip_prep]
  generalize hr : decide (rootL w ≠ []) = r
  have hk : ∀ q ∈ keptL r ((cut 47 w).map fun p => (p, prepL p)), q.2 = prepL q.1 ∧ q.1 ≠ [] := by
    intro q hq
    obtain ⟨h1, h2⟩ := kept_mem r _ hq
    obtain ⟨p, _, rfl⟩ := List.mem_map.mp h1
    exact ⟨rfl, h2⟩
  have hf : redL r (cut 47 w) = (keptL r ((cut 47 w).map fun p => (p, prepL p))).map Prod.fst := by
    have h := keptL_fst r ((cut 47 w).map fun p => (p, prepL p))
    have e : ((cut 47 w).map fun p => (p, prepL p)).map (fun q => q.1) = cut 47 w := by rw [List.map_map]; exact List.map_id' _
    rw [e] at h
    exact h.symm
  rw [norm_straight, straight_red, redL_nes, hr, hf]
  generalize keptL r ((cut 47 w).map fun p => (p, prepL p)) = ks at hk
  have e : ks.map Prod.snd = (ks.map Prod.fst).map prepL := by
    rw [List.map_map]
    exact List.map_congr_left fun q hq => (hk q hq).1
  by_cases h : rootL w ++ glue 47 (ks.map Prod.fst) = []
  · obtain ⟨h1, h2⟩ := List.append_eq_nil_iff.mp h
    have h3 : ks = [] := by
      have := glue_nil h2 fun p hp => by
        obtain ⟨q, hq, rfl⟩ := List.mem_map.mp hp
        exact (hk q hq).2
      exact List.map_eq_nil_iff.mp this
    unfold orDot
    rw [if_pos h, if_neg (by rintro (h | h); exact h h1; exact h h3), hd]
  · unfold orDot
    rw [if_neg h, if_pos, prepL_append, prep_root hs, prep_glue hs, e]
    by_cases h1 : rootL w = []
    · refine .inr fun h3 => h ?_
      rw [h1, h3]; rfl
    · exact .inl h1
include hs in
theorem norm_names {w q : List Nat} {acc : List (List Nat)} (g : ∀ c ∈ w, c ≠ 47 → 47 ∉ prepL [c]) (hp : Peel w q acc) (h1 : headL q = q) (h2 : tailL q = []) :
    normL (acc.reverse.foldl joinL q) = orDot (rootL w ++ glue 47 (redL (decide (rootL w ≠ [])) (cut 47 (prepL w)))) := by
  obtain ⟨a1, a2⟩ := N_peel hp
  have hf : ∀ b ∈ acc.reverse, 47 ∉ b := by
    intro b hb
    have key : ∀ {q : List Nat} {acc : List (List Nat)}, Peel w q acc → (∀ c ∈ q, c ∈ w) ∧ ∀ b ∈ acc, 47 ∉ b := by
      intro q acc h
      induction h with
      | start => exact ⟨fun _ h => h, fun _ h => nomatch h⟩
      | step hp hn ih =>
        refine ⟨fun c hc => ih.1 c (headL_sub _ c hc), fun b hb => ?_⟩
        rcases List.mem_append.mp hb with hb | hb
        · exact ih.2 b hb
        · rw [List.mem_singleton.mp hb]
          exact prep_free (fun c hc => g c (ih.1 c (tailL_sub _ c hc))) (tail_free _)
    exact (key hp).2 b (List.mem_reverse.mp hb)
  obtain ⟨b1, b2⟩ := M_joins acc.reverse q hf
  have hq := peel_end h1 h2
  have e1 : M q = [] := by rw [hq, M_rep]
  have e2 : N q = [] := by rw [hq, N_rep]
  rw [e1, List.nil_append] at b1
  rw [e2, List.nil_append] at a1
  have e3 : M (acc.reverse.foldl joinL q) = nes (cut 47 (prepL w)) := by
    rw [b1, ← a1, cut_prep hs w g]; rfl
  have e4 : rootL (acc.reverse.foldl joinL q) = rootL w := by rw [root_ahead, root_ahead, b2, ← a2]
  rw [norm_straight, straight_red, e4]
  show orDot (rootL w ++ glue 47 (redL _ (M _))) = _
  rw [e3, redL_nes]
end
end Mine
end
section
open PySem PySem.Calls PySem.W PyProof.Rows PySem.Spec
set_option Elab.async false
set_option maxRecDepth 100000
set_option maxHeartbeats 1000000
set_option linter.unusedVariables false
namespace Mine
noncomputable def toldL (w p : List Nat) : List Nat := if rootL w ≠ [] ∨ keptL (decide (rootL w ≠ [])) ((cut 47 w).zip (cut 47 p)) ≠ [] then rootL w ++ glue 47 ((keptL (decide (rootL w ≠ [])) ((cut 47 w).zip (cut 47 p))).map Prod.snd) else [46]
theorem SG.good {n : Nat} {w p : List Nat} (h : SG n w p) : ∀ c ∈ w, c ≠ 47 → 47 ∉ prepL [c] := fun c hc hn => prep_noslash (List.all_eq_true.mp h.2.1 c hc) hn
theorem law_cuts {n : Nat} {w p : List Nat} (h : SG n w p) : (cut 47 w).length = (cut 47 p).length := by
  rw [h.2.2, cut_prep prep_slash w h.good, List.length_map]
theorem kept_dup2 (r : Bool) (ls : List (List Nat)) : (keptL r (ls.map fun p => (p, p))).map Prod.snd = redL r ls := by
  rw [← kept_dup r ls]
  refine List.map_congr_left fun q hq => ?_
  obtain ⟨p, _, rfl⟩ := List.mem_map.mp (kept_mem r _ hq).1
  rfl
theorem law5 (l : List Nat) : normL l = straightL l := norm_straight l
theorem law1 {n : Nat} {w p : List Nat} (h : SG n w p) : normL (prepL w) = straightL p := by rw [h.2.2, law5]
theorem law2 {n : Nat} {w p q : List Nat} {acc : List (List Nat)} (h : SG n w p) (hp : Peel w q acc) (h1 : headL q = q) (h2 : tailL q = []) :
    normL (acc.reverse.foldl joinL q) = orDot (rootL w ++ glue 47 ((keptL (decide (rootL w ≠ [])) ((cut 47 p).map fun p => (p, p))).map Prod.snd)) := by
  rw [kept_dup2, h.2.2]
  exact norm_names prep_slash h.good hp h1 h2
theorem law3 {n : Nat} {w p : List Nat} (h : SG n w p) : normL w = orDot (rootL w ++ glue 47 ((keptL (decide (rootL w ≠ [])) ((cut 47 w).zip (cut 47 p))).map Prod.fst)) := by
  have e := keptL_fst (decide (rootL w ≠ [])) ((cut 47 w).zip (cut 47 p))
  have e2 : ((cut 47 w).zip (cut 47 p)).map (fun q => q.1) = cut 47 w := List.map_fst_zip (by rw [law_cuts h]; exact Nat.le_refl _)
  rw [e2] at e
  rw [law5, straight_red, redL_nes, ← e]
theorem law4 {n : Nat} {w p : List Nat} (h : SG n w p) : prepL (normL w) = toldL w p := by
  rw [prep_norm prep_slash prep_dot h.good, toldL, h.2.2]
end Mine
end
section
open PySem PySem.Calls PySem.W PyProof.Rows PySem.Spec
set_option Elab.async false
set_option maxRecDepth 100000
set_option maxHeartbeats 1000000
set_option linter.unusedVariables false
namespace Mine
theorem spell_facts {w p : List Nat} (h : SG 36 w p) : w.length ≤ 110 ∧ w.length ≤ 100000 ∧ w.length ≤ 10000 ∧ okL w ∧ (prepL w).length ≤ 100000 ∧ p.length ≤ 5000 ∧ (mkS p).length ≤ 100000 ∧ (mkS w).length ≤ 100000 ∧ (mkS (rootL w)).length ≤ 10000 ∧ ((cut 47 p).map fun p => (p, p)).length ≤ 10000 ∧ ((cut 47 w).zip (cut 47 p)).length ≤ 10000 ∧ (cut 47 w).length ≤ 10000 ∧ (cut 47 w).length = (cut 47 p).length ∧ (normL w).length ≤ 100000 ∧ (prepL (normL w)).length ≤ 100000 := by
  obtain ⟨h1, h2⟩ := h.le
  have h3 := prepL_le w
  have h4 := rootL_le w
  have h5 := cut_len 47 w
  have h6 := cut_len 47 p
  have h7 := normL_le w
  have h8 := prepL_le (normL w)
  have h9 := law_cuts h
  refine ⟨by omega, by omega, by omega, h.okL, by omega, by omega, by rw [len_mk]; omega, by rw [len_mk]; omega, by rw [len_mk]; omega, by rw [List.length_map]; omega, by rw [List.length_zip]; omega, by omega, h9, by omega, by omega⟩
theorem spell_joins {w p : List Nat} (h : SG 36 w p) (r : Bool) :
    (((keptL r ((cut 47 p).map fun p => (p, p))).map Prod.snd).map List.length).sum + ((keptL r ((cut 47 p).map fun p => (p, p))).map Prod.snd).length ≤ 1000000 ∧
    (((keptL r ((cut 47 w).zip (cut 47 p))).map Prod.fst).map List.length).sum + ((keptL r ((cut 47 w).zip (cut 47 p))).map Prod.fst).length ≤ 1000000 ∧
    (((keptL r ((cut 47 w).zip (cut 47 p))).map Prod.snd).map List.length).sum + ((keptL r ((cut 47 w).zip (cut 47 p))).map Prod.snd).length ≤ 1000000 := by
  obtain ⟨h1, h2⟩ := h.le
  have c1 := cut_sum 47 w
  have c2 := cut_sum 47 p
  refine ⟨wid_join _ _ _ _ ?_, wid_join _ _ _ _ ?_, wid_join _ _ _ _ ?_⟩
  · rw [wid_dup _ (fun _ => rfl)]; omega
  · have := wid_zip1 (cut 47 w) (cut 47 p); omega
  · have := wid_zip2 (cut 47 w) (cut 47 p); omega
theorem told_len {w p : List Nat} (h : SG 36 w p) (r : Bool) : (mkS (rootL w) ++ mkS (glue 47 ((keptL r ((cut 47 w).zip (cut 47 p))).map Prod.snd))).length ≤ 5000 := by
  obtain ⟨h1, h2⟩ := h.le
  have c2 := cut_sum 47 p
  have h4 := rootL_le w
  have e1 := wid_join Prod.snd r ((cut 47 w).zip (cut 47 p)) (((cut 47 p).map List.length).sum + (cut 47 p).length) (wid_zip2 _ _)
  have e2 := glue_length 47 ((keptL r ((cut 47 w).zip (cut 47 p))).map Prod.snd)
  rw [length_toL, toL_append, toL_mkS, toL_mkS, List.length_append]
  omega
section
variable {prog : Program} {w : World} {A : Around} {E : Value → Shared → Prop} {s : Shared} {Q : Value → Shared → Prop} {x y : Str} {t u : Tok}
theorem ne_same (e : x = y) (h : Q (.bool false) s) : wpAny (model prog w) A (compareOp .NotEq (.str x t) (.str y u)) Q E s :=
  PyProof.Rows.ne_str (by rw [e, show (y != y) = false from by simp]; exact h)
theorem eq_same (e : x = y) (h : Q (.bool true) s) : wpAny (model prog w) A (compareOp .Eq (.str x t) (.str y u)) Q E s :=
  PyProof.Rows.eq_str (by rw [e, show (y == y) = true from by simp]; exact h)
end
end Mine
end
section
open PySem PySem.Calls PySem.W PyProof.Rows PySem.Spec
set_option Elab.async false
set_option maxRecDepth 100000
set_option maxHeartbeats 1000000
set_option linter.unusedVariables false
namespace Mine
theorem root_not {l : List Nat} (h : ((mkS l).length : Int) ≠ 0) : l ≠ [] := by
  rintro rfl; exact h (by rw [len_mk]; rfl)
theorem tl1 {n : Nat} {w p : List Nat} (hr : ((mkS (rootL w)).length : Int) ≠ 0) (h : SG n w p) : mkS (prepL (normL w)) = mkS (rootL w) ++ mkS (glue 47 ((keptL (decide (rootL w ≠ [])) ((cut 47 w).zip (cut 47 p))).map Prod.snd)) := by
  rw [law4 h, toldL, if_pos (.inl (root_not hr)), mk_add, toL_mkS]
theorem tl2 {n : Nat} {w p : List Nat} {ws : List Value} {nx : List (Addr × Obj)} (hP : PairsAre nx ws (keptL (decide (rootL w ≠ [])) ((cut 47 w).zip (cut 47 p)))) (hk : 0 < ws.length) (h : SG n w p) : mkS (prepL (normL w)) = mkS (rootL w) ++ mkS (glue 47 ((keptL (decide (rootL w ≠ [])) ((cut 47 w).zip (cut 47 p))).map Prod.snd)) := by
  have hne : keptL (decide (rootL w ≠ [])) ((cut 47 w).zip (cut 47 p)) ≠ [] := by
    intro e
    have h2 := hP.length
    rw [e] at h2
    rw [h2] at hk
    exact Nat.lt_irrefl _ hk
  rw [law4 h, toldL, if_pos (.inr hne), mk_add, toL_mkS]
theorem tl3 {n : Nat} {w p : List Nat} {ws : List Value} {nx : List (Addr × Obj)} (hr : ((mkS (rootL w)).length : Int) = 0) (hP : PairsAre nx ws (keptL (decide (rootL w ≠ [])) ((cut 47 w).zip (cut 47 p)))) (hk : ¬ 0 < ws.length) (h : SG n w p) : mkS (prepL (normL w)) = Str.ofString "." := by
  have e1 : rootL w = [] := by
    rw [len_mk] at hr
    exact List.length_eq_zero_iff.mp (Int.ofNat_eq_zero.mp hr)
  have e2 : keptL (decide (rootL w ≠ [])) ((cut 47 w).zip (cut 47 p)) = [] := List.length_eq_zero_iff.mp (by have := hP.length; omega)
  rw [law4 h, toldL, if_neg (by rw [e2]; intro hc; rcases hc with hc | hc; exact hc e1; exact hc rfl), dot_is]
/-- made plain once more -/
theorem tl4 {x : Str} {l : List Nat} (e : mkS l = x) : mkS (normL l) = mkS (straightL (toL x)) := by
  rw [← e, toL_mkS, law5]
section
variable {prog : Program} {w : World} {A : Around} {E : Value → Shared → Prop} {s : Shared} {h₀ : Heap} {L : Addr} {nx : List (Addr × Obj)}
theorem truthy_pairs {D : Addr} {ws : List Value} {k : Nat} {ps : List Pr} {nw : List (Addr × Obj)} {Q : Bool → Shared → Prop} (hP : PairsAre nw ws ps) (hz : ps.length ≤ 200000) (N : News h₀ L s.heap nx) (hm : (D, listOf ws.toArray k) ∈ nx)
    (h1 : ∀ tk, 0 < ws.length → Q true { s with toks := tk }) (h2 : ∀ tk, ¬ 0 < ws.length → Q false { s with toks := tk }) : wpAny (model prog w) A (truthy (.ref D)) Q E s := by
  have hl : s.heap.IsList D ws.toArray := ⟨_, (N _ hm).1, rfl, k, rfl⟩
  have e := hP.length
  refine wpAny_truthy_list hl (by rw [List.size_toArray]; omega) ?_
  cases ws with
  | nil => exact h2 _ (Nat.lt_irrefl _)
  | cons a r => exact h1 _ (Nat.succ_pos _)
end
end Mine
end
section
open PySem PySem.Calls PySem.W PyProof.Rows PySem.Spec
set_option Elab.async false
set_option maxRecDepth 100000
set_option maxHeartbeats 1000000
set_option linter.unusedVariables false
namespace Mine
section
variable {prog : Program} {w : World} {A : Around} {E : Value → Shared → Prop} {s : Shared} {env : Env}
/-- «a + b or '.'» as one way -/
theorem truthy_dot {a b : List Nat} {t : Tok} {k : Nat} {p pos : Pos} {Q : Value → Shared → Prop} (ha : (mkS a).length ≤ 10000) (hb : (mkS b).length ≤ 1000000)
    (h : ∀ t' tk, Q (.str (mkS (orDot (a ++ b))) t') { s with toks := tk }) :
    wpAny (model prog w) A (truthy (.str (mkS a ++ mkS b) t)) (fun c s₂ => if c = true then Q (.str (mkS a ++ mkS b) t) s₂ else wpAny (model prog w) A (eval (.BoolOp .Or [.Constant (.str (Str.ofString ".")) k p] pos) env) Q E s₂) E s := by
  have hz : ((mkS a ++ mkS b).length : Int) < 9223372036854775808 := by
    rw [len_mk] at ha hb
    rw [length_toL, toL_append, toL_mkS, toL_mkS, List.length_append]
    omega
  refine SBL.truthy hz ?_
  by_cases h0 : ((mkS a ++ mkS b).length : Int) = 0
  · rw [show (((mkS a ++ mkS b).length : Int) != 0) = false from by rw [h0]; rfl, if_neg (by decide)]
    refine BoolOp_one (wpAny_Constant_str ?_)
    rw [sg2 h0]
    exact h _ _
  · rw [show (((mkS a ++ mkS b).length : Int) != 0) = true from by rw [bne_iff_ne]; exact h0, if_pos rfl]
    have h2 := h t (s.toks + 1 + 1)
    rw [← sg1 h0] at h2
    exact h2
end
end Mine
end
section
open PySem PySem.Calls PySem.W PyProof.Rows PySem.Spec
set_option Elab.async false
set_option maxRecDepth 100000
set_option maxHeartbeats 1000000
set_option linter.unusedVariables false
namespace Mine
section
variable {prog : Program} {w : World} {A : Around} {E : Value → Shared → Prop} {s : Shared} {env : Env} {h₀ : Heap} {L : Addr} {m : Str → Option Value} {nx : List (Addr × Obj)}
/-- «numbers or [452358]» as one way; what the ledger held ahead is let go -/
theorem truthy_nums {D : Addr} {ys : List Value} {n : Nat} {k : Nat} {p p2 pos : Pos} {Q : Value → Shared → Prop} (F : Fr h₀ L s.heap m) (N : News h₀ L s.heap ((D, listOf ys.toArray n) :: nx)) (hv : NumsAre ys)
    (h : ∀ l vs j h' tk, NumsAre vs → Fr h₀ L h' m → News h₀ L h' [(l, listOf vs.toArray j)] → Q (.ref l) { s with heap := h', toks := tk }) :
    wpAny (model prog w) A (truthy (.ref D)) (fun c s₂ => if c = true then Q (.ref D) s₂ else wpAny (model prog w) A (eval (.BoolOp .Or [.List [.Constant (.int 452358) k p] p2] pos) env) Q E s₂) E s := by
  have hl : s.heap.IsList D ys.toArray := ⟨_, (N _ (.head _)).1, rfl, n, rfl⟩
  refine wpAny_truthy_list hl (by rw [List.size_toArray]; have := hv.1; omega) ?_
  cases ys with
  | nil =>
    rw [if_neg (by decide)]
    refine BoolOp_one (List_ (spliced_more (wpAny_Constant_int (spliced_none ?_))))
    refine newList_K F N (fun l h' F' N' _ => ?_) (by show 1 ≤ sizeLine; decide)
    exact h l _ 0 h' _ nums2 F' (fun q hq => N' q (by rw [List.mem_singleton.mp hq]; exact .head _))
  | cons a r =>
    rw [if_pos (by simp)]
    exact h D _ n s.heap _ hv F (fun q hq => N q (by rw [List.mem_singleton.mp hq]; exact .head _))
end
end Mine
end
section
open PySem PySem.Calls PySem.W PyProof.Rows
set_option Elab.async false
set_option maxRecDepth 100000
set_option maxHeartbeats 0
set_option linter.unusedVariables false
namespace Mine
theorem fillKN : (fun P => K P) = (fun P => K P) ∧ PySem.Challenge.rw_pd0025_01 = PySem.Challenge.rw_pd0025_01 := by
  k_fill
  exact ⟨rfl, rfl⟩
theorem normpath_okM (w : World) (news : List (Addr × Obj)) (l : List Nat) (t : Tok) (hx : l.length ≤ 100000) : Ctx0 w news 3 fun A s h₀ L m Q E =>
    (∀ (t : Tok) (h' : Heap) (tk' : Nat), Fr h₀ L h' m → News h₀ L h' news → Q (.str (mkS (normL l)) t) { s with heap := h', toks := tk' }) →
    wpAny (model rowR.prog w) A (call (.ref 136) [.str (mkS l) t]) Q E s := by
  have h := @normpath_ok w news (mkS l) t (by rw [len_mk]; exact hx)
  simp only [toL_mkS] at h
  exact @h
theorem straight_okM (w : World) (news : List (Addr × Obj)) (x : Str) (t : Tok) (hx : x.length ≤ 5000) : Ctx0 w news 40 fun A s h₀ L m Q E =>
    (∀ (t : Tok) (h' : Heap) (tk' : Nat), Fr h₀ L h' m → News h₀ L h' news → Q (.str (mkS (straightL (toL x))) t) { s with heap := h', toks := tk' }) →
    wpAny (model rowR.prog w) A (call (.ref 250) [.str x t]) Q E s := by
  have h := @straight_ok w news (toL x) t (by rw [← length_toL]; exact hx)
  rw [mkS_toL] at h
  exact @h
theorem straight_okL (w : World) (news : List (Addr × Obj)) (l : List Nat) (t : Tok) (hx : l.length ≤ 5000) : Ctx0 w news 40 fun A s h₀ L m Q E =>
    (∀ (t : Tok) (h' : Heap) (tk' : Nat), Fr h₀ L h' m → News h₀ L h' news → Q (.str (mkS (straightL l)) t) { s with heap := h', toks := tk' }) →
    wpAny (model rowR.prog w) A (call (.ref 250) [.str (mkS l) t]) Q E s := @straight_ok w news l t hx
local macro_rules | `(tactic| k_mem) => `(tactic| assumption)
noncomputable def dLaw : {x : DefRec × List (Str × PySem.Expr) // defOf qV rowR.name = some x} := ⟨(⟨_, _, _, _, _⟩, _), rfl⟩
theorem head' (hc : WalkO qV looseL (XL qV []) (Hook.says hookK) rowR.toRowW dLaw.1.1 dLaw.1.2 fun f vs => PySem.call f vs) : PySem.Challenge.rw_pd0025_01.Holds := head fun d kwd e => by
  have h : (d, kwd) = dLaw.1 := Option.some.inj (e.symm.trans dLaw.2)
  have h1 : d = dLaw.1.1 := congrArg Prod.fst h
  have h2 : kwd = dLaw.1.2 := congrArg Prod.snd h
  rw [h1, h2]
  exact hc
theorem tryIt : PySem.Challenge.rw_pd0025_01.Holds := by
  k_with_none
  (k_with "call ref" => (k_here; (show wpAny _ _ (call (Value.ref 221) [Value.ref _]) _ _ _); k_dflt (refine' spelled_ok _ _ _ _ _ ?hlq9 ?hvq9 ?kB ?kF ?kX ?kN ?kT ?kc ?kd ?ku ?_; (case kB => k_asm); (case kF => k_asm); (case kX => k_asm); (case kN => k_asm); (case kT => k_asm); (case kc => first | exact rfl | assumption); (case kd => first | omega | (simp only [depth_deeper]; omega) | ktr_room); (case ku => first | omega | (simp only [units_deeper]; omega) | ktr_units); (case hlq9 => first | exact .head _ | assumption); (case hvq9 => first | (with_reducible assumption) | exact nums1 (by with_reducible assumption) (by rfl) | exact nums2)); intro D9 wr9 pl9 t1q9 t2q9 h9 tk9 hg9 F9 N9 lt9; (obtain ⟨f1q, f2q, f3q, f4q, f5q, f6q, f7q, f8q, f9q, f10q, f11q, f12q, f13q, f14q, f15q⟩ := spell_facts hg9); (obtain ⟨g1q, g2q, g3q⟩ := spell_joins hg9 (decide (rootL wr9 ≠ []))); (have g4q := told_len hg9 (decide (rootL wr9 ≠ []))); (try dsimp only); (try k_fold)))
  (k_with "call ref" => (k_here; (show wpAny _ _ (call (Value.ref 226) [Value.str (mkS _) _]) _ _ _); k_dflt (refine' prepared_ok _ _ _ _ ?hxq9 ?kB ?kF ?kX ?kN ?kT ?kc ?kd ?ku ?_; (case kB => k_asm); (case kF => k_asm); (case kX => k_asm); (case kN => k_asm); (case kT => k_asm); (case kc => first | exact rfl | assumption); (case kd => first | omega | (simp only [depth_deeper]; omega) | ktr_room); (case ku => first | omega | (simp only [units_deeper]; omega) | ktr_units); (case hxq9 => assumption)); intro t9 h9 tk9 F9 N9; (try dsimp only); (try k_fold)))
  (k_with "call ref" => (k_here; (show wpAny _ _ (call (Value.ref 136) [Value.str (mkS _) _]) _ _ _); k_dflt (refine' normpath_okM _ _ _ _ ?hxq9 ?kB ?kF ?kX ?kN ?kT ?kc ?kd ?ku ?_; (case kB => k_asm); (case kF => k_asm); (case kX => k_asm); (case kN => k_asm); (case kT => k_asm); (case kc => first | exact rfl | assumption); (case kd => first | omega | (simp only [depth_deeper]; omega) | ktr_room); (case ku => first | omega | (simp only [units_deeper]; omega) | ktr_units); (case hxq9 => assumption)); intro t9 h9 tk9 F9 N9; (try dsimp only); (try k_fold)))
  (k_with "call ref" => (k_here; (show wpAny _ _ (call (Value.ref 250) [Value.str _ _]) _ _ _); k_dflt (refine' straight_okM _ _ _ _ ?hxq9 ?kB ?kF ?kX ?kN ?kT ?kc ?kd ?ku ?_; (case kB => k_asm); (case kF => k_asm); (case kX => k_asm); (case kN => k_asm); (case kT => k_asm); (case kc => first | exact rfl | assumption); (case kd => first | omega | (simp only [depth_deeper]; omega) | ktr_room); (case ku => first | omega | (simp only [units_deeper]; omega) | ktr_units); (case hxq9 => first | (rw [len_mk]; assumption) | assumption | decide +kernel)); intro t9 h9 tk9 F9 N9; (try dsimp only); (try k_fold)))
  (k_with "call ref" => (k_here; (show wpAny _ _ (call (Value.ref 233) [Value.str (mkS _) _]) _ _ _); k_dflt (refine' by_names_ok _ _ _ _ ?hxq9 ?hoq9 ?kB ?kF ?kX ?kN ?kT ?kc ?kd ?ku ?_; (case kB => k_asm); (case kF => k_asm); (case kX => k_asm); (case kN => k_asm); (case kT => k_asm); (case kc => first | exact rfl | assumption); (case kd => first | omega | (simp only [depth_deeper]; omega) | ktr_room); (case ku => first | omega | (simp only [units_deeper]; omega) | ktr_units); (case hxq9 => assumption); (case hoq9 => assumption)); intro q9 acc9 t9 h9 tk9 hpq9 hh1q9 hh2q9 F9 N9; (have hjq := peel_join_len hpq9 (by assumption)); (try dsimp only); (try k_fold)))
  (k_with "call ref" => (k_here; (show wpAny _ _ (call (Value.ref 240) [Value.str (mkS _) _]) _ _ _); k_dflt (refine' root_okM _ _ _ _ ?hxq9 ?kB ?kF ?kX ?kN ?kT ?kc ?kd ?ku ?_; (case kB => k_asm); (case kF => k_asm); (case kX => k_asm); (case kN => k_asm); (case kT => k_asm); (case kc => first | exact rfl | assumption); (case kd => first | omega | (simp only [depth_deeper]; omega) | ktr_room); (case ku => first | omega | (simp only [units_deeper]; omega) | ktr_units); (case hxq9 => assumption)); intro t9 h9 tk9 F9 N9; (try dsimp only); (try k_fold)))
  (k_with "call builtin:str.split" => (k_here; (show wpAny _ _ (call (Value.builtin "str.split") [Value.str (mkS _) _, Value.str (Str.ofString "/") _]) _ _ _); k_dflt (refine' split_mk ?Fq ?Nq ?_ ?hxq; (case Fq => k_asm); (case Nq => k_asm); (case hxq => (first | assumption | omega))); intro D8 vs8 h8 k8 hv8 F8 N8 lt8; (try k_lt lt8); (try dsimp only); (try k_fold)))
  (k_with "eval ListComp" => (k_here; k_dflt (refine LCg.ListComp_U (F₀ := by k_asm) (by with_unfolding_all rfl) (by decide) (by rfl) (by decide) (by rfl) ?_)))
  (k_with "CompSrc" => (k_here; k_dflt (first
  | (refine' srcT_mk ?hh9 ?FF9 ?NN9 ?mm9 ?pp9 ?zz9 (fun p9 t9 I9 oI9 C9 oC9 D9 m9 ys9 h9 tk9 nx9 E9 hC9 hx9 F9 N9 => ?_) (fun ys9 D9 h9 tk9 nx9 hy9 hs9 F9 N9 => ?_); (case hh9 => rfl); (case FF9 => k_asm); (case NN9 => k_asm); (case mm9 => k_mem); (case pp9 => with_reducible assumption); (case zz9 => exact vs_len (by with_reducible assumption) (by assumption)))
  | (refine' srcF_mk (by with_reducible assumption) ?hh9 ?FF9 ?NN9 ?mm9 ?pp9 ?zz9 (fun a9 t9 u9 p9 I9 oI9 C9 oC9 D9 m9 ys9 h9 tk9 E9 hm9 hC9 hx9 F9 N9 off9 ne9 hS9 => ?_) (fun ys9 D9 h9 tk9 hy9 F9 N9 => ?_); (case hh9 => rfl); (case FF9 => k_asm); (case NN9 => k_asm); (case mm9 => k_mem); (case pp9 => with_reducible assumption); (case zz9 => exact kept_len _ _ (by with_reducible assumption)))); (all_goals (try dsimp only)); (all_goals (try k_fold))))
  (k_with "TupEnd" => (k_dflt (refine' TupEnd.mk ?FF9 ?NN9 ?ll9; (case FF9 => k_asm); (case NN9 => k_asm); (case ll9 => exact ltAll' (by assumption)))))
  (k_with "CompEnd" => (k_dflt (refine' cEndF ?FF9 ?NN9 ?oo9 ?SS9; (case FF9 => k_asm); (case NN9 => k_asm); (case oo9 => assumption); (case SS9 => assumption))))
  (k_with "subscriptTail" => (k_here; (with_reducible show wpAny _ _ (subscriptTail _ _ (Value.ref _) (Value.int 0 _)) _ _ _); k_dflt (refine' item_fst ?Nq9 ?mq9 ?_ ?hsq9; (case Nq9 => k_asm); (case mq9 => k_mem); (case hsq9 => with_unfolding_all rfl))))
  (k_with "subscriptTail" => (k_here; (with_reducible show wpAny _ _ (subscriptTail _ _ (Value.ref _) (Value.int 1 _)) _ _ _); k_dflt (refine' item_snd ?Nq9 ?mq9 ?_ ?hsq9; (case Nq9 => k_asm); (case mq9 => k_mem); (case hsq9 => with_unfolding_all rfl))))
  (k_with "call ref" => (k_here; (show wpAny _ _ (call (Value.ref 245) [Value.str (mkS _) _, Value.ref _]) _ _ _); k_dflt (refine' kept_ok _ _ _ _ _ _ _ _ ?hl9 ?hp9 ?hz9 ?hr9 ?kB ?kF ?kX ?kN ?kT ?kc ?kd ?ku ?_; (case kB => k_asm); (case kF => k_asm); (case kX => k_asm); (case kN => k_asm); (case hl9 => k_mem); (case hp9 => first | with_reducible assumption | exact PairsAre.mono (by with_reducible assumption) (fun q hq => .tail _ hq)); (case hz9 => with_reducible assumption); (case hr9 => with_reducible assumption); (case kT => k_asm); (case kc => first | exact rfl | assumption); (case kd => first | omega | (simp only [depth_deeper]; omega) | ktr_room); (case ku => first | omega | (simp only [units_deeper]; omega) | ktr_units)); intro D9 ws9 k9 h9 tk9 hw9 F9 N9; (try dsimp only); (try k_fold)))
  (k_with "call builtin:str.join" => (k_here; (show wpAny _ _ (call (Value.builtin "str.join") [Value.str (Str.ofString "/") _, Value.ref _]) _ _ _); k_dflt (refine' join_call ?Nq ?mq ?iq ?wq ?_; (case Nq => k_asm); (case mq => k_mem); (case iq => with_reducible assumption); (case wq => with_reducible assumption)); intro t9 k9 hj9; (try dsimp only); (try k_fold)))
  (k_with "CompSrc" => (k_here; (with_reducible show LCg.CompSrc _ _ _ _ _ _ _ (PySem.Expr.Subscript _ (PySem.Expr.Constant (Const.int 0) _ _) _) _ _ _ _ _ _); k_dflt (refine' srcF_mk (f := Prod.fst) True.intro ?hh9 ?FF9 ?NN9 ?mm9 ?pp9 ?zz9 (fun a9 t9 u9 p9 I9 oI9 C9 oC9 D9 m9 ys9 h9 tk9 E9 hm9 hC9 hx9 F9 N9 off9 ne9 hS9 => ?_) (fun ys9 D9 h9 tk9 hy9 F9 N9 => ?_); (case hh9 => rfl); (case FF9 => k_asm); (case NN9 => k_asm); (case mm9 => k_mem); (case pp9 => with_reducible assumption); (case zz9 => exact kept_len _ _ (by with_reducible assumption))); (all_goals (try dsimp only)); (all_goals (try k_fold))))
  (k_with "CompSrc" => (k_here; (with_reducible show LCg.CompSrc _ _ _ _ _ _ _ (PySem.Expr.Subscript _ (PySem.Expr.Constant (Const.int 1) _ _) _) _ _ _ _ _ _); k_dflt (refine' srcF_mk (f := Prod.snd) True.intro ?hh9 ?FF9 ?NN9 ?mm9 ?pp9 ?zz9 (fun a9 t9 u9 p9 I9 oI9 C9 oC9 D9 m9 ys9 h9 tk9 E9 hm9 hC9 hx9 F9 N9 off9 ne9 hS9 => ?_) (fun ys9 D9 h9 tk9 hy9 F9 N9 => ?_); (case hh9 => rfl); (case FF9 => k_asm); (case NN9 => k_asm); (case mm9 => k_mem); (case pp9 => with_reducible assumption); (case zz9 => exact kept_len _ _ (by with_reducible assumption))); (all_goals (try dsimp only)); (all_goals (try k_fold))))
  (k_with "call ref" => (k_here; (with_reducible show wpAny _ _ (call (Value.ref _) [Value.str (mkS _) _]) _ _ _); (show wpAny _ _ (call (Value.ref 250) [Value.str (mkS _) _]) _ _ _); k_dflt (refine' straight_okL _ _ _ _ ?hxq9 ?kB ?kF ?kX ?kN ?kT ?kc ?kd ?ku ?_; (case kB => k_asm); (case kF => k_asm); (case kX => k_asm); (case kN => k_asm); (case kT => k_asm); (case kc => first | exact rfl | assumption); (case kd => first | omega | (simp only [depth_deeper]; omega) | ktr_room); (case ku => first | omega | (simp only [units_deeper]; omega) | ktr_units); (case hxq9 => assumption)); intro t9 h9 tk9 F9 N9; (try dsimp only); (try k_fold)))
  (k_with "call type:zip" => (k_here; (with_reducible show wpAny _ _ (call (Value.type "zip") [Value.ref _, Value.ref _]) _ _ _); k_dflt (refine' zip_callN ?FFq9 ?NNq9 ?m1q9 ?m2q9 ?i1q9 ?i2q9 ?llq9 ?zzq9 ?_; (case FFq9 => k_asm); (case NNq9 => k_asm); (case m1q9 => first | assumption | exact .tail _ (.head _)); (case m2q9 => first | assumption | exact .head _); (case i1q9 => with_reducible assumption); (case i2q9 => with_reducible assumption); (case llq9 => assumption); (case zzq9 => assumption)); intro z9 h9 zm9 F9 N9; (try dsimp only); (try k_fold)))
  (k_with "call type:list" => (k_here; (with_reducible show wpAny _ _ (call (Value.type "list") [Value.ref _]) _ _ _); k_dflt (refine' zip_listN ?hhq9 ?FFq9 ?NNq9 ?mkq9 ?_; (case hhq9 => rfl); (case FFq9 => k_asm); (case NNq9 => k_asm); (case mkq9 => assumption)); intro D9 ws9 k9 tu9 h9 tk9 hP9 hz9 hs9 F9 N9 lt9; (try dsimp only); (try k_fold)))
  (k_with "compareOp NotEq str str" => (k_here; (with_reducible show wpAny _ _ (compareOp CmpOp.NotEq (Value.str (mkS _) _) (Value.str _ _)) _ _ _); k_dflt (refine' ne_same ?eq9 ?_; (case eq9 => first | (with_reducible exact congrArg mkS (law1 (by assumption))) | (with_reducible exact congrArg mkS (law2 (by assumption) (by assumption) (by assumption) (by assumption))) | (with_reducible exact congrArg mkS (law3 (by assumption)))))))
  (k_with "compareOp Eq str str" => (k_here; (with_reducible show wpAny _ _ (compareOp CmpOp.Eq (Value.str (mkS _) _) (Value.str _ _)) _ _ _); k_dflt (refine' eq_same ?eq9 ?_; (case eq9 => first | first | (with_reducible exact tl1 (by assumption) (by assumption)) | (with_reducible exact tl2 (by assumption) (by assumption) (by assumption)) | (with_reducible exact tl3 (by assumption) (by assumption) (by assumption) (by assumption)) | (refine tl4 (x := mkS _ ++ mkS _) ?_; first | (with_reducible exact tl1 (by assumption) (by assumption)) | (with_reducible exact tl2 (by assumption) (by assumption) (by assumption)) | (with_reducible exact tl3 (by assumption) (by assumption) (by assumption) (by assumption))) | (refine tl4 ?_; first | (with_reducible exact tl1 (by assumption) (by assumption)) | (with_reducible exact tl2 (by assumption) (by assumption) (by assumption)) | (with_reducible exact tl3 (by assumption) (by assumption) (by assumption) (by assumption)))))))
  (k_with "truthy ref" => (k_here; (show wpAny _ _ (truthy (Value.ref _)) _ _ _); (with_reducible rename PairsAre _ _ (keptL _ (List.zip _ _)) => zzq); k_dflt (refine' truthy_pairs zzq (kept_len _ _ (by with_reducible assumption)) ?Nq9 ?mq9 (fun tk9 hk9 => ?_) (fun tk9 hk9 => ?_); (case Nq9 => k_asm); (case mq9 => k_mem)); (all_goals (try dsimp only)); (all_goals (try k_fold))))
  (k_with "truthy ref" => (k_here; (with_reducible show wpAny _ _ (truthy (Value.ref _)) _ _ _); k_dflt (refine' truthy_nums ?FFq9 ?NNq9 ?vvq9 ?_; (case FFq9 => k_asm); (case NNq9 => k_asm); (case vvq9 => exact nums1 (by with_reducible assumption) (by rfl))); intro l9 vs9 j9 h9 tk9 hv9 F9 N9; (try dsimp only); (try k_fold)))
  (k_with "truthy str" => (k_here; (with_reducible show wpAny _ _ (truthy (Value.str (mkS _ ++ mkS _) _)) _ _ _); k_dflt (refine' truthy_dot ?zaq9 ?zbq9 ?_; (case zaq9 => assumption); (case zbq9 => assumption)); intro t9 tk9; (try dsimp only); (try k_fold)))
  w_on
  refine head' ?_
  unfold dLaw
  dsimp only
  w_strict (k_go0; (all_goals try k_fold); k_steps)
end Mine
end
theorem PySem.Challenge.cw_pd0025_01_holds : PySem.Challenge.rw_pd0025_01.Holds :=
  Mine.tryIt
