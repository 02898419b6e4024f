import PyProof.Rows.All
import Wide.All
import OpenK.AllK
import Wide.FinOn
import PySem.Challenge.RW_xo0036_01
set_option Elab.async false
set_option linter.all false
set_option compiler.extract_closed false
noncomputable section
-- HState
open PySem PySem.W PyProof.Rows
set_option maxRecDepth 100000
namespace Mine
noncomputable abbrev P0 : Program := PySem.Challenge.pw_xo0036_01
noncomputable def nth : Nat → List Stmt → Stmt
  | 0, s :: _ => s
  | n + 1, _ :: r => nth n r
  | _, [] => .Pass ⟨0, 0, 0, 0⟩
noncomputable def fP : Stmt → Arguments
  | .FunctionDef _ a _ _ _ _ _ _ _ _ => a
  | _ => ⟨[], [], none, [], [], none, []⟩
noncomputable def fB : Stmt → List Stmt
  | .FunctionDef _ _ b _ _ _ _ _ _ _ => b
  | .ClassDef _ _ _ b _ _ _ _ _ _ _ => b
  | _ => []
noncomputable def fS : Stmt → Scope
  | .FunctionDef _ _ _ _ _ _ sc _ _ _ => sc
  | _ => default
noncomputable def st0 : Stmt := nth 0 P0.main.body
noncomputable def st1 : Stmt := nth 1 P0.main.body
noncomputable def st2 : Stmt := nth 2 P0.main.body
noncomputable def st3 : Stmt := nth 3 P0.main.body
noncomputable def st4 : Stmt := nth 4 P0.main.body
noncomputable def st5 : Stmt := nth 5 P0.main.body
noncomputable def st6 : Stmt := nth 6 P0.main.body
noncomputable def st7 : Stmt := nth 7 P0.main.body
noncomputable def st8 : Stmt := nth 8 P0.main.body
noncomputable def st9 : Stmt := nth 9 P0.main.body
noncomputable def st10 : Stmt := nth 10 P0.main.body
noncomputable def st11 : Stmt := nth 11 P0.main.body
noncomputable def st12 : Stmt := nth 12 P0.main.body
noncomputable def st13 : Stmt := nth 13 P0.main.body
noncomputable def st14 : Stmt := nth 14 P0.main.body
noncomputable def st15 : Stmt := nth 15 P0.main.body
noncomputable def st16 : Stmt := nth 16 P0.main.body
noncomputable def st17 : Stmt := nth 17 P0.main.body
noncomputable def st18 : Stmt := nth 18 P0.main.body
noncomputable def st19 : Stmt := nth 19 P0.main.body
noncomputable def st20 : Stmt := nth 20 P0.main.body
noncomputable def st21 : Stmt := nth 21 P0.main.body
noncomputable def st22 : Stmt := nth 22 P0.main.body
noncomputable def me0 : Stmt := nth 0 (fB st3)
noncomputable def me1 : Stmt := nth 1 (fB st3)
noncomputable def me2 : Stmt := nth 2 (fB st3)
noncomputable def me3 : Stmt := nth 3 (fB st3)
noncomputable def me4 : Stmt := nth 4 (fB st3)
noncomputable def me5 : Stmt := nth 5 (fB st3)
noncomputable def me6 : Stmt := nth 6 (fB st3)
noncomputable def me7 : Stmt := nth 7 (fB st3)
noncomputable def me8 : Stmt := nth 8 (fB st3)

@[reducible] noncomputable def lstOf {x : List Stmt} (a : Stmt) (b : List Stmt) (_ : x = a :: b) : List Stmt := a :: b
@[reducible] noncomputable def scOf {x : Scope} (k : ScopeKind) (n : List (Str × NameKind)) (g c : Bool) (m : List (Str × Const)) (_ : x = ⟨k, n, g, c, m⟩) : Scope := ⟨k, n, g, c, m⟩
@[reducible] noncomputable def arOf {x : Arguments} (p a : List Arg) (v : Option Arg) (ko : List Arg) (kd : List (Option Expr)) (kw : Option Arg) (ds : List Expr) (_ : x = ⟨p, a, v, ko, kd, kw, ds⟩) : Arguments := ⟨p, a, v, ko, kd, kw, ds⟩
@[reducible] noncomputable def b0 : List Stmt := lstOf _ _ (rfl : fB st0 = _ :: _)
@[reducible] noncomputable def s0 : Scope := scOf _ _ _ _ _ (rfl : fS st0 = ⟨_, _, _, _, _⟩)
@[reducible] noncomputable def a0 : Arguments := arOf _ _ _ _ _ _ _ (rfl : fP st0 = ⟨_, _, _, _, _, _, _⟩)
@[reducible] noncomputable def b6 : List Stmt := lstOf _ _ (rfl : fB st6 = _ :: _)
@[reducible] noncomputable def s6 : Scope := scOf _ _ _ _ _ (rfl : fS st6 = ⟨_, _, _, _, _⟩)
@[reducible] noncomputable def a6 : Arguments := arOf _ _ _ _ _ _ _ (rfl : fP st6 = ⟨_, _, _, _, _, _, _⟩)
@[reducible] noncomputable def b8 : List Stmt := lstOf _ _ (rfl : fB st8 = _ :: _)
@[reducible] noncomputable def s8 : Scope := scOf _ _ _ _ _ (rfl : fS st8 = ⟨_, _, _, _, _⟩)
@[reducible] noncomputable def a8 : Arguments := arOf _ _ _ _ _ _ _ (rfl : fP st8 = ⟨_, _, _, _, _, _, _⟩)
@[reducible] noncomputable def b10 : List Stmt := lstOf _ _ (rfl : fB st10 = _ :: _)
@[reducible] noncomputable def s10 : Scope := scOf _ _ _ _ _ (rfl : fS st10 = ⟨_, _, _, _, _⟩)
@[reducible] noncomputable def a10 : Arguments := arOf _ _ _ _ _ _ _ (rfl : fP st10 = ⟨_, _, _, _, _, _, _⟩)
@[reducible] noncomputable def b11 : List Stmt := lstOf _ _ (rfl : fB st11 = _ :: _)
@[reducible] noncomputable def s11 : Scope := scOf _ _ _ _ _ (rfl : fS st11 = ⟨_, _, _, _, _⟩)
@[reducible] noncomputable def a11 : Arguments := arOf _ _ _ _ _ _ _ (rfl : fP st11 = ⟨_, _, _, _, _, _, _⟩)
@[reducible] noncomputable def b12 : List Stmt := lstOf _ _ (rfl : fB st12 = _ :: _)
@[reducible] noncomputable def s12 : Scope := scOf _ _ _ _ _ (rfl : fS st12 = ⟨_, _, _, _, _⟩)
@[reducible] noncomputable def a12 : Arguments := arOf _ _ _ _ _ _ _ (rfl : fP st12 = ⟨_, _, _, _, _, _, _⟩)
@[reducible] noncomputable def b13 : List Stmt := lstOf _ _ (rfl : fB st13 = _ :: _)
@[reducible] noncomputable def s13 : Scope := scOf _ _ _ _ _ (rfl : fS st13 = ⟨_, _, _, _, _⟩)
@[reducible] noncomputable def a13 : Arguments := arOf _ _ _ _ _ _ _ (rfl : fP st13 = ⟨_, _, _, _, _, _, _⟩)
@[reducible] noncomputable def b14 : List Stmt := lstOf _ _ (rfl : fB st14 = _ :: _)
@[reducible] noncomputable def s14 : Scope := scOf _ _ _ _ _ (rfl : fS st14 = ⟨_, _, _, _, _⟩)
@[reducible] noncomputable def a14 : Arguments := arOf _ _ _ _ _ _ _ (rfl : fP st14 = ⟨_, _, _, _, _, _, _⟩)
@[reducible] noncomputable def b15 : List Stmt := lstOf _ _ (rfl : fB st15 = _ :: _)
@[reducible] noncomputable def s15 : Scope := scOf _ _ _ _ _ (rfl : fS st15 = ⟨_, _, _, _, _⟩)
@[reducible] noncomputable def a15 : Arguments := arOf _ _ _ _ _ _ _ (rfl : fP st15 = ⟨_, _, _, _, _, _, _⟩)
@[reducible] noncomputable def b17 : List Stmt := lstOf _ _ (rfl : fB st17 = _ :: _)
@[reducible] noncomputable def s17 : Scope := scOf _ _ _ _ _ (rfl : fS st17 = ⟨_, _, _, _, _⟩)
@[reducible] noncomputable def a17 : Arguments := arOf _ _ _ _ _ _ _ (rfl : fP st17 = ⟨_, _, _, _, _, _, _⟩)
@[reducible] noncomputable def b18 : List Stmt := lstOf _ _ (rfl : fB st18 = _ :: _)
@[reducible] noncomputable def s18 : Scope := scOf _ _ _ _ _ (rfl : fS st18 = ⟨_, _, _, _, _⟩)
@[reducible] noncomputable def a18 : Arguments := arOf _ _ _ _ _ _ _ (rfl : fP st18 = ⟨_, _, _, _, _, _, _⟩)
@[reducible] noncomputable def b19 : List Stmt := lstOf _ _ (rfl : fB st19 = _ :: _)
@[reducible] noncomputable def s19 : Scope := scOf _ _ _ _ _ (rfl : fS st19 = ⟨_, _, _, _, _⟩)
@[reducible] noncomputable def a19 : Arguments := arOf _ _ _ _ _ _ _ (rfl : fP st19 = ⟨_, _, _, _, _, _, _⟩)
@[reducible] noncomputable def b20 : List Stmt := lstOf _ _ (rfl : fB st20 = _ :: _)
@[reducible] noncomputable def s20 : Scope := scOf _ _ _ _ _ (rfl : fS st20 = ⟨_, _, _, _, _⟩)
@[reducible] noncomputable def a20 : Arguments := arOf _ _ _ _ _ _ _ (rfl : fP st20 = ⟨_, _, _, _, _, _, _⟩)
@[reducible] noncomputable def b21 : List Stmt := lstOf _ _ (rfl : fB st21 = _ :: _)
@[reducible] noncomputable def s21 : Scope := scOf _ _ _ _ _ (rfl : fS st21 = ⟨_, _, _, _, _⟩)
@[reducible] noncomputable def a21 : Arguments := arOf _ _ _ _ _ _ _ (rfl : fP st21 = ⟨_, _, _, _, _, _, _⟩)
@[reducible] noncomputable def b22 : List Stmt := lstOf _ _ (rfl : fB st22 = _ :: _)
@[reducible] noncomputable def s22 : Scope := scOf _ _ _ _ _ (rfl : fS st22 = ⟨_, _, _, _, _⟩)
@[reducible] noncomputable def a22 : Arguments := arOf _ _ _ _ _ _ _ (rfl : fP st22 = ⟨_, _, _, _, _, _, _⟩)
@[reducible] noncomputable def bm0 : List Stmt := lstOf _ _ (rfl : fB me0 = _ :: _)
@[reducible] noncomputable def sm0 : Scope := scOf _ _ _ _ _ (rfl : fS me0 = ⟨_, _, _, _, _⟩)
@[reducible] noncomputable def am0 : Arguments := arOf _ _ _ _ _ _ _ (rfl : fP me0 = ⟨_, _, _, _, _, _, _⟩)
@[reducible] noncomputable def bm1 : List Stmt := lstOf _ _ (rfl : fB me1 = _ :: _)
@[reducible] noncomputable def sm1 : Scope := scOf _ _ _ _ _ (rfl : fS me1 = ⟨_, _, _, _, _⟩)
@[reducible] noncomputable def am1 : Arguments := arOf _ _ _ _ _ _ _ (rfl : fP me1 = ⟨_, _, _, _, _, _, _⟩)
@[reducible] noncomputable def bm2 : List Stmt := lstOf _ _ (rfl : fB me2 = _ :: _)
@[reducible] noncomputable def sm2 : Scope := scOf _ _ _ _ _ (rfl : fS me2 = ⟨_, _, _, _, _⟩)
@[reducible] noncomputable def am2 : Arguments := arOf _ _ _ _ _ _ _ (rfl : fP me2 = ⟨_, _, _, _, _, _, _⟩)
@[reducible] noncomputable def bm3 : List Stmt := lstOf _ _ (rfl : fB me3 = _ :: _)
@[reducible] noncomputable def sm3 : Scope := scOf _ _ _ _ _ (rfl : fS me3 = ⟨_, _, _, _, _⟩)
@[reducible] noncomputable def am3 : Arguments := arOf _ _ _ _ _ _ _ (rfl : fP me3 = ⟨_, _, _, _, _, _, _⟩)
@[reducible] noncomputable def bm4 : List Stmt := lstOf _ _ (rfl : fB me4 = _ :: _)
@[reducible] noncomputable def sm4 : Scope := scOf _ _ _ _ _ (rfl : fS me4 = ⟨_, _, _, _, _⟩)
@[reducible] noncomputable def am4 : Arguments := arOf _ _ _ _ _ _ _ (rfl : fP me4 = ⟨_, _, _, _, _, _, _⟩)
@[reducible] noncomputable def bm5 : List Stmt := lstOf _ _ (rfl : fB me5 = _ :: _)
@[reducible] noncomputable def sm5 : Scope := scOf _ _ _ _ _ (rfl : fS me5 = ⟨_, _, _, _, _⟩)
@[reducible] noncomputable def am5 : Arguments := arOf _ _ _ _ _ _ _ (rfl : fP me5 = ⟨_, _, _, _, _, _, _⟩)
@[reducible] noncomputable def bm6 : List Stmt := lstOf _ _ (rfl : fB me6 = _ :: _)
@[reducible] noncomputable def sm6 : Scope := scOf _ _ _ _ _ (rfl : fS me6 = ⟨_, _, _, _, _⟩)
@[reducible] noncomputable def am6 : Arguments := arOf _ _ _ _ _ _ _ (rfl : fP me6 = ⟨_, _, _, _, _, _, _⟩)
@[reducible] noncomputable def bm7 : List Stmt := lstOf _ _ (rfl : fB me7 = _ :: _)
@[reducible] noncomputable def sm7 : Scope := scOf _ _ _ _ _ (rfl : fS me7 = ⟨_, _, _, _, _⟩)
@[reducible] noncomputable def am7 : Arguments := arOf _ _ _ _ _ _ _ (rfl : fP me7 = ⟨_, _, _, _, _, _, _⟩)
@[reducible] noncomputable def bm8 : List Stmt := lstOf _ _ (rfl : fB me8 = _ :: _)
@[reducible] noncomputable def sm8 : Scope := scOf _ _ _ _ _ (rfl : fS me8 = ⟨_, _, _, _, _⟩)
@[reducible] noncomputable def am8 : Arguments := arOf _ _ _ _ _ _ _ (rfl : fP me8 = ⟨_, _, _, _, _, _, _⟩)

noncomputable def kvE : List (Option Expr) → List Expr → List (Int × Str)
  | some (.Constant (.int k) _ _) :: ks, .Constant (.str x) _ _ :: vs => (k, x) :: kvE ks vs
  | _, _ => []
noncomputable def kvOf : Stmt → List (Int × Str)
  | .Assign _ (.Dict ks vs _) _ => kvE ks vs
  | _ => []
noncomputable def kvs : List (Int × Str) := kvOf st7
noncomputable def entL : Nat → List (Int × Str) → List DictEntry
  | _, [] => []
  | b, (k, x) :: r => ⟨k, .int k b, .str x (b + 1)⟩ :: entL (b + 3) r
noncomputable def entS : Nat → List (Int × Str) → List DictEntry
  | _, [] => []
  | b, (k, x) :: r => ⟨k, .int k b, .str x (b + 1)⟩ :: entS (b + 2) r
noncomputable abbrev dictO (es : List DictEntry) (n : Nat) : Obj := ⟨.type "dict", none, .dict es.toArray n, #[]⟩
noncomputable def chunk (j : Nat) : List (Int × Str) := (kvs.drop (17 * j)).take 17
noncomputable def b3Es : List DictEntry := entL 362 (kvs.take 646) ++ entS 2300 (kvs.drop 646)
noncomputable def o123 (_ : Params) : Obj := dictO b3Es 650
noncomputable def o124 (_ : Params) : Obj := dictO (entL 413 (chunk 1)) 17
noncomputable def o125 (_ : Params) : Obj := dictO (entL 464 (chunk 2)) 17
noncomputable def o126 (_ : Params) : Obj := dictO (entL 515 (chunk 3)) 17
noncomputable def o127 (_ : Params) : Obj := dictO (entL 566 (chunk 4)) 17
noncomputable def o128 (_ : Params) : Obj := dictO (entL 617 (chunk 5)) 17
noncomputable def o129 (_ : Params) : Obj := dictO (entL 668 (chunk 6)) 17
noncomputable def o130 (_ : Params) : Obj := dictO (entL 719 (chunk 7)) 17
noncomputable def o131 (_ : Params) : Obj := dictO (entL 770 (chunk 8)) 17
noncomputable def o132 (_ : Params) : Obj := dictO (entL 821 (chunk 9)) 17
noncomputable def o133 (_ : Params) : Obj := dictO (entL 872 (chunk 10)) 17
noncomputable def o134 (_ : Params) : Obj := dictO (entL 923 (chunk 11)) 17
noncomputable def o135 (_ : Params) : Obj := dictO (entL 974 (chunk 12)) 17
noncomputable def o136 (_ : Params) : Obj := dictO (entL 1025 (chunk 13)) 17
noncomputable def o137 (_ : Params) : Obj := dictO (entL 1076 (chunk 14)) 17
noncomputable def o138 (_ : Params) : Obj := dictO (entL 1127 (chunk 15)) 17
noncomputable def o139 (_ : Params) : Obj := dictO (entL 1178 (chunk 16)) 17
noncomputable def o140 (_ : Params) : Obj := dictO (entL 1229 (chunk 17)) 17
noncomputable def o141 (_ : Params) : Obj := dictO (entL 1280 (chunk 18)) 17
noncomputable def o142 (_ : Params) : Obj := dictO (entL 1331 (chunk 19)) 17
noncomputable def o143 (_ : Params) : Obj := dictO (entL 1382 (chunk 20)) 17
noncomputable def o144 (_ : Params) : Obj := dictO (entL 1433 (chunk 21)) 17
noncomputable def o145 (_ : Params) : Obj := dictO (entL 1484 (chunk 22)) 17
noncomputable def o146 (_ : Params) : Obj := dictO (entL 1535 (chunk 23)) 17
noncomputable def o147 (_ : Params) : Obj := dictO (entL 1586 (chunk 24)) 17
noncomputable def o148 (_ : Params) : Obj := dictO (entL 1637 (chunk 25)) 17
noncomputable def o149 (_ : Params) : Obj := dictO (entL 1688 (chunk 26)) 17
noncomputable def o150 (_ : Params) : Obj := dictO (entL 1739 (chunk 27)) 17
noncomputable def o151 (_ : Params) : Obj := dictO (entL 1790 (chunk 28)) 17
noncomputable def o152 (_ : Params) : Obj := dictO (entL 1841 (chunk 29)) 17
noncomputable def o153 (_ : Params) : Obj := dictO (entL 1892 (chunk 30)) 17
noncomputable def o154 (_ : Params) : Obj := dictO (entL 1943 (chunk 31)) 17
noncomputable def o155 (_ : Params) : Obj := dictO (entL 1994 (chunk 32)) 17
noncomputable def o156 (_ : Params) : Obj := dictO (entL 2045 (chunk 33)) 17
noncomputable def o157 (_ : Params) : Obj := dictO (entL 2096 (chunk 34)) 17
noncomputable def o158 (_ : Params) : Obj := dictO (entL 2147 (chunk 35)) 17
noncomputable def o159 (_ : Params) : Obj := dictO (entL 2198 (chunk 36)) 17
noncomputable def o160 (_ : Params) : Obj := dictO (entL 2249 (chunk 37)) 17
noncomputable def o161 (_ : Params) : Obj := dictO (entS 2300 (chunk 38)) 4
-- the objects (printed by GenState)
noncomputable def o11 (P : Params) : Obj := ⟨.type "tuple", none, .seq #[] 0, #[]⟩
noncomputable def o12_A (P : Params) : Obj := ⟨.none, none, .fields #[], #[]⟩
noncomputable def o13 (P : Params) : Obj := ⟨.type "code", none, .fields #[.str ⟨#[60, 109, 111, 100, 117, 108, 101, 62]⟩ 182, .str ⟨#[60, 109, 111, 100, 117, 108, 101, 62]⟩ 183, .str ⟨#[47, 99, 108, 97, 105, 109, 47, 99, 117, 116, 46, 112, 121]⟩ 184, .int 1 0, .int 0 0, .int 0 0, .int 0 0, .int 0 0, .ref 11, .bool false, .int 181 0, .ref 12, .none, .none, .none, .none, .int 185 0, .int 1 0, .str ⟨#[47, 99, 108, 97, 105, 109, 47, 99, 117, 116, 46, 112, 121]⟩ 186], #[]⟩
noncomputable def o14 (P : Params) : Obj := ⟨.type "frame", none, .plain, #[some (.ref 13), some (.ref 3), some (.ref 3), none, some (.str ⟨#[95, 95, 109, 97, 105, 110, 95, 95]⟩ 164), none, some (.ref 0)]⟩
noncomputable def o3_2 (P : Params) : Obj := ⟨.type "dict", none, .dict #[⟨PyData.keyHash P ⟨#[95, 95, 110, 97, 109, 101, 95, 95]⟩, .str ⟨#[95, 95, 110, 97, 109, 101, 95, 95]⟩ 165, .str ⟨#[99, 112, 121, 51, 49, 51, 46, 101, 109, 97, 105, 108, 46, 104, 101, 97, 100, 101, 114]⟩ 194⟩, ⟨PyData.keyHash P ⟨#[95, 95, 100, 111, 99, 95, 95]⟩, .str ⟨#[95, 95, 100, 111, 99, 95, 95]⟩ 166, .none⟩, ⟨PyData.keyHash P ⟨#[95, 95, 112, 97, 99, 107, 97, 103, 101, 95, 95]⟩, .str ⟨#[95, 95, 112, 97, 99, 107, 97, 103, 101, 95, 95]⟩ 167, .none⟩, ⟨PyData.keyHash P ⟨#[95, 95, 108, 111, 97, 100, 101, 114, 95, 95]⟩, .str ⟨#[95, 95, 108, 111, 97, 100, 101, 114, 95, 95]⟩ 168, .builtin "__main__.__loader__#opaque"⟩, ⟨PyData.keyHash P ⟨#[95, 95, 115, 112, 101, 99, 95, 95]⟩, .str ⟨#[95, 95, 115, 112, 101, 99, 95, 95]⟩ 169, .none⟩, ⟨PyData.keyHash P ⟨#[95, 95, 97, 110, 110, 111, 116, 97, 116, 105, 111, 110, 115, 95, 95]⟩, .str ⟨#[95, 95, 97, 110, 110, 111, 116, 97, 116, 105, 111, 110, 115, 95, 95]⟩ 170, .ref 6⟩, ⟨PyData.keyHash P ⟨#[95, 95, 98, 117, 105, 108, 116, 105, 110, 115, 95, 95]⟩, .str ⟨#[95, 95, 98, 117, 105, 108, 116, 105, 110, 115, 95, 95]⟩ 171, .ref 4⟩, ⟨PyData.keyHash P ⟨#[95, 95, 102, 105, 108, 101, 95, 95]⟩, .str ⟨#[95, 95, 102, 105, 108, 101, 95, 95]⟩ 173, .str ⟨#[47, 99, 108, 97, 105, 109, 47, 99, 117, 116, 46, 112, 121]⟩ 172⟩, ⟨PyData.keyHash P ⟨#[95, 95, 99, 97, 99, 104, 101, 100, 95, 95]⟩, .str ⟨#[95, 95, 99, 97, 99, 104, 101, 100, 95, 95]⟩ 174, .none⟩, ⟨PyData.keyHash P ⟨#[95, 119, 97, 108, 108]⟩, .str ⟨#[95, 119, 97, 108, 108]⟩ 193, .ref 21⟩, ⟨PyData.keyHash P ⟨#[69, 77, 80, 84, 89, 83, 84, 82, 73, 78, 71]⟩, .str ⟨#[69, 77, 80, 84, 89, 83, 84, 82, 73, 78, 71]⟩ 197, .str ⟨#[]⟩ 196⟩] 11, #[]⟩
noncomputable def o12_2 (P : Params) : Obj := ⟨.none, none, .fields #[.int 1 0, .int 0 0, .ref 20], #[]⟩
noncomputable def o15 (P : Params) : Obj := ⟨.type "tuple", none, .seq #[] 0, #[]⟩
noncomputable def o16 (P : Params) : Obj := ⟨.none, none, .fields #[], #[]⟩
noncomputable def o17 (P : Params) : Obj := ⟨.type "tuple", none, .seq #[.str ⟨#[107]⟩ 190] 0, #[]⟩
noncomputable def o18 (P : Params) : Obj := ⟨.type "tuple", none, .seq #[] 0, #[]⟩
noncomputable def o19 (P : Params) : Obj := ⟨.none, none, .func ⟨⟨#[95, 119, 97, 108, 108]⟩, ⟨#[95, 119, 97, 108, 108]⟩, a0, .stmts b0, s0, 0, [], .none, .none, .none, .none, none, .none, .none, 0⟩, #[]⟩
noncomputable def o20 (P : Params) : Obj := ⟨.type "code", none, .fields #[.str ⟨#[95, 119, 97, 108, 108]⟩ 187, .str ⟨#[95, 119, 97, 108, 108]⟩ 188, .str ⟨#[47, 99, 108, 97, 105, 109, 47, 99, 117, 116, 46, 112, 121]⟩ 189, .int 1 0, .int 1 0, .int 0 0, .int 0 0, .int 3 0, .ref 15, .bool true, .int 181 0, .ref 16, .none, .ref 17, .ref 18, .ref 19, .int 191 0, .int 1 0, .str ⟨#[47, 99, 108, 97, 105, 109, 47, 99, 117, 116, 46, 112, 121]⟩ 192], #[]⟩
noncomputable def o21 (P : Params) : Obj := ⟨.type "function", none, .func ⟨⟨#[95, 119, 97, 108, 108]⟩, ⟨#[95, 119, 97, 108, 108]⟩, a0, .stmts b0, s0, 3, [], .none, .none, .none, .str ⟨#[95, 95, 109, 97, 105, 110, 95, 95]⟩ 164, none, .ref 20, .none, 0⟩, #[]⟩
noncomputable def o3_3 (P : Params) : Obj := ⟨.type "dict", none, .dict #[⟨PyData.keyHash P ⟨#[95, 95, 110, 97, 109, 101, 95, 95]⟩, .str ⟨#[95, 95, 110, 97, 109, 101, 95, 95]⟩ 165, .str ⟨#[99, 112, 121, 51, 49, 51, 46, 101, 109, 97, 105, 108, 46, 104, 101, 97, 100, 101, 114]⟩ 194⟩, ⟨PyData.keyHash P ⟨#[95, 95, 100, 111, 99, 95, 95]⟩, .str ⟨#[95, 95, 100, 111, 99, 95, 95]⟩ 166, .none⟩, ⟨PyData.keyHash P ⟨#[95, 95, 112, 97, 99, 107, 97, 103, 101, 95, 95]⟩, .str ⟨#[95, 95, 112, 97, 99, 107, 97, 103, 101, 95, 95]⟩ 167, .none⟩, ⟨PyData.keyHash P ⟨#[95, 95, 108, 111, 97, 100, 101, 114, 95, 95]⟩, .str ⟨#[95, 95, 108, 111, 97, 100, 101, 114, 95, 95]⟩ 168, .builtin "__main__.__loader__#opaque"⟩, ⟨PyData.keyHash P ⟨#[95, 95, 115, 112, 101, 99, 95, 95]⟩, .str ⟨#[95, 95, 115, 112, 101, 99, 95, 95]⟩ 169, .none⟩, ⟨PyData.keyHash P ⟨#[95, 95, 97, 110, 110, 111, 116, 97, 116, 105, 111, 110, 115, 95, 95]⟩, .str ⟨#[95, 95, 97, 110, 110, 111, 116, 97, 116, 105, 111, 110, 115, 95, 95]⟩ 170, .ref 6⟩, ⟨PyData.keyHash P ⟨#[95, 95, 98, 117, 105, 108, 116, 105, 110, 115, 95, 95]⟩, .str ⟨#[95, 95, 98, 117, 105, 108, 116, 105, 110, 115, 95, 95]⟩ 171, .ref 4⟩, ⟨PyData.keyHash P ⟨#[95, 95, 102, 105, 108, 101, 95, 95]⟩, .str ⟨#[95, 95, 102, 105, 108, 101, 95, 95]⟩ 173, .str ⟨#[47, 99, 108, 97, 105, 109, 47, 99, 117, 116, 46, 112, 121]⟩ 172⟩, ⟨PyData.keyHash P ⟨#[95, 95, 99, 97, 99, 104, 101, 100, 95, 95]⟩, .str ⟨#[95, 95, 99, 97, 99, 104, 101, 100, 95, 95]⟩ 174, .none⟩, ⟨PyData.keyHash P ⟨#[95, 119, 97, 108, 108]⟩, .str ⟨#[95, 119, 97, 108, 108]⟩ 193, .ref 21⟩, ⟨PyData.keyHash P ⟨#[69, 77, 80, 84, 89, 83, 84, 82, 73, 78, 71]⟩, .str ⟨#[69, 77, 80, 84, 89, 83, 84, 82, 73, 78, 71]⟩ 197, .str ⟨#[]⟩ 196⟩, ⟨PyData.keyHash P ⟨#[95, 65, 99, 99, 117, 109, 117, 108, 97, 116, 111, 114]⟩, .str ⟨#[95, 65, 99, 99, 117, 109, 117, 108, 97, 116, 111, 114]⟩ 292, .ref 100⟩] 12, #[]⟩
noncomputable def o12_3 (P : Params) : Obj := ⟨.none, none, .fields #[.int 1 0, .int 0 0, .ref 20, .int 6 0, .int 0 0, .ref 28], #[]⟩
noncomputable def o22 (P : Params) : Obj := ⟨.type "tuple", none, .seq #[.type "list"] 0, #[]⟩
noncomputable def o23 (P : Params) : Obj := ⟨.type "builtin_function_or_method", none, .fields #[.builtin "type.__prepare__", .type "type"], #[]⟩
noncomputable def o24 (P : Params) : Obj := ⟨.type "dict", none, .dict #[⟨PyData.keyHash P ⟨#[95, 95, 109, 111, 100, 117, 108, 101, 95, 95]⟩, .str ⟨#[95, 95, 109, 111, 100, 117, 108, 101, 95, 95]⟩ 205, .str ⟨#[99, 112, 121, 51, 49, 51, 46, 101, 109, 97, 105, 108, 46, 104, 101, 97, 100, 101, 114]⟩ 194⟩, ⟨PyData.keyHash P ⟨#[95, 95, 113, 117, 97, 108, 110, 97, 109, 101, 95, 95]⟩, .str ⟨#[95, 95, 113, 117, 97, 108, 110, 97, 109, 101, 95, 95]⟩ 207, .str ⟨#[95, 65, 99, 99, 117, 109, 117, 108, 97, 116, 111, 114]⟩ 206⟩, ⟨PyData.keyHash P ⟨#[95, 95, 102, 105, 114, 115, 116, 108, 105, 110, 101, 110, 111, 95, 95]⟩, .str ⟨#[95, 95, 102, 105, 114, 115, 116, 108, 105, 110, 101, 110, 111, 95, 95]⟩ 209, .int 6 208⟩, ⟨PyData.keyHash P ⟨#[95, 95, 105, 110, 105, 116, 95, 95]⟩, .str ⟨#[95, 95, 105, 110, 105, 116, 95, 95]⟩ 219, .ref 38⟩, ⟨PyData.keyHash P ⟨#[112, 117, 115, 104]⟩, .str ⟨#[112, 117, 115, 104]⟩ 228, .ref 45⟩, ⟨PyData.keyHash P ⟨#[112, 111, 112, 95, 102, 114, 111, 109]⟩, .str ⟨#[112, 111, 112, 95, 102, 114, 111, 109]⟩ 238, .ref 53⟩, ⟨PyData.keyHash P ⟨#[112, 111, 112]⟩, .str ⟨#[112, 111, 112]⟩ 245, .ref 60⟩, ⟨PyData.keyHash P ⟨#[95, 95, 108, 101, 110, 95, 95]⟩, .str ⟨#[95, 95, 108, 101, 110, 95, 95]⟩ 252, .ref 67⟩, ⟨PyData.keyHash P ⟨#[95, 95, 115, 116, 114, 95, 95]⟩, .str ⟨#[95, 95, 115, 116, 114, 95, 95]⟩ 259, .ref 74⟩, ⟨PyData.keyHash P ⟨#[114, 101, 115, 101, 116]⟩, .str ⟨#[114, 101, 115, 101, 116]⟩ 267, .ref 82⟩, ⟨PyData.keyHash P ⟨#[105, 115, 95, 111, 110, 108, 121, 119, 115]⟩, .str ⟨#[105, 115, 95, 111, 110, 108, 121, 119, 115]⟩ 274, .ref 89⟩, ⟨PyData.keyHash P ⟨#[112, 97, 114, 116, 95, 99, 111, 117, 110, 116]⟩, .str ⟨#[112, 97, 114, 116, 95, 99, 111, 117, 110, 116]⟩ 282, .ref 97⟩, ⟨PyData.keyHash P ⟨#[95, 95, 115, 116, 97, 116, 105, 99, 95, 97, 116, 116, 114, 105, 98, 117, 116, 101, 115, 95, 95]⟩, .str ⟨#[95, 95, 115, 116, 97, 116, 105, 99, 95, 97, 116, 116, 114, 105, 98, 117, 116, 101, 115, 95, 95]⟩ 284, .ref 98⟩, ⟨PyData.keyHash P ⟨#[95, 95, 99, 108, 97, 115, 115, 99, 101, 108, 108, 95, 95]⟩, .str ⟨#[95, 95, 99, 108, 97, 115, 115, 99, 101, 108, 108, 95, 95]⟩ 285, .ref 25⟩] 14, #[]⟩
noncomputable def o25 (P : Params) : Obj := ⟨.type "cell", none, .cell (some (.ref 100)), #[]⟩
noncomputable def o26 (P : Params) : Obj := ⟨.type "tuple", none, .seq #[] 0, #[]⟩
noncomputable def o27 (P : Params) : Obj := ⟨.none, none, .fields #[.int 8 0, .int 4 0, .ref 37, .int 12 0, .int 4 0, .ref 44, .int 15 0, .int 4 0, .ref 52, .int 20 0, .int 4 0, .ref 59, .int 23 0, .int 4 0, .ref 66, .int 26 0, .int 4 0, .ref 73, .int 29 0, .int 4 0, .ref 81, .int 35 0, .int 4 0, .ref 88, .int 38 0, .int 4 0, .ref 96], #[]⟩
noncomputable def o28 (P : Params) : Obj := ⟨.type "code", none, .fields #[.str ⟨#[95, 65, 99, 99, 117, 109, 117, 108, 97, 116, 111, 114]⟩ 200, .str ⟨#[95, 65, 99, 99, 117, 109, 117, 108, 97, 116, 111, 114]⟩ 201, .str ⟨#[47, 99, 108, 97, 105, 109, 47, 99, 117, 116, 46, 112, 121]⟩ 202, .int 6 0, .int 0 0, .int 0 0, .int 0 0, .int 0 0, .ref 26, .bool false, .int 181 0, .ref 27, .none, .none, .none, .none, .int 203 0, .int 6 0, .str ⟨#[47, 99, 108, 97, 105, 109, 47, 99, 117, 116, 46, 112, 121]⟩ 204], #[]⟩
noncomputable def o29 (P : Params) : Obj := ⟨.type "frame", none, .plain, #[some (.ref 28), some (.ref 3), some (.ref 24), none, some (.str ⟨#[99, 112, 121, 51, 49, 51, 46, 101, 109, 97, 105, 108, 46, 104, 101, 97, 100, 101, 114]⟩ 194), none, some (.ref 0)]⟩
noncomputable def o30 (P : Params) : Obj := ⟨.type "tuple", none, .seq #[.int 0 210] 0, #[]⟩
noncomputable def o31 (P : Params) : Obj := ⟨.type "tuple", none, .seq #[.ref 25] 0, #[]⟩
noncomputable def o32 (P : Params) : Obj := ⟨.type "tuple", none, .seq #[.str ⟨#[95, 95, 99, 108, 97, 115, 115, 95, 95]⟩ 214] 0, #[]⟩
noncomputable def o33 (P : Params) : Obj := ⟨.none, none, .fields #[], #[]⟩
noncomputable def o34 (P : Params) : Obj := ⟨.type "tuple", none, .seq #[.str ⟨#[115, 101, 108, 102]⟩ 215, .str ⟨#[105, 110, 105, 116, 105, 97, 108, 95, 115, 105, 122, 101]⟩ 216] 0, #[]⟩
noncomputable def o35 (P : Params) : Obj := ⟨.type "tuple", none, .seq #[] 0, #[]⟩
noncomputable def o36 (P : Params) : Obj := ⟨.none, none, .func ⟨⟨#[95, 95, 105, 110, 105, 116, 95, 95]⟩, ⟨#[95, 65, 99, 99, 117, 109, 117, 108, 97, 116, 111, 114, 46, 95, 95, 105, 110, 105, 116, 95, 95]⟩, am0, .stmts bm0, sm0, 0, [], .none, .none, .none, .none, none, .none, .none, 0⟩, #[]⟩
noncomputable def o37 (P : Params) : Obj := ⟨.type "code", none, .fields #[.str ⟨#[95, 95, 105, 110, 105, 116, 95, 95]⟩ 211, .str ⟨#[95, 65, 99, 99, 117, 109, 117, 108, 97, 116, 111, 114, 46, 95, 95, 105, 110, 105, 116, 95, 95]⟩ 212, .str ⟨#[47, 99, 108, 97, 105, 109, 47, 99, 117, 116, 46, 112, 121]⟩ 213, .int 8 0, .int 2 0, .int 0 0, .int 0 0, .int 3 0, .ref 32, .bool true, .int 181 0, .ref 33, .none, .ref 34, .ref 35, .ref 36, .int 217 0, .int 8 0, .str ⟨#[47, 99, 108, 97, 105, 109, 47, 99, 117, 116, 46, 112, 121]⟩ 218], #[]⟩
noncomputable def o38 (P : Params) : Obj := ⟨.type "function", none, .func ⟨⟨#[95, 95, 105, 110, 105, 116, 95, 95]⟩, ⟨#[95, 65, 99, 99, 117, 109, 117, 108, 97, 116, 111, 114, 46, 95, 95, 105, 110, 105, 116, 95, 95]⟩, am0, .stmts bm0, sm0, 3, [(⟨#[95, 95, 99, 108, 97, 115, 115, 95, 95]⟩, 25)], .ref 30, .none, .none, .str ⟨#[99, 112, 121, 51, 49, 51, 46, 101, 109, 97, 105, 108, 46, 104, 101, 97, 100, 101, 114]⟩ 194, none, .ref 37, .ref 31, 0⟩, #[]⟩
noncomputable def o39 (P : Params) : Obj := ⟨.type "tuple", none, .seq #[] 0, #[]⟩
noncomputable def o40 (P : Params) : Obj := ⟨.none, none, .fields #[], #[]⟩
noncomputable def o41 (P : Params) : Obj := ⟨.type "tuple", none, .seq #[.str ⟨#[115, 101, 108, 102]⟩ 223, .str ⟨#[102, 119, 115]⟩ 224, .str ⟨#[115, 116, 114, 105, 110, 103]⟩ 225] 0, #[]⟩
noncomputable def o42 (P : Params) : Obj := ⟨.type "tuple", none, .seq #[] 0, #[]⟩
noncomputable def o43 (P : Params) : Obj := ⟨.none, none, .func ⟨⟨#[112, 117, 115, 104]⟩, ⟨#[95, 65, 99, 99, 117, 109, 117, 108, 97, 116, 111, 114, 46, 112, 117, 115, 104]⟩, am1, .stmts bm1, sm1, 0, [], .none, .none, .none, .none, none, .none, .none, 0⟩, #[]⟩
noncomputable def o44 (P : Params) : Obj := ⟨.type "code", none, .fields #[.str ⟨#[112, 117, 115, 104]⟩ 220, .str ⟨#[95, 65, 99, 99, 117, 109, 117, 108, 97, 116, 111, 114, 46, 112, 117, 115, 104]⟩ 221, .str ⟨#[47, 99, 108, 97, 105, 109, 47, 99, 117, 116, 46, 112, 121]⟩ 222, .int 12 0, .int 3 0, .int 0 0, .int 0 0, .int 3 0, .ref 39, .bool true, .int 181 0, .ref 40, .none, .ref 41, .ref 42, .ref 43, .int 226 0, .int 12 0, .str ⟨#[47, 99, 108, 97, 105, 109, 47, 99, 117, 116, 46, 112, 121]⟩ 227], #[]⟩
noncomputable def o45 (P : Params) : Obj := ⟨.type "function", none, .func ⟨⟨#[112, 117, 115, 104]⟩, ⟨#[95, 65, 99, 99, 117, 109, 117, 108, 97, 116, 111, 114, 46, 112, 117, 115, 104]⟩, am1, .stmts bm1, sm1, 3, [], .none, .none, .none, .str ⟨#[99, 112, 121, 51, 49, 51, 46, 101, 109, 97, 105, 108, 46, 104, 101, 97, 100, 101, 114]⟩ 194, none, .ref 44, .none, 0⟩, #[]⟩
noncomputable def o46 (P : Params) : Obj := ⟨.type "tuple", none, .seq #[.int 0 229] 0, #[]⟩
noncomputable def o47 (P : Params) : Obj := ⟨.type "tuple", none, .seq #[] 0, #[]⟩
noncomputable def o48 (P : Params) : Obj := ⟨.none, none, .fields #[], #[]⟩
noncomputable def o49 (P : Params) : Obj := ⟨.type "tuple", none, .seq #[.str ⟨#[115, 101, 108, 102]⟩ 233, .str ⟨#[105]⟩ 234, .str ⟨#[112, 111, 112, 112, 101, 100]⟩ 235] 0, #[]⟩
noncomputable def o50 (P : Params) : Obj := ⟨.type "tuple", none, .seq #[] 0, #[]⟩
noncomputable def o51 (P : Params) : Obj := ⟨.none, none, .func ⟨⟨#[112, 111, 112, 95, 102, 114, 111, 109]⟩, ⟨#[95, 65, 99, 99, 117, 109, 117, 108, 97, 116, 111, 114, 46, 112, 111, 112, 95, 102, 114, 111, 109]⟩, am2, .stmts bm2, sm2, 0, [], .none, .none, .none, .none, none, .none, .none, 0⟩, #[]⟩
noncomputable def o52 (P : Params) : Obj := ⟨.type "code", none, .fields #[.str ⟨#[112, 111, 112, 95, 102, 114, 111, 109]⟩ 230, .str ⟨#[95, 65, 99, 99, 117, 109, 117, 108, 97, 116, 111, 114, 46, 112, 111, 112, 95, 102, 114, 111, 109]⟩ 231, .str ⟨#[47, 99, 108, 97, 105, 109, 47, 99, 117, 116, 46, 112, 121]⟩ 232, .int 15 0, .int 2 0, .int 0 0, .int 0 0, .int 3 0, .ref 47, .bool true, .int 181 0, .ref 48, .none, .ref 49, .ref 50, .ref 51, .int 236 0, .int 15 0, .str ⟨#[47, 99, 108, 97, 105, 109, 47, 99, 117, 116, 46, 112, 121]⟩ 237], #[]⟩
noncomputable def o53 (P : Params) : Obj := ⟨.type "function", none, .func ⟨⟨#[112, 111, 112, 95, 102, 114, 111, 109]⟩, ⟨#[95, 65, 99, 99, 117, 109, 117, 108, 97, 116, 111, 114, 46, 112, 111, 112, 95, 102, 114, 111, 109]⟩, am2, .stmts bm2, sm2, 3, [], .ref 46, .none, .none, .str ⟨#[99, 112, 121, 51, 49, 51, 46, 101, 109, 97, 105, 108, 46, 104, 101, 97, 100, 101, 114]⟩ 194, none, .ref 52, .none, 0⟩, #[]⟩
noncomputable def o54 (P : Params) : Obj := ⟨.type "tuple", none, .seq #[] 0, #[]⟩
noncomputable def o55 (P : Params) : Obj := ⟨.none, none, .fields #[], #[]⟩
noncomputable def o56 (P : Params) : Obj := ⟨.type "tuple", none, .seq #[.str ⟨#[115, 101, 108, 102]⟩ 242] 0, #[]⟩
noncomputable def o57 (P : Params) : Obj := ⟨.type "tuple", none, .seq #[] 0, #[]⟩
noncomputable def o58 (P : Params) : Obj := ⟨.none, none, .func ⟨⟨#[112, 111, 112]⟩, ⟨#[95, 65, 99, 99, 117, 109, 117, 108, 97, 116, 111, 114, 46, 112, 111, 112]⟩, am3, .stmts bm3, sm3, 0, [], .none, .none, .none, .none, none, .none, .none, 0⟩, #[]⟩
noncomputable def o59 (P : Params) : Obj := ⟨.type "code", none, .fields #[.str ⟨#[112, 111, 112]⟩ 239, .str ⟨#[95, 65, 99, 99, 117, 109, 117, 108, 97, 116, 111, 114, 46, 112, 111, 112]⟩ 240, .str ⟨#[47, 99, 108, 97, 105, 109, 47, 99, 117, 116, 46, 112, 121]⟩ 241, .int 20 0, .int 1 0, .int 0 0, .int 0 0, .int 3 0, .ref 54, .bool true, .int 181 0, .ref 55, .none, .ref 56, .ref 57, .ref 58, .int 243 0, .int 20 0, .str ⟨#[47, 99, 108, 97, 105, 109, 47, 99, 117, 116, 46, 112, 121]⟩ 244], #[]⟩
noncomputable def o60 (P : Params) : Obj := ⟨.type "function", none, .func ⟨⟨#[112, 111, 112]⟩, ⟨#[95, 65, 99, 99, 117, 109, 117, 108, 97, 116, 111, 114, 46, 112, 111, 112]⟩, am3, .stmts bm3, sm3, 3, [], .none, .none, .none, .str ⟨#[99, 112, 121, 51, 49, 51, 46, 101, 109, 97, 105, 108, 46, 104, 101, 97, 100, 101, 114]⟩ 194, none, .ref 59, .none, 0⟩, #[]⟩
noncomputable def o61 (P : Params) : Obj := ⟨.type "tuple", none, .seq #[] 0, #[]⟩
noncomputable def o62 (P : Params) : Obj := ⟨.none, none, .fields #[], #[]⟩
noncomputable def o63 (P : Params) : Obj := ⟨.type "tuple", none, .seq #[.str ⟨#[115, 101, 108, 102]⟩ 249] 0, #[]⟩
noncomputable def o64 (P : Params) : Obj := ⟨.type "tuple", none, .seq #[] 0, #[]⟩
noncomputable def o65 (P : Params) : Obj := ⟨.none, none, .func ⟨⟨#[95, 95, 108, 101, 110, 95, 95]⟩, ⟨#[95, 65, 99, 99, 117, 109, 117, 108, 97, 116, 111, 114, 46, 95, 95, 108, 101, 110, 95, 95]⟩, am4, .stmts bm4, sm4, 0, [], .none, .none, .none, .none, none, .none, .none, 0⟩, #[]⟩
noncomputable def o66 (P : Params) : Obj := ⟨.type "code", none, .fields #[.str ⟨#[95, 95, 108, 101, 110, 95, 95]⟩ 246, .str ⟨#[95, 65, 99, 99, 117, 109, 117, 108, 97, 116, 111, 114, 46, 95, 95, 108, 101, 110, 95, 95]⟩ 247, .str ⟨#[47, 99, 108, 97, 105, 109, 47, 99, 117, 116, 46, 112, 121]⟩ 248, .int 23 0, .int 1 0, .int 0 0, .int 0 0, .int 3 0, .ref 61, .bool true, .int 181 0, .ref 62, .none, .ref 63, .ref 64, .ref 65, .int 250 0, .int 23 0, .str ⟨#[47, 99, 108, 97, 105, 109, 47, 99, 117, 116, 46, 112, 121]⟩ 251], #[]⟩
noncomputable def o67 (P : Params) : Obj := ⟨.type "function", none, .func ⟨⟨#[95, 95, 108, 101, 110, 95, 95]⟩, ⟨#[95, 65, 99, 99, 117, 109, 117, 108, 97, 116, 111, 114, 46, 95, 95, 108, 101, 110, 95, 95]⟩, am4, .stmts bm4, sm4, 3, [], .none, .none, .none, .str ⟨#[99, 112, 121, 51, 49, 51, 46, 101, 109, 97, 105, 108, 46, 104, 101, 97, 100, 101, 114]⟩ 194, none, .ref 66, .none, 0⟩, #[]⟩
noncomputable def o68 (P : Params) : Obj := ⟨.type "tuple", none, .seq #[] 0, #[]⟩
noncomputable def o69 (P : Params) : Obj := ⟨.none, none, .fields #[], #[]⟩
noncomputable def o70 (P : Params) : Obj := ⟨.type "tuple", none, .seq #[.str ⟨#[115, 101, 108, 102]⟩ 256] 0, #[]⟩
noncomputable def o71 (P : Params) : Obj := ⟨.type "tuple", none, .seq #[] 0, #[]⟩
noncomputable def o72 (P : Params) : Obj := ⟨.none, none, .func ⟨⟨#[95, 95, 115, 116, 114, 95, 95]⟩, ⟨#[95, 65, 99, 99, 117, 109, 117, 108, 97, 116, 111, 114, 46, 95, 95, 115, 116, 114, 95, 95]⟩, am5, .stmts bm5, sm5, 0, [], .none, .none, .none, .none, none, .none, .none, 0⟩, #[]⟩
noncomputable def o73 (P : Params) : Obj := ⟨.type "code", none, .fields #[.str ⟨#[95, 95, 115, 116, 114, 95, 95]⟩ 253, .str ⟨#[95, 65, 99, 99, 117, 109, 117, 108, 97, 116, 111, 114, 46, 95, 95, 115, 116, 114, 95, 95]⟩ 254, .str ⟨#[47, 99, 108, 97, 105, 109, 47, 99, 117, 116, 46, 112, 121]⟩ 255, .int 26 0, .int 1 0, .int 0 0, .int 0 0, .int 3 0, .ref 68, .bool true, .int 181 0, .ref 69, .none, .ref 70, .ref 71, .ref 72, .int 257 0, .int 26 0, .str ⟨#[47, 99, 108, 97, 105, 109, 47, 99, 117, 116, 46, 112, 121]⟩ 258], #[]⟩
noncomputable def o74 (P : Params) : Obj := ⟨.type "function", none, .func ⟨⟨#[95, 95, 115, 116, 114, 95, 95]⟩, ⟨#[95, 65, 99, 99, 117, 109, 117, 108, 97, 116, 111, 114, 46, 95, 95, 115, 116, 114, 95, 95]⟩, am5, .stmts bm5, sm5, 3, [], .none, .none, .none, .str ⟨#[99, 112, 121, 51, 49, 51, 46, 101, 109, 97, 105, 108, 46, 104, 101, 97, 100, 101, 114]⟩ 194, none, .ref 73, .none, 0⟩, #[]⟩
noncomputable def o75 (P : Params) : Obj := ⟨.type "tuple", none, .seq #[.none] 0, #[]⟩
noncomputable def o76 (P : Params) : Obj := ⟨.type "tuple", none, .seq #[] 0, #[]⟩
noncomputable def o77 (P : Params) : Obj := ⟨.none, none, .fields #[], #[]⟩
noncomputable def o78 (P : Params) : Obj := ⟨.type "tuple", none, .seq #[.str ⟨#[115, 101, 108, 102]⟩ 263, .str ⟨#[115, 116, 97, 114, 116, 118, 97, 108]⟩ 264] 0, #[]⟩
noncomputable def o79 (P : Params) : Obj := ⟨.type "tuple", none, .seq #[] 0, #[]⟩
noncomputable def o80 (P : Params) : Obj := ⟨.none, none, .func ⟨⟨#[114, 101, 115, 101, 116]⟩, ⟨#[95, 65, 99, 99, 117, 109, 117, 108, 97, 116, 111, 114, 46, 114, 101, 115, 101, 116]⟩, am6, .stmts bm6, sm6, 0, [], .none, .none, .none, .none, none, .none, .none, 0⟩, #[]⟩
noncomputable def o81 (P : Params) : Obj := ⟨.type "code", none, .fields #[.str ⟨#[114, 101, 115, 101, 116]⟩ 260, .str ⟨#[95, 65, 99, 99, 117, 109, 117, 108, 97, 116, 111, 114, 46, 114, 101, 115, 101, 116]⟩ 261, .str ⟨#[47, 99, 108, 97, 105, 109, 47, 99, 117, 116, 46, 112, 121]⟩ 262, .int 29 0, .int 2 0, .int 0 0, .int 0 0, .int 3 0, .ref 76, .bool true, .int 181 0, .ref 77, .none, .ref 78, .ref 79, .ref 80, .int 265 0, .int 29 0, .str ⟨#[47, 99, 108, 97, 105, 109, 47, 99, 117, 116, 46, 112, 121]⟩ 266], #[]⟩
noncomputable def o82 (P : Params) : Obj := ⟨.type "function", none, .func ⟨⟨#[114, 101, 115, 101, 116]⟩, ⟨#[95, 65, 99, 99, 117, 109, 117, 108, 97, 116, 111, 114, 46, 114, 101, 115, 101, 116]⟩, am6, .stmts bm6, sm6, 3, [], .ref 75, .none, .none, .str ⟨#[99, 112, 121, 51, 49, 51, 46, 101, 109, 97, 105, 108, 46, 104, 101, 97, 100, 101, 114]⟩ 194, none, .ref 81, .none, 0⟩, #[]⟩
noncomputable def o83 (P : Params) : Obj := ⟨.type "tuple", none, .seq #[] 0, #[]⟩
noncomputable def o84 (P : Params) : Obj := ⟨.none, none, .fields #[], #[]⟩
noncomputable def o85 (P : Params) : Obj := ⟨.type "tuple", none, .seq #[.str ⟨#[115, 101, 108, 102]⟩ 271] 0, #[]⟩
noncomputable def o86 (P : Params) : Obj := ⟨.type "tuple", none, .seq #[] 0, #[]⟩
noncomputable def o87 (P : Params) : Obj := ⟨.none, none, .func ⟨⟨#[105, 115, 95, 111, 110, 108, 121, 119, 115]⟩, ⟨#[95, 65, 99, 99, 117, 109, 117, 108, 97, 116, 111, 114, 46, 105, 115, 95, 111, 110, 108, 121, 119, 115]⟩, am7, .stmts bm7, sm7, 0, [], .none, .none, .none, .none, none, .none, .none, 0⟩, #[]⟩
noncomputable def o88 (P : Params) : Obj := ⟨.type "code", none, .fields #[.str ⟨#[105, 115, 95, 111, 110, 108, 121, 119, 115]⟩ 268, .str ⟨#[95, 65, 99, 99, 117, 109, 117, 108, 97, 116, 111, 114, 46, 105, 115, 95, 111, 110, 108, 121, 119, 115]⟩ 269, .str ⟨#[47, 99, 108, 97, 105, 109, 47, 99, 117, 116, 46, 112, 121]⟩ 270, .int 35 0, .int 1 0, .int 0 0, .int 0 0, .int 3 0, .ref 83, .bool true, .int 181 0, .ref 84, .none, .ref 85, .ref 86, .ref 87, .int 272 0, .int 35 0, .str ⟨#[47, 99, 108, 97, 105, 109, 47, 99, 117, 116, 46, 112, 121]⟩ 273], #[]⟩
noncomputable def o89 (P : Params) : Obj := ⟨.type "function", none, .func ⟨⟨#[105, 115, 95, 111, 110, 108, 121, 119, 115]⟩, ⟨#[95, 65, 99, 99, 117, 109, 117, 108, 97, 116, 111, 114, 46, 105, 115, 95, 111, 110, 108, 121, 119, 115]⟩, am7, .stmts bm7, sm7, 3, [], .none, .none, .none, .str ⟨#[99, 112, 121, 51, 49, 51, 46, 101, 109, 97, 105, 108, 46, 104, 101, 97, 100, 101, 114]⟩ 194, none, .ref 88, .none, 0⟩, #[]⟩
noncomputable def o90 (P : Params) : Obj := ⟨.type "tuple", none, .seq #[.ref 25] 0, #[]⟩
noncomputable def o91 (P : Params) : Obj := ⟨.type "tuple", none, .seq #[.str ⟨#[95, 95, 99, 108, 97, 115, 115, 95, 95]⟩ 278] 0, #[]⟩
noncomputable def o92 (P : Params) : Obj := ⟨.none, none, .fields #[], #[]⟩
noncomputable def o93 (P : Params) : Obj := ⟨.type "tuple", none, .seq #[.str ⟨#[115, 101, 108, 102]⟩ 279] 0, #[]⟩
noncomputable def o94 (P : Params) : Obj := ⟨.type "tuple", none, .seq #[] 0, #[]⟩
noncomputable def o95 (P : Params) : Obj := ⟨.none, none, .func ⟨⟨#[112, 97, 114, 116, 95, 99, 111, 117, 110, 116]⟩, ⟨#[95, 65, 99, 99, 117, 109, 117, 108, 97, 116, 111, 114, 46, 112, 97, 114, 116, 95, 99, 111, 117, 110, 116]⟩, am8, .stmts bm8, sm8, 0, [], .none, .none, .none, .none, none, .none, .none, 0⟩, #[]⟩
noncomputable def o96 (P : Params) : Obj := ⟨.type "code", none, .fields #[.str ⟨#[112, 97, 114, 116, 95, 99, 111, 117, 110, 116]⟩ 275, .str ⟨#[95, 65, 99, 99, 117, 109, 117, 108, 97, 116, 111, 114, 46, 112, 97, 114, 116, 95, 99, 111, 117, 110, 116]⟩ 276, .str ⟨#[47, 99, 108, 97, 105, 109, 47, 99, 117, 116, 46, 112, 121]⟩ 277, .int 38 0, .int 1 0, .int 0 0, .int 0 0, .int 3 0, .ref 91, .bool true, .int 181 0, .ref 92, .none, .ref 93, .ref 94, .ref 95, .int 280 0, .int 38 0, .str ⟨#[47, 99, 108, 97, 105, 109, 47, 99, 117, 116, 46, 112, 121]⟩ 281], #[]⟩
noncomputable def o97 (P : Params) : Obj := ⟨.type "function", none, .func ⟨⟨#[112, 97, 114, 116, 95, 99, 111, 117, 110, 116]⟩, ⟨#[95, 65, 99, 99, 117, 109, 117, 108, 97, 116, 111, 114, 46, 112, 97, 114, 116, 95, 99, 111, 117, 110, 116]⟩, am8, .stmts bm8, sm8, 3, [(⟨#[95, 95, 99, 108, 97, 115, 115, 95, 95]⟩, 25)], .none, .none, .none, .str ⟨#[99, 112, 121, 51, 49, 51, 46, 101, 109, 97, 105, 108, 46, 104, 101, 97, 100, 101, 114]⟩ 194, none, .ref 96, .ref 90, 0⟩, #[]⟩
noncomputable def o98 (P : Params) : Obj := ⟨.type "tuple", none, .seq #[.str ⟨#[95, 105, 110, 105, 116, 105, 97, 108, 95, 115, 105, 122, 101]⟩ 283] 0, #[]⟩
noncomputable def o99 (P : Params) : Obj := ⟨.type "dict", none, .dict #[⟨PyData.keyHash P ⟨#[95, 95, 109, 111, 100, 117, 108, 101, 95, 95]⟩, .str ⟨#[95, 95, 109, 111, 100, 117, 108, 101, 95, 95]⟩ 205, .str ⟨#[99, 112, 121, 51, 49, 51, 46, 101, 109, 97, 105, 108, 46, 104, 101, 97, 100, 101, 114]⟩ 194⟩, ⟨PyData.keyHash P ⟨#[95, 95, 102, 105, 114, 115, 116, 108, 105, 110, 101, 110, 111, 95, 95]⟩, .str ⟨#[95, 95, 102, 105, 114, 115, 116, 108, 105, 110, 101, 110, 111, 95, 95]⟩ 209, .int 6 208⟩, ⟨PyData.keyHash P ⟨#[95, 95, 105, 110, 105, 116, 95, 95]⟩, .str ⟨#[95, 95, 105, 110, 105, 116, 95, 95]⟩ 219, .ref 38⟩, ⟨PyData.keyHash P ⟨#[112, 117, 115, 104]⟩, .str ⟨#[112, 117, 115, 104]⟩ 228, .ref 45⟩, ⟨PyData.keyHash P ⟨#[112, 111, 112, 95, 102, 114, 111, 109]⟩, .str ⟨#[112, 111, 112, 95, 102, 114, 111, 109]⟩ 238, .ref 53⟩, ⟨PyData.keyHash P ⟨#[112, 111, 112]⟩, .str ⟨#[112, 111, 112]⟩ 245, .ref 60⟩, ⟨PyData.keyHash P ⟨#[95, 95, 108, 101, 110, 95, 95]⟩, .str ⟨#[95, 95, 108, 101, 110, 95, 95]⟩ 252, .ref 67⟩, ⟨PyData.keyHash P ⟨#[95, 95, 115, 116, 114, 95, 95]⟩, .str ⟨#[95, 95, 115, 116, 114, 95, 95]⟩ 259, .ref 74⟩, ⟨PyData.keyHash P ⟨#[114, 101, 115, 101, 116]⟩, .str ⟨#[114, 101, 115, 101, 116]⟩ 267, .ref 82⟩, ⟨PyData.keyHash P ⟨#[105, 115, 95, 111, 110, 108, 121, 119, 115]⟩, .str ⟨#[105, 115, 95, 111, 110, 108, 121, 119, 115]⟩ 274, .ref 89⟩, ⟨PyData.keyHash P ⟨#[112, 97, 114, 116, 95, 99, 111, 117, 110, 116]⟩, .str ⟨#[112, 97, 114, 116, 95, 99, 111, 117, 110, 116]⟩ 282, .ref 97⟩, ⟨PyData.keyHash P ⟨#[95, 95, 115, 116, 97, 116, 105, 99, 95, 97, 116, 116, 114, 105, 98, 117, 116, 101, 115, 95, 95]⟩, .str ⟨#[95, 95, 115, 116, 97, 116, 105, 99, 95, 97, 116, 116, 114, 105, 98, 117, 116, 101, 115, 95, 95]⟩ 284, .ref 98⟩, ⟨PyData.keyHash P ⟨#[95, 95, 100, 105, 99, 116, 95, 95]⟩, .str ⟨#[95, 95, 100, 105, 99, 116, 95, 95]⟩ 287, .ref 101⟩, ⟨PyData.keyHash P ⟨#[95, 95, 119, 101, 97, 107, 114, 101, 102, 95, 95]⟩, .str ⟨#[95, 95, 119, 101, 97, 107, 114, 101, 102, 95, 95]⟩ 289, .ref 102⟩, ⟨PyData.keyHash P ⟨#[95, 95, 100, 111, 99, 95, 95]⟩, .str ⟨#[95, 95, 100, 111, 99, 95, 95]⟩ 290, .none⟩] 5, #[]⟩
noncomputable def o100 (P : Params) : Obj := ⟨.type "type", none, .cls ⟨⟨#[95, 65, 99, 99, 117, 109, 117, 108, 97, 116, 111, 114]⟩, [.type "list"], [.ref 100, .type "list", .type "object"], 99, ⟨#[95, 65, 99, 99, 117, 109, 117, 108, 97, 116, 111, 114]⟩, true, [], [], false, none, false⟩, #[some (.ref 22), none, some (.str ⟨#[95, 65, 99, 99, 117, 109, 117, 108, 97, 116, 111, 114]⟩ 198), some (.str ⟨#[95, 65, 99, 99, 117, 109, 117, 108, 97, 116, 111, 114]⟩ 206), some (.builtin "list.__new__"), some (.bool true)]⟩
noncomputable def o101 (P : Params) : Obj := ⟨.type "getset_descriptor", none, .fields #[.str ⟨#[95, 95, 100, 105, 99, 116, 95, 95]⟩ 286, .ref 100, .builtin "function.__dict__", .builtin "function.__dict__#set"], #[]⟩
noncomputable def o102 (P : Params) : Obj := ⟨.type "getset_descriptor", none, .fields #[.str ⟨#[95, 95, 119, 101, 97, 107, 114, 101, 102, 95, 95]⟩ 288, .ref 100, .builtin "ExceptionGroup.__weakref__", .none], #[]⟩
noncomputable def o103 (P : Params) : Obj := ⟨.type "super", none, .fields #[.ref 100, .ref 100, .ref 100], #[]⟩
noncomputable def o104 (P : Params) : Obj := ⟨.type "builtin_function_or_method", none, .fields #[.builtin "object.__init_subclass__", .ref 100], #[]⟩
noncomputable def o3_4 (P : Params) : Obj := ⟨.type "dict", none, .dict #[⟨PyData.keyHash P ⟨#[95, 95, 110, 97, 109, 101, 95, 95]⟩, .str ⟨#[95, 95, 110, 97, 109, 101, 95, 95]⟩ 165, .str ⟨#[99, 112, 121, 51, 49, 51, 46, 115, 116, 114, 105, 110, 103, 112, 114, 101, 112]⟩ 293⟩, ⟨PyData.keyHash P ⟨#[95, 95, 100, 111, 99, 95, 95]⟩, .str ⟨#[95, 95, 100, 111, 99, 95, 95]⟩ 166, .none⟩, ⟨PyData.keyHash P ⟨#[95, 95, 112, 97, 99, 107, 97, 103, 101, 95, 95]⟩, .str ⟨#[95, 95, 112, 97, 99, 107, 97, 103, 101, 95, 95]⟩ 167, .none⟩, ⟨PyData.keyHash P ⟨#[95, 95, 108, 111, 97, 100, 101, 114, 95, 95]⟩, .str ⟨#[95, 95, 108, 111, 97, 100, 101, 114, 95, 95]⟩ 168, .builtin "__main__.__loader__#opaque"⟩, ⟨PyData.keyHash P ⟨#[95, 95, 115, 112, 101, 99, 95, 95]⟩, .str ⟨#[95, 95, 115, 112, 101, 99, 95, 95]⟩ 169, .none⟩, ⟨PyData.keyHash P ⟨#[95, 95, 97, 110, 110, 111, 116, 97, 116, 105, 111, 110, 115, 95, 95]⟩, .str ⟨#[95, 95, 97, 110, 110, 111, 116, 97, 116, 105, 111, 110, 115, 95, 95]⟩ 170, .ref 6⟩, ⟨PyData.keyHash P ⟨#[95, 95, 98, 117, 105, 108, 116, 105, 110, 115, 95, 95]⟩, .str ⟨#[95, 95, 98, 117, 105, 108, 116, 105, 110, 115, 95, 95]⟩ 171, .ref 4⟩, ⟨PyData.keyHash P ⟨#[95, 95, 102, 105, 108, 101, 95, 95]⟩, .str ⟨#[95, 95, 102, 105, 108, 101, 95, 95]⟩ 173, .str ⟨#[47, 99, 108, 97, 105, 109, 47, 99, 117, 116, 46, 112, 121]⟩ 172⟩, ⟨PyData.keyHash P ⟨#[95, 95, 99, 97, 99, 104, 101, 100, 95, 95]⟩, .str ⟨#[95, 95, 99, 97, 99, 104, 101, 100, 95, 95]⟩ 174, .none⟩, ⟨PyData.keyHash P ⟨#[95, 119, 97, 108, 108]⟩, .str ⟨#[95, 119, 97, 108, 108]⟩ 193, .ref 21⟩, ⟨PyData.keyHash P ⟨#[69, 77, 80, 84, 89, 83, 84, 82, 73, 78, 71]⟩, .str ⟨#[69, 77, 80, 84, 89, 83, 84, 82, 73, 78, 71]⟩ 197, .str ⟨#[]⟩ 196⟩, ⟨PyData.keyHash P ⟨#[95, 65, 99, 99, 117, 109, 117, 108, 97, 116, 111, 114]⟩, .str ⟨#[95, 65, 99, 99, 117, 109, 117, 108, 97, 116, 111, 114]⟩ 292, .ref 100⟩] 12, #[]⟩
noncomputable def o3_5 (P : Params) : Obj := ⟨.type "dict", none, .dict #[⟨PyData.keyHash P ⟨#[95, 95, 110, 97, 109, 101, 95, 95]⟩, .str ⟨#[95, 95, 110, 97, 109, 101, 95, 95]⟩ 165, .str ⟨#[99, 112, 121, 51, 49, 51, 46, 115, 116, 114, 105, 110, 103, 112, 114, 101, 112]⟩ 293⟩, ⟨PyData.keyHash P ⟨#[95, 95, 100, 111, 99, 95, 95]⟩, .str ⟨#[95, 95, 100, 111, 99, 95, 95]⟩ 166, .none⟩, ⟨PyData.keyHash P ⟨#[95, 95, 112, 97, 99, 107, 97, 103, 101, 95, 95]⟩, .str ⟨#[95, 95, 112, 97, 99, 107, 97, 103, 101, 95, 95]⟩ 167, .none⟩, ⟨PyData.keyHash P ⟨#[95, 95, 108, 111, 97, 100, 101, 114, 95, 95]⟩, .str ⟨#[95, 95, 108, 111, 97, 100, 101, 114, 95, 95]⟩ 168, .builtin "__main__.__loader__#opaque"⟩, ⟨PyData.keyHash P ⟨#[95, 95, 115, 112, 101, 99, 95, 95]⟩, .str ⟨#[95, 95, 115, 112, 101, 99, 95, 95]⟩ 169, .none⟩, ⟨PyData.keyHash P ⟨#[95, 95, 97, 110, 110, 111, 116, 97, 116, 105, 111, 110, 115, 95, 95]⟩, .str ⟨#[95, 95, 97, 110, 110, 111, 116, 97, 116, 105, 111, 110, 115, 95, 95]⟩ 170, .ref 6⟩, ⟨PyData.keyHash P ⟨#[95, 95, 98, 117, 105, 108, 116, 105, 110, 115, 95, 95]⟩, .str ⟨#[95, 95, 98, 117, 105, 108, 116, 105, 110, 115, 95, 95]⟩ 171, .ref 4⟩, ⟨PyData.keyHash P ⟨#[95, 95, 102, 105, 108, 101, 95, 95]⟩, .str ⟨#[95, 95, 102, 105, 108, 101, 95, 95]⟩ 173, .str ⟨#[47, 99, 108, 97, 105, 109, 47, 99, 117, 116, 46, 112, 121]⟩ 172⟩, ⟨PyData.keyHash P ⟨#[95, 95, 99, 97, 99, 104, 101, 100, 95, 95]⟩, .str ⟨#[95, 95, 99, 97, 99, 104, 101, 100, 95, 95]⟩ 174, .none⟩, ⟨PyData.keyHash P ⟨#[95, 119, 97, 108, 108]⟩, .str ⟨#[95, 119, 97, 108, 108]⟩ 193, .ref 21⟩, ⟨PyData.keyHash P ⟨#[69, 77, 80, 84, 89, 83, 84, 82, 73, 78, 71]⟩, .str ⟨#[69, 77, 80, 84, 89, 83, 84, 82, 73, 78, 71]⟩ 197, .str ⟨#[]⟩ 196⟩, ⟨PyData.keyHash P ⟨#[95, 65, 99, 99, 117, 109, 117, 108, 97, 116, 111, 114]⟩, .str ⟨#[95, 65, 99, 99, 117, 109, 117, 108, 97, 116, 111, 114]⟩ 292, .ref 100⟩, ⟨PyData.keyHash P ⟨#[98, 49, 95, 115, 101, 116]⟩, .str ⟨#[98, 49, 95, 115, 101, 116]⟩ 354, .ref 112⟩] 13, #[]⟩
noncomputable def o105 (P : Params) : Obj := ⟨.type "list", none, .seq #[.int 173 295, .int 847 296, .int 6150 297, .int 6155 298, .int 6156 299, .int 6157 300, .int 8203 301, .int 8204 302, .int 8205 303, .int 8288 304, .int 65279 305] 0, #[]⟩
noncomputable def o106 (P : Params) : Obj := ⟨.type "range", none, .fields #[.int 65024 306, .int 65040 307, .int 1 308], #[]⟩
noncomputable def o107 (P : Params) : Obj := ⟨.type "list", none, .seq #[.int 65024 311, .int 65025 312, .int 65026 313, .int 65027 314, .int 65028 315, .int 65029 316, .int 65030 317, .int 65031 318, .int 65032 319, .int 65033 320, .int 65034 321, .int 65035 322, .int 65036 323, .int 65037 324, .int 65038 325, .int 65039 326] 18, #[]⟩
noncomputable def o108 (P : Params) : Obj := ⟨.type "range_iterator", none, .fields #[.int 65040 0, .int 0 0, .int 1 0], #[]⟩
noncomputable def o109 (P : Params) : Obj := ⟨.type "tuple", none, .seq #[] 0, #[]⟩
noncomputable def o110 (P : Params) : Obj := ⟨.type "StopIteration", none, .fields #[.ref 109, .none, .none, .none, .bool false, .none], #[]⟩
noncomputable def o111 (P : Params) : Obj := ⟨.type "list", none, .seq #[.int 173 295, .int 847 296, .int 6150 297, .int 6155 298, .int 6156 299, .int 6157 300, .int 8203 301, .int 8204 302, .int 8205 303, .int 8288 304, .int 65279 305, .int 65024 311, .int 65025 312, .int 65026 313, .int 65027 314, .int 65028 315, .int 65029 316, .int 65030 317, .int 65031 318, .int 65032 319, .int 65033 320, .int 65034 321, .int 65035 322, .int 65036 323, .int 65037 324, .int 65038 325, .int 65039 326] 0, #[]⟩
noncomputable def o112 (P : Params) : Obj := ⟨.type "set", none, .set #[(65024, .int 65024 311), (65025, .int 65025 312), (65026, .int 65026 313), (65027, .int 65027 314), (65028, .int 65028 315), (65029, .int 65029 316), (6150, .int 6150 297), (65030, .int 65030 317), (65031, .int 65031 318), (65032, .int 65032 319), (65033, .int 65033 320), (6155, .int 6155 298), (6156, .int 6156 299), (6157, .int 6157 300), (8203, .int 8203 301), (8204, .int 8204 302), (8205, .int 8205 303), (65034, .int 65034 321), (65035, .int 65035 322), (65036, .int 65036 323), (65037, .int 65037 324), (65038, .int 65038 325), (65039, .int 65039 326), (173, .int 173 295), (847, .int 847 296), (8288, .int 8288 304), (65279, .int 65279 305)] 29 ⟨127, #[0, 1, 2, 3, 4, 5, 6, 7, 8, 9, 10, 11, 12, 13, 14, 15, 16, 17, 18, 19, 20, 21, 22, 45, 79, 96, 127], #[], 0, !P.followText "set-order", 2, true⟩, #[]⟩
noncomputable def o113 (P : Params) : Obj := ⟨.type "list_iterator", none, .fields #[.none, .int 27 0], #[]⟩
noncomputable def o114 (P : Params) : Obj := ⟨.type "tuple", none, .seq #[] 0, #[]⟩
noncomputable def o115 (P : Params) : Obj := ⟨.type "StopIteration", none, .fields #[.ref 114, .none, .none, .none, .bool false, .none], #[]⟩
noncomputable def o3_6 (P : Params) : Obj := ⟨.type "dict", none, .dict #[⟨PyData.keyHash P ⟨#[95, 95, 110, 97, 109, 101, 95, 95]⟩, .str ⟨#[95, 95, 110, 97, 109, 101, 95, 95]⟩ 165, .str ⟨#[99, 112, 121, 51, 49, 51, 46, 115, 116, 114, 105, 110, 103, 112, 114, 101, 112]⟩ 293⟩, ⟨PyData.keyHash P ⟨#[95, 95, 100, 111, 99, 95, 95]⟩, .str ⟨#[95, 95, 100, 111, 99, 95, 95]⟩ 166, .none⟩, ⟨PyData.keyHash P ⟨#[95, 95, 112, 97, 99, 107, 97, 103, 101, 95, 95]⟩, .str ⟨#[95, 95, 112, 97, 99, 107, 97, 103, 101, 95, 95]⟩ 167, .none⟩, ⟨PyData.keyHash P ⟨#[95, 95, 108, 111, 97, 100, 101, 114, 95, 95]⟩, .str ⟨#[95, 95, 108, 111, 97, 100, 101, 114, 95, 95]⟩ 168, .builtin "__main__.__loader__#opaque"⟩, ⟨PyData.keyHash P ⟨#[95, 95, 115, 112, 101, 99, 95, 95]⟩, .str ⟨#[95, 95, 115, 112, 101, 99, 95, 95]⟩ 169, .none⟩, ⟨PyData.keyHash P ⟨#[95, 95, 97, 110, 110, 111, 116, 97, 116, 105, 111, 110, 115, 95, 95]⟩, .str ⟨#[95, 95, 97, 110, 110, 111, 116, 97, 116, 105, 111, 110, 115, 95, 95]⟩ 170, .ref 6⟩, ⟨PyData.keyHash P ⟨#[95, 95, 98, 117, 105, 108, 116, 105, 110, 115, 95, 95]⟩, .str ⟨#[95, 95, 98, 117, 105, 108, 116, 105, 110, 115, 95, 95]⟩ 171, .ref 4⟩, ⟨PyData.keyHash P ⟨#[95, 95, 102, 105, 108, 101, 95, 95]⟩, .str ⟨#[95, 95, 102, 105, 108, 101, 95, 95]⟩ 173, .str ⟨#[47, 99, 108, 97, 105, 109, 47, 99, 117, 116, 46, 112, 121]⟩ 172⟩, ⟨PyData.keyHash P ⟨#[95, 95, 99, 97, 99, 104, 101, 100, 95, 95]⟩, .str ⟨#[95, 95, 99, 97, 99, 104, 101, 100, 95, 95]⟩ 174, .none⟩, ⟨PyData.keyHash P ⟨#[95, 119, 97, 108, 108]⟩, .str ⟨#[95, 119, 97, 108, 108]⟩ 193, .ref 21⟩, ⟨PyData.keyHash P ⟨#[69, 77, 80, 84, 89, 83, 84, 82, 73, 78, 71]⟩, .str ⟨#[69, 77, 80, 84, 89, 83, 84, 82, 73, 78, 71]⟩ 197, .str ⟨#[]⟩ 196⟩, ⟨PyData.keyHash P ⟨#[95, 65, 99, 99, 117, 109, 117, 108, 97, 116, 111, 114]⟩, .str ⟨#[95, 65, 99, 99, 117, 109, 117, 108, 97, 116, 111, 114]⟩ 292, .ref 100⟩, ⟨PyData.keyHash P ⟨#[98, 49, 95, 115, 101, 116]⟩, .str ⟨#[98, 49, 95, 115, 101, 116]⟩ 354, .ref 112⟩, ⟨PyData.keyHash P ⟨#[105, 110, 95, 116, 97, 98, 108, 101, 95, 98, 49]⟩, .str ⟨#[105, 110, 95, 116, 97, 98, 108, 101, 95, 98, 49]⟩ 361, .ref 122⟩] 14, #[]⟩
noncomputable def o12_6 (P : Params) : Obj := ⟨.none, none, .fields #[.int 1 0, .int 0 0, .ref 20, .int 6 0, .int 0 0, .ref 28, .int 42 0, .int 0 0, .ref 121], #[]⟩
noncomputable def o116 (P : Params) : Obj := ⟨.type "tuple", none, .seq #[] 0, #[]⟩
noncomputable def o117 (P : Params) : Obj := ⟨.none, none, .fields #[], #[]⟩
noncomputable def o118 (P : Params) : Obj := ⟨.type "tuple", none, .seq #[.str ⟨#[99, 111, 100, 101]⟩ 358] 0, #[]⟩
noncomputable def o119 (P : Params) : Obj := ⟨.type "tuple", none, .seq #[] 0, #[]⟩
noncomputable def o120 (P : Params) : Obj := ⟨.none, none, .func ⟨⟨#[105, 110, 95, 116, 97, 98, 108, 101, 95, 98, 49]⟩, ⟨#[105, 110, 95, 116, 97, 98, 108, 101, 95, 98, 49]⟩, a6, .stmts b6, s6, 0, [], .none, .none, .none, .none, none, .none, .none, 0⟩, #[]⟩
noncomputable def o121 (P : Params) : Obj := ⟨.type "code", none, .fields #[.str ⟨#[105, 110, 95, 116, 97, 98, 108, 101, 95, 98, 49]⟩ 355, .str ⟨#[105, 110, 95, 116, 97, 98, 108, 101, 95, 98, 49]⟩ 356, .str ⟨#[47, 99, 108, 97, 105, 109, 47, 99, 117, 116, 46, 112, 121]⟩ 357, .int 42 0, .int 1 0, .int 0 0, .int 0 0, .int 3 0, .ref 116, .bool true, .int 181 0, .ref 117, .none, .ref 118, .ref 119, .ref 120, .int 359 0, .int 42 0, .str ⟨#[47, 99, 108, 97, 105, 109, 47, 99, 117, 116, 46, 112, 121]⟩ 360], #[]⟩
noncomputable def o122 (P : Params) : Obj := ⟨.type "function", none, .func ⟨⟨#[105, 110, 95, 116, 97, 98, 108, 101, 95, 98, 49]⟩, ⟨#[105, 110, 95, 116, 97, 98, 108, 101, 95, 98, 49]⟩, a6, .stmts b6, s6, 3, [], .none, .none, .none, .str ⟨#[99, 112, 121, 51, 49, 51, 46, 115, 116, 114, 105, 110, 103, 112, 114, 101, 112]⟩ 293, none, .ref 121, .none, 0⟩, #[]⟩
noncomputable def o3_7 (P : Params) : Obj := ⟨.type "dict", none, .dict #[⟨PyData.keyHash P ⟨#[95, 95, 110, 97, 109, 101, 95, 95]⟩, .str ⟨#[95, 95, 110, 97, 109, 101, 95, 95]⟩ 165, .str ⟨#[99, 112, 121, 51, 49, 51, 46, 115, 116, 114, 105, 110, 103, 112, 114, 101, 112]⟩ 293⟩, ⟨PyData.keyHash P ⟨#[95, 95, 100, 111, 99, 95, 95]⟩, .str ⟨#[95, 95, 100, 111, 99, 95, 95]⟩ 166, .none⟩, ⟨PyData.keyHash P ⟨#[95, 95, 112, 97, 99, 107, 97, 103, 101, 95, 95]⟩, .str ⟨#[95, 95, 112, 97, 99, 107, 97, 103, 101, 95, 95]⟩ 167, .none⟩, ⟨PyData.keyHash P ⟨#[95, 95, 108, 111, 97, 100, 101, 114, 95, 95]⟩, .str ⟨#[95, 95, 108, 111, 97, 100, 101, 114, 95, 95]⟩ 168, .builtin "__main__.__loader__#opaque"⟩, ⟨PyData.keyHash P ⟨#[95, 95, 115, 112, 101, 99, 95, 95]⟩, .str ⟨#[95, 95, 115, 112, 101, 99, 95, 95]⟩ 169, .none⟩, ⟨PyData.keyHash P ⟨#[95, 95, 97, 110, 110, 111, 116, 97, 116, 105, 111, 110, 115, 95, 95]⟩, .str ⟨#[95, 95, 97, 110, 110, 111, 116, 97, 116, 105, 111, 110, 115, 95, 95]⟩ 170, .ref 6⟩, ⟨PyData.keyHash P ⟨#[95, 95, 98, 117, 105, 108, 116, 105, 110, 115, 95, 95]⟩, .str ⟨#[95, 95, 98, 117, 105, 108, 116, 105, 110, 115, 95, 95]⟩ 171, .ref 4⟩, ⟨PyData.keyHash P ⟨#[95, 95, 102, 105, 108, 101, 95, 95]⟩, .str ⟨#[95, 95, 102, 105, 108, 101, 95, 95]⟩ 173, .str ⟨#[47, 99, 108, 97, 105, 109, 47, 99, 117, 116, 46, 112, 121]⟩ 172⟩, ⟨PyData.keyHash P ⟨#[95, 95, 99, 97, 99, 104, 101, 100, 95, 95]⟩, .str ⟨#[95, 95, 99, 97, 99, 104, 101, 100, 95, 95]⟩ 174, .none⟩, ⟨PyData.keyHash P ⟨#[95, 119, 97, 108, 108]⟩, .str ⟨#[95, 119, 97, 108, 108]⟩ 193, .ref 21⟩, ⟨PyData.keyHash P ⟨#[69, 77, 80, 84, 89, 83, 84, 82, 73, 78, 71]⟩, .str ⟨#[69, 77, 80, 84, 89, 83, 84, 82, 73, 78, 71]⟩ 197, .str ⟨#[]⟩ 196⟩, ⟨PyData.keyHash P ⟨#[95, 65, 99, 99, 117, 109, 117, 108, 97, 116, 111, 114]⟩, .str ⟨#[95, 65, 99, 99, 117, 109, 117, 108, 97, 116, 111, 114]⟩ 292, .ref 100⟩, ⟨PyData.keyHash P ⟨#[98, 49, 95, 115, 101, 116]⟩, .str ⟨#[98, 49, 95, 115, 101, 116]⟩ 354, .ref 112⟩, ⟨PyData.keyHash P ⟨#[105, 110, 95, 116, 97, 98, 108, 101, 95, 98, 49]⟩, .str ⟨#[105, 110, 95, 116, 97, 98, 108, 101, 95, 98, 49]⟩ 361, .ref 122⟩, ⟨PyData.keyHash P ⟨#[98, 51, 95, 101, 120, 99, 101, 112, 116, 105, 111, 110, 115]⟩, .str ⟨#[98, 51, 95, 101, 120, 99, 101, 112, 116, 105, 111, 110, 115]⟩ 2312, .ref 123⟩] 15, #[]⟩
noncomputable def o3_15 (P : Params) : Obj := ⟨.type "dict", none, .dict #[⟨PyData.keyHash P ⟨#[95, 95, 110, 97, 109, 101, 95, 95]⟩, .str ⟨#[95, 95, 110, 97, 109, 101, 95, 95]⟩ 165, .str ⟨#[99, 112, 121, 51, 49, 51, 46, 120, 109, 108, 46, 101, 116, 114, 101, 101, 46, 69, 108, 101, 109, 101, 110, 116, 84, 114, 101, 101]⟩ 2321⟩, ⟨PyData.keyHash P ⟨#[95, 95, 100, 111, 99, 95, 95]⟩, .str ⟨#[95, 95, 100, 111, 99, 95, 95]⟩ 166, .none⟩, ⟨PyData.keyHash P ⟨#[95, 95, 112, 97, 99, 107, 97, 103, 101, 95, 95]⟩, .str ⟨#[95, 95, 112, 97, 99, 107, 97, 103, 101, 95, 95]⟩ 167, .none⟩, ⟨PyData.keyHash P ⟨#[95, 95, 108, 111, 97, 100, 101, 114, 95, 95]⟩, .str ⟨#[95, 95, 108, 111, 97, 100, 101, 114, 95, 95]⟩ 168, .builtin "__main__.__loader__#opaque"⟩, ⟨PyData.keyHash P ⟨#[95, 95, 115, 112, 101, 99, 95, 95]⟩, .str ⟨#[95, 95, 115, 112, 101, 99, 95, 95]⟩ 169, .none⟩, ⟨PyData.keyHash P ⟨#[95, 95, 97, 110, 110, 111, 116, 97, 116, 105, 111, 110, 115, 95, 95]⟩, .str ⟨#[95, 95, 97, 110, 110, 111, 116, 97, 116, 105, 111, 110, 115, 95, 95]⟩ 170, .ref 6⟩, ⟨PyData.keyHash P ⟨#[95, 95, 98, 117, 105, 108, 116, 105, 110, 115, 95, 95]⟩, .str ⟨#[95, 95, 98, 117, 105, 108, 116, 105, 110, 115, 95, 95]⟩ 171, .ref 4⟩, ⟨PyData.keyHash P ⟨#[95, 95, 102, 105, 108, 101, 95, 95]⟩, .str ⟨#[95, 95, 102, 105, 108, 101, 95, 95]⟩ 173, .str ⟨#[47, 99, 108, 97, 105, 109, 47, 99, 117, 116, 46, 112, 121]⟩ 172⟩, ⟨PyData.keyHash P ⟨#[95, 95, 99, 97, 99, 104, 101, 100, 95, 95]⟩, .str ⟨#[95, 95, 99, 97, 99, 104, 101, 100, 95, 95]⟩ 174, .none⟩, ⟨PyData.keyHash P ⟨#[95, 119, 97, 108, 108]⟩, .str ⟨#[95, 119, 97, 108, 108]⟩ 193, .ref 21⟩, ⟨PyData.keyHash P ⟨#[69, 77, 80, 84, 89, 83, 84, 82, 73, 78, 71]⟩, .str ⟨#[69, 77, 80, 84, 89, 83, 84, 82, 73, 78, 71]⟩ 197, .str ⟨#[]⟩ 196⟩, ⟨PyData.keyHash P ⟨#[95, 65, 99, 99, 117, 109, 117, 108, 97, 116, 111, 114]⟩, .str ⟨#[95, 65, 99, 99, 117, 109, 117, 108, 97, 116, 111, 114]⟩ 292, .ref 100⟩, ⟨PyData.keyHash P ⟨#[98, 49, 95, 115, 101, 116]⟩, .str ⟨#[98, 49, 95, 115, 101, 116]⟩ 354, .ref 112⟩, ⟨PyData.keyHash P ⟨#[105, 110, 95, 116, 97, 98, 108, 101, 95, 98, 49]⟩, .str ⟨#[105, 110, 95, 116, 97, 98, 108, 101, 95, 98, 49]⟩ 361, .ref 122⟩, ⟨PyData.keyHash P ⟨#[98, 51, 95, 101, 120, 99, 101, 112, 116, 105, 111, 110, 115]⟩, .str ⟨#[98, 51, 95, 101, 120, 99, 101, 112, 116, 105, 111, 110, 115]⟩ 2312, .ref 123⟩, ⟨PyData.keyHash P ⟨#[109, 97, 112, 95, 116, 97, 98, 108, 101, 95, 98, 51]⟩, .str ⟨#[109, 97, 112, 95, 116, 97, 98, 108, 101, 95, 98, 51]⟩ 2320, .ref 168⟩, ⟨PyData.keyHash P ⟨#[95, 114, 97, 105, 115, 101, 95, 115, 101, 114, 105, 97, 108, 105, 122, 97, 116, 105, 111, 110, 95, 101, 114, 114, 111, 114]⟩, .str ⟨#[95, 114, 97, 105, 115, 101, 95, 115, 101, 114, 105, 97, 108, 105, 122, 97, 116, 105, 111, 110, 95, 101, 114, 114, 111, 114]⟩ 2329, .ref 175⟩, ⟨PyData.keyHash P ⟨#[95, 101, 115, 99, 97, 112, 101, 95, 99, 100, 97, 116, 97]⟩, .str ⟨#[95, 101, 115, 99, 97, 112, 101, 95, 99, 100, 97, 116, 97]⟩ 2336, .ref 182⟩, ⟨PyData.keyHash P ⟨#[95, 101, 115, 99, 97, 112, 101, 95, 97, 116, 116, 114, 105, 98]⟩, .str ⟨#[95, 101, 115, 99, 97, 112, 101, 95, 97, 116, 116, 114, 105, 98]⟩ 2343, .ref 189⟩, ⟨PyData.keyHash P ⟨#[95, 101, 115, 99, 97, 112, 101, 95, 97, 116, 116, 114, 105, 98, 95, 104, 116, 109, 108]⟩, .str ⟨#[95, 101, 115, 99, 97, 112, 101, 95, 97, 116, 116, 114, 105, 98, 95, 104, 116, 109, 108]⟩ 2350, .ref 196⟩, ⟨PyData.keyHash P ⟨#[95, 101, 115, 99, 97, 112, 101, 95, 99, 100, 97, 116, 97, 95, 99, 49, 52, 110]⟩, .str ⟨#[95, 101, 115, 99, 97, 112, 101, 95, 99, 100, 97, 116, 97, 95, 99, 49, 52, 110]⟩ 2357, .ref 203⟩, ⟨PyData.keyHash P ⟨#[95, 101, 115, 99, 97, 112, 101, 95, 97, 116, 116, 114, 105, 98, 95, 99, 49, 52, 110]⟩, .str ⟨#[95, 101, 115, 99, 97, 112, 101, 95, 97, 116, 116, 114, 105, 98, 95, 99, 49, 52, 110]⟩ 2364, .ref 210⟩] 22, #[]⟩
noncomputable def o12_15 (P : Params) : Obj := ⟨.none, none, .fields #[.int 1 0, .int 0 0, .ref 20, .int 6 0, .int 0 0, .ref 28, .int 42 0, .int 0 0, .ref 121, .int 45 0, .int 0 0, .ref 167, .int 51 0, .int 0 0, .ref 174, .int 53 0, .int 0 0, .ref 181, .int 64 0, .int 0 0, .ref 188, .int 83 0, .int 0 0, .ref 195, .int 94 0, .int 0 0, .ref 202, .int 107 0, .int 0 0, .ref 209], #[]⟩
noncomputable def o162 (P : Params) : Obj := ⟨.type "tuple", none, .seq #[] 0, #[]⟩
noncomputable def o163 (P : Params) : Obj := ⟨.none, none, .fields #[], #[]⟩
noncomputable def o164 (P : Params) : Obj := ⟨.type "tuple", none, .seq #[.str ⟨#[99, 111, 100, 101]⟩ 2316, .str ⟨#[114]⟩ 2317] 0, #[]⟩
noncomputable def o165 (P : Params) : Obj := ⟨.type "tuple", none, .seq #[] 0, #[]⟩
noncomputable def o166 (P : Params) : Obj := ⟨.none, none, .func ⟨⟨#[109, 97, 112, 95, 116, 97, 98, 108, 101, 95, 98, 51]⟩, ⟨#[109, 97, 112, 95, 116, 97, 98, 108, 101, 95, 98, 51]⟩, a8, .stmts b8, s8, 0, [], .none, .none, .none, .none, none, .none, .none, 0⟩, #[]⟩
noncomputable def o167 (P : Params) : Obj := ⟨.type "code", none, .fields #[.str ⟨#[109, 97, 112, 95, 116, 97, 98, 108, 101, 95, 98, 51]⟩ 2313, .str ⟨#[109, 97, 112, 95, 116, 97, 98, 108, 101, 95, 98, 51]⟩ 2314, .str ⟨#[47, 99, 108, 97, 105, 109, 47, 99, 117, 116, 46, 112, 121]⟩ 2315, .int 45 0, .int 1 0, .int 0 0, .int 0 0, .int 3 0, .ref 162, .bool true, .int 181 0, .ref 163, .none, .ref 164, .ref 165, .ref 166, .int 2318 0, .int 45 0, .str ⟨#[47, 99, 108, 97, 105, 109, 47, 99, 117, 116, 46, 112, 121]⟩ 2319], #[]⟩
noncomputable def o168 (P : Params) : Obj := ⟨.type "function", none, .func ⟨⟨#[109, 97, 112, 95, 116, 97, 98, 108, 101, 95, 98, 51]⟩, ⟨#[109, 97, 112, 95, 116, 97, 98, 108, 101, 95, 98, 51]⟩, a8, .stmts b8, s8, 3, [], .none, .none, .none, .str ⟨#[99, 112, 121, 51, 49, 51, 46, 115, 116, 114, 105, 110, 103, 112, 114, 101, 112]⟩ 293, none, .ref 167, .none, 0⟩, #[]⟩
noncomputable def o169 (P : Params) : Obj := ⟨.type "tuple", none, .seq #[] 0, #[]⟩
noncomputable def o170 (P : Params) : Obj := ⟨.none, none, .fields #[], #[]⟩
noncomputable def o171 (P : Params) : Obj := ⟨.type "tuple", none, .seq #[.str ⟨#[116, 101, 120, 116]⟩ 2326] 0, #[]⟩
noncomputable def o172 (P : Params) : Obj := ⟨.type "tuple", none, .seq #[] 0, #[]⟩
noncomputable def o173 (P : Params) : Obj := ⟨.none, none, .func ⟨⟨#[95, 114, 97, 105, 115, 101, 95, 115, 101, 114, 105, 97, 108, 105, 122, 97, 116, 105, 111, 110, 95, 101, 114, 114, 111, 114]⟩, ⟨#[95, 114, 97, 105, 115, 101, 95, 115, 101, 114, 105, 97, 108, 105, 122, 97, 116, 105, 111, 110, 95, 101, 114, 114, 111, 114]⟩, a10, .stmts b10, s10, 0, [], .none, .none, .none, .none, none, .none, .none, 0⟩, #[]⟩
noncomputable def o174 (P : Params) : Obj := ⟨.type "code", none, .fields #[.str ⟨#[95, 114, 97, 105, 115, 101, 95, 115, 101, 114, 105, 97, 108, 105, 122, 97, 116, 105, 111, 110, 95, 101, 114, 114, 111, 114]⟩ 2323, .str ⟨#[95, 114, 97, 105, 115, 101, 95, 115, 101, 114, 105, 97, 108, 105, 122, 97, 116, 105, 111, 110, 95, 101, 114, 114, 111, 114]⟩ 2324, .str ⟨#[47, 99, 108, 97, 105, 109, 47, 99, 117, 116, 46, 112, 121]⟩ 2325, .int 51 0, .int 1 0, .int 0 0, .int 0 0, .int 3 0, .ref 169, .bool true, .int 181 0, .ref 170, .none, .ref 171, .ref 172, .ref 173, .int 2327 0, .int 51 0, .str ⟨#[47, 99, 108, 97, 105, 109, 47, 99, 117, 116, 46, 112, 121]⟩ 2328], #[]⟩
noncomputable def o175 (P : Params) : Obj := ⟨.type "function", none, .func ⟨⟨#[95, 114, 97, 105, 115, 101, 95, 115, 101, 114, 105, 97, 108, 105, 122, 97, 116, 105, 111, 110, 95, 101, 114, 114, 111, 114]⟩, ⟨#[95, 114, 97, 105, 115, 101, 95, 115, 101, 114, 105, 97, 108, 105, 122, 97, 116, 105, 111, 110, 95, 101, 114, 114, 111, 114]⟩, a10, .stmts b10, s10, 3, [], .none, .none, .none, .str ⟨#[99, 112, 121, 51, 49, 51, 46, 120, 109, 108, 46, 101, 116, 114, 101, 101, 46, 69, 108, 101, 109, 101, 110, 116, 84, 114, 101, 101]⟩ 2321, none, .ref 174, .none, 0⟩, #[]⟩
noncomputable def o176 (P : Params) : Obj := ⟨.type "tuple", none, .seq #[] 0, #[]⟩
noncomputable def o177 (P : Params) : Obj := ⟨.none, none, .fields #[], #[]⟩
noncomputable def o178 (P : Params) : Obj := ⟨.type "tuple", none, .seq #[.str ⟨#[116, 101, 120, 116]⟩ 2333] 0, #[]⟩
noncomputable def o179 (P : Params) : Obj := ⟨.type "tuple", none, .seq #[] 0, #[]⟩
noncomputable def o180 (P : Params) : Obj := ⟨.none, none, .func ⟨⟨#[95, 101, 115, 99, 97, 112, 101, 95, 99, 100, 97, 116, 97]⟩, ⟨#[95, 101, 115, 99, 97, 112, 101, 95, 99, 100, 97, 116, 97]⟩, a11, .stmts b11, s11, 0, [], .none, .none, .none, .none, none, .none, .none, 0⟩, #[]⟩
noncomputable def o181 (P : Params) : Obj := ⟨.type "code", none, .fields #[.str ⟨#[95, 101, 115, 99, 97, 112, 101, 95, 99, 100, 97, 116, 97]⟩ 2330, .str ⟨#[95, 101, 115, 99, 97, 112, 101, 95, 99, 100, 97, 116, 97]⟩ 2331, .str ⟨#[47, 99, 108, 97, 105, 109, 47, 99, 117, 116, 46, 112, 121]⟩ 2332, .int 53 0, .int 1 0, .int 0 0, .int 0 0, .int 3 0, .ref 176, .bool true, .int 181 0, .ref 177, .none, .ref 178, .ref 179, .ref 180, .int 2334 0, .int 53 0, .str ⟨#[47, 99, 108, 97, 105, 109, 47, 99, 117, 116, 46, 112, 121]⟩ 2335], #[]⟩
noncomputable def o182 (P : Params) : Obj := ⟨.type "function", none, .func ⟨⟨#[95, 101, 115, 99, 97, 112, 101, 95, 99, 100, 97, 116, 97]⟩, ⟨#[95, 101, 115, 99, 97, 112, 101, 95, 99, 100, 97, 116, 97]⟩, a11, .stmts b11, s11, 3, [], .none, .none, .none, .str ⟨#[99, 112, 121, 51, 49, 51, 46, 120, 109, 108, 46, 101, 116, 114, 101, 101, 46, 69, 108, 101, 109, 101, 110, 116, 84, 114, 101, 101]⟩ 2321, none, .ref 181, .none, 0⟩, #[]⟩
noncomputable def o183 (P : Params) : Obj := ⟨.type "tuple", none, .seq #[] 0, #[]⟩
noncomputable def o184 (P : Params) : Obj := ⟨.none, none, .fields #[], #[]⟩
noncomputable def o185 (P : Params) : Obj := ⟨.type "tuple", none, .seq #[.str ⟨#[116, 101, 120, 116]⟩ 2340] 0, #[]⟩
noncomputable def o186 (P : Params) : Obj := ⟨.type "tuple", none, .seq #[] 0, #[]⟩
noncomputable def o187 (P : Params) : Obj := ⟨.none, none, .func ⟨⟨#[95, 101, 115, 99, 97, 112, 101, 95, 97, 116, 116, 114, 105, 98]⟩, ⟨#[95, 101, 115, 99, 97, 112, 101, 95, 97, 116, 116, 114, 105, 98]⟩, a12, .stmts b12, s12, 0, [], .none, .none, .none, .none, none, .none, .none, 0⟩, #[]⟩
noncomputable def o188 (P : Params) : Obj := ⟨.type "code", none, .fields #[.str ⟨#[95, 101, 115, 99, 97, 112, 101, 95, 97, 116, 116, 114, 105, 98]⟩ 2337, .str ⟨#[95, 101, 115, 99, 97, 112, 101, 95, 97, 116, 116, 114, 105, 98]⟩ 2338, .str ⟨#[47, 99, 108, 97, 105, 109, 47, 99, 117, 116, 46, 112, 121]⟩ 2339, .int 64 0, .int 1 0, .int 0 0, .int 0 0, .int 3 0, .ref 183, .bool true, .int 181 0, .ref 184, .none, .ref 185, .ref 186, .ref 187, .int 2341 0, .int 64 0, .str ⟨#[47, 99, 108, 97, 105, 109, 47, 99, 117, 116, 46, 112, 121]⟩ 2342], #[]⟩
noncomputable def o189 (P : Params) : Obj := ⟨.type "function", none, .func ⟨⟨#[95, 101, 115, 99, 97, 112, 101, 95, 97, 116, 116, 114, 105, 98]⟩, ⟨#[95, 101, 115, 99, 97, 112, 101, 95, 97, 116, 116, 114, 105, 98]⟩, a12, .stmts b12, s12, 3, [], .none, .none, .none, .str ⟨#[99, 112, 121, 51, 49, 51, 46, 120, 109, 108, 46, 101, 116, 114, 101, 101, 46, 69, 108, 101, 109, 101, 110, 116, 84, 114, 101, 101]⟩ 2321, none, .ref 188, .none, 0⟩, #[]⟩
noncomputable def o190 (P : Params) : Obj := ⟨.type "tuple", none, .seq #[] 0, #[]⟩
noncomputable def o191 (P : Params) : Obj := ⟨.none, none, .fields #[], #[]⟩
noncomputable def o192 (P : Params) : Obj := ⟨.type "tuple", none, .seq #[.str ⟨#[116, 101, 120, 116]⟩ 2347] 0, #[]⟩
noncomputable def o193 (P : Params) : Obj := ⟨.type "tuple", none, .seq #[] 0, #[]⟩
noncomputable def o194 (P : Params) : Obj := ⟨.none, none, .func ⟨⟨#[95, 101, 115, 99, 97, 112, 101, 95, 97, 116, 116, 114, 105, 98, 95, 104, 116, 109, 108]⟩, ⟨#[95, 101, 115, 99, 97, 112, 101, 95, 97, 116, 116, 114, 105, 98, 95, 104, 116, 109, 108]⟩, a13, .stmts b13, s13, 0, [], .none, .none, .none, .none, none, .none, .none, 0⟩, #[]⟩
noncomputable def o195 (P : Params) : Obj := ⟨.type "code", none, .fields #[.str ⟨#[95, 101, 115, 99, 97, 112, 101, 95, 97, 116, 116, 114, 105, 98, 95, 104, 116, 109, 108]⟩ 2344, .str ⟨#[95, 101, 115, 99, 97, 112, 101, 95, 97, 116, 116, 114, 105, 98, 95, 104, 116, 109, 108]⟩ 2345, .str ⟨#[47, 99, 108, 97, 105, 109, 47, 99, 117, 116, 46, 112, 121]⟩ 2346, .int 83 0, .int 1 0, .int 0 0, .int 0 0, .int 3 0, .ref 190, .bool true, .int 181 0, .ref 191, .none, .ref 192, .ref 193, .ref 194, .int 2348 0, .int 83 0, .str ⟨#[47, 99, 108, 97, 105, 109, 47, 99, 117, 116, 46, 112, 121]⟩ 2349], #[]⟩
noncomputable def o196 (P : Params) : Obj := ⟨.type "function", none, .func ⟨⟨#[95, 101, 115, 99, 97, 112, 101, 95, 97, 116, 116, 114, 105, 98, 95, 104, 116, 109, 108]⟩, ⟨#[95, 101, 115, 99, 97, 112, 101, 95, 97, 116, 116, 114, 105, 98, 95, 104, 116, 109, 108]⟩, a13, .stmts b13, s13, 3, [], .none, .none, .none, .str ⟨#[99, 112, 121, 51, 49, 51, 46, 120, 109, 108, 46, 101, 116, 114, 101, 101, 46, 69, 108, 101, 109, 101, 110, 116, 84, 114, 101, 101]⟩ 2321, none, .ref 195, .none, 0⟩, #[]⟩
noncomputable def o197 (P : Params) : Obj := ⟨.type "tuple", none, .seq #[] 0, #[]⟩
noncomputable def o198 (P : Params) : Obj := ⟨.none, none, .fields #[], #[]⟩
noncomputable def o199 (P : Params) : Obj := ⟨.type "tuple", none, .seq #[.str ⟨#[116, 101, 120, 116]⟩ 2354] 0, #[]⟩
noncomputable def o200 (P : Params) : Obj := ⟨.type "tuple", none, .seq #[] 0, #[]⟩
noncomputable def o201 (P : Params) : Obj := ⟨.none, none, .func ⟨⟨#[95, 101, 115, 99, 97, 112, 101, 95, 99, 100, 97, 116, 97, 95, 99, 49, 52, 110]⟩, ⟨#[95, 101, 115, 99, 97, 112, 101, 95, 99, 100, 97, 116, 97, 95, 99, 49, 52, 110]⟩, a14, .stmts b14, s14, 0, [], .none, .none, .none, .none, none, .none, .none, 0⟩, #[]⟩
noncomputable def o202 (P : Params) : Obj := ⟨.type "code", none, .fields #[.str ⟨#[95, 101, 115, 99, 97, 112, 101, 95, 99, 100, 97, 116, 97, 95, 99, 49, 52, 110]⟩ 2351, .str ⟨#[95, 101, 115, 99, 97, 112, 101, 95, 99, 100, 97, 116, 97, 95, 99, 49, 52, 110]⟩ 2352, .str ⟨#[47, 99, 108, 97, 105, 109, 47, 99, 117, 116, 46, 112, 121]⟩ 2353, .int 94 0, .int 1 0, .int 0 0, .int 0 0, .int 3 0, .ref 197, .bool true, .int 181 0, .ref 198, .none, .ref 199, .ref 200, .ref 201, .int 2355 0, .int 94 0, .str ⟨#[47, 99, 108, 97, 105, 109, 47, 99, 117, 116, 46, 112, 121]⟩ 2356], #[]⟩
noncomputable def o203 (P : Params) : Obj := ⟨.type "function", none, .func ⟨⟨#[95, 101, 115, 99, 97, 112, 101, 95, 99, 100, 97, 116, 97, 95, 99, 49, 52, 110]⟩, ⟨#[95, 101, 115, 99, 97, 112, 101, 95, 99, 100, 97, 116, 97, 95, 99, 49, 52, 110]⟩, a14, .stmts b14, s14, 3, [], .none, .none, .none, .str ⟨#[99, 112, 121, 51, 49, 51, 46, 120, 109, 108, 46, 101, 116, 114, 101, 101, 46, 69, 108, 101, 109, 101, 110, 116, 84, 114, 101, 101]⟩ 2321, none, .ref 202, .none, 0⟩, #[]⟩
noncomputable def o204 (P : Params) : Obj := ⟨.type "tuple", none, .seq #[] 0, #[]⟩
noncomputable def o205 (P : Params) : Obj := ⟨.none, none, .fields #[], #[]⟩
noncomputable def o206 (P : Params) : Obj := ⟨.type "tuple", none, .seq #[.str ⟨#[116, 101, 120, 116]⟩ 2361] 0, #[]⟩
noncomputable def o207 (P : Params) : Obj := ⟨.type "tuple", none, .seq #[] 0, #[]⟩
noncomputable def o208 (P : Params) : Obj := ⟨.none, none, .func ⟨⟨#[95, 101, 115, 99, 97, 112, 101, 95, 97, 116, 116, 114, 105, 98, 95, 99, 49, 52, 110]⟩, ⟨#[95, 101, 115, 99, 97, 112, 101, 95, 97, 116, 116, 114, 105, 98, 95, 99, 49, 52, 110]⟩, a15, .stmts b15, s15, 0, [], .none, .none, .none, .none, none, .none, .none, 0⟩, #[]⟩
noncomputable def o209 (P : Params) : Obj := ⟨.type "code", none, .fields #[.str ⟨#[95, 101, 115, 99, 97, 112, 101, 95, 97, 116, 116, 114, 105, 98, 95, 99, 49, 52, 110]⟩ 2358, .str ⟨#[95, 101, 115, 99, 97, 112, 101, 95, 97, 116, 116, 114, 105, 98, 95, 99, 49, 52, 110]⟩ 2359, .str ⟨#[47, 99, 108, 97, 105, 109, 47, 99, 117, 116, 46, 112, 121]⟩ 2360, .int 107 0, .int 1 0, .int 0 0, .int 0 0, .int 3 0, .ref 204, .bool true, .int 181 0, .ref 205, .none, .ref 206, .ref 207, .ref 208, .int 2362 0, .int 107 0, .str ⟨#[47, 99, 108, 97, 105, 109, 47, 99, 117, 116, 46, 112, 121]⟩ 2363], #[]⟩
noncomputable def o210 (P : Params) : Obj := ⟨.type "function", none, .func ⟨⟨#[95, 101, 115, 99, 97, 112, 101, 95, 97, 116, 116, 114, 105, 98, 95, 99, 49, 52, 110]⟩, ⟨#[95, 101, 115, 99, 97, 112, 101, 95, 97, 116, 116, 114, 105, 98, 95, 99, 49, 52, 110]⟩, a15, .stmts b15, s15, 3, [], .none, .none, .none, .str ⟨#[99, 112, 121, 51, 49, 51, 46, 120, 109, 108, 46, 101, 116, 114, 101, 101, 46, 69, 108, 101, 109, 101, 110, 116, 84, 114, 101, 101]⟩ 2321, none, .ref 209, .none, 0⟩, #[]⟩
noncomputable def o3_22 (P : Params) : Obj := ⟨.type "dict", none, .dict #[⟨PyData.keyHash P ⟨#[95, 95, 110, 97, 109, 101, 95, 95]⟩, .str ⟨#[95, 95, 110, 97, 109, 101, 95, 95]⟩ 165, .str ⟨#[108, 97, 119, 95, 120, 111, 48, 48, 51, 54, 95, 48, 49]⟩ 2365⟩, ⟨PyData.keyHash P ⟨#[95, 95, 100, 111, 99, 95, 95]⟩, .str ⟨#[95, 95, 100, 111, 99, 95, 95]⟩ 166, .none⟩, ⟨PyData.keyHash P ⟨#[95, 95, 112, 97, 99, 107, 97, 103, 101, 95, 95]⟩, .str ⟨#[95, 95, 112, 97, 99, 107, 97, 103, 101, 95, 95]⟩ 167, .none⟩, ⟨PyData.keyHash P ⟨#[95, 95, 108, 111, 97, 100, 101, 114, 95, 95]⟩, .str ⟨#[95, 95, 108, 111, 97, 100, 101, 114, 95, 95]⟩ 168, .builtin "__main__.__loader__#opaque"⟩, ⟨PyData.keyHash P ⟨#[95, 95, 115, 112, 101, 99, 95, 95]⟩, .str ⟨#[95, 95, 115, 112, 101, 99, 95, 95]⟩ 169, .none⟩, ⟨PyData.keyHash P ⟨#[95, 95, 97, 110, 110, 111, 116, 97, 116, 105, 111, 110, 115, 95, 95]⟩, .str ⟨#[95, 95, 97, 110, 110, 111, 116, 97, 116, 105, 111, 110, 115, 95, 95]⟩ 170, .ref 6⟩, ⟨PyData.keyHash P ⟨#[95, 95, 98, 117, 105, 108, 116, 105, 110, 115, 95, 95]⟩, .str ⟨#[95, 95, 98, 117, 105, 108, 116, 105, 110, 115, 95, 95]⟩ 171, .ref 4⟩, ⟨PyData.keyHash P ⟨#[95, 95, 102, 105, 108, 101, 95, 95]⟩, .str ⟨#[95, 95, 102, 105, 108, 101, 95, 95]⟩ 173, .str ⟨#[47, 99, 108, 97, 105, 109, 47, 99, 117, 116, 46, 112, 121]⟩ 172⟩, ⟨PyData.keyHash P ⟨#[95, 95, 99, 97, 99, 104, 101, 100, 95, 95]⟩, .str ⟨#[95, 95, 99, 97, 99, 104, 101, 100, 95, 95]⟩ 174, .none⟩, ⟨PyData.keyHash P ⟨#[95, 119, 97, 108, 108]⟩, .str ⟨#[95, 119, 97, 108, 108]⟩ 193, .ref 21⟩, ⟨PyData.keyHash P ⟨#[69, 77, 80, 84, 89, 83, 84, 82, 73, 78, 71]⟩, .str ⟨#[69, 77, 80, 84, 89, 83, 84, 82, 73, 78, 71]⟩ 197, .str ⟨#[]⟩ 196⟩, ⟨PyData.keyHash P ⟨#[95, 65, 99, 99, 117, 109, 117, 108, 97, 116, 111, 114]⟩, .str ⟨#[95, 65, 99, 99, 117, 109, 117, 108, 97, 116, 111, 114]⟩ 292, .ref 100⟩, ⟨PyData.keyHash P ⟨#[98, 49, 95, 115, 101, 116]⟩, .str ⟨#[98, 49, 95, 115, 101, 116]⟩ 354, .ref 112⟩, ⟨PyData.keyHash P ⟨#[105, 110, 95, 116, 97, 98, 108, 101, 95, 98, 49]⟩, .str ⟨#[105, 110, 95, 116, 97, 98, 108, 101, 95, 98, 49]⟩ 361, .ref 122⟩, ⟨PyData.keyHash P ⟨#[98, 51, 95, 101, 120, 99, 101, 112, 116, 105, 111, 110, 115]⟩, .str ⟨#[98, 51, 95, 101, 120, 99, 101, 112, 116, 105, 111, 110, 115]⟩ 2312, .ref 123⟩, ⟨PyData.keyHash P ⟨#[109, 97, 112, 95, 116, 97, 98, 108, 101, 95, 98, 51]⟩, .str ⟨#[109, 97, 112, 95, 116, 97, 98, 108, 101, 95, 98, 51]⟩ 2320, .ref 168⟩, ⟨PyData.keyHash P ⟨#[95, 114, 97, 105, 115, 101, 95, 115, 101, 114, 105, 97, 108, 105, 122, 97, 116, 105, 111, 110, 95, 101, 114, 114, 111, 114]⟩, .str ⟨#[95, 114, 97, 105, 115, 101, 95, 115, 101, 114, 105, 97, 108, 105, 122, 97, 116, 105, 111, 110, 95, 101, 114, 114, 111, 114]⟩ 2329, .ref 175⟩, ⟨PyData.keyHash P ⟨#[95, 101, 115, 99, 97, 112, 101, 95, 99, 100, 97, 116, 97]⟩, .str ⟨#[95, 101, 115, 99, 97, 112, 101, 95, 99, 100, 97, 116, 97]⟩ 2336, .ref 182⟩, ⟨PyData.keyHash P ⟨#[95, 101, 115, 99, 97, 112, 101, 95, 97, 116, 116, 114, 105, 98]⟩, .str ⟨#[95, 101, 115, 99, 97, 112, 101, 95, 97, 116, 116, 114, 105, 98]⟩ 2343, .ref 189⟩, ⟨PyData.keyHash P ⟨#[95, 101, 115, 99, 97, 112, 101, 95, 97, 116, 116, 114, 105, 98, 95, 104, 116, 109, 108]⟩, .str ⟨#[95, 101, 115, 99, 97, 112, 101, 95, 97, 116, 116, 114, 105, 98, 95, 104, 116, 109, 108]⟩ 2350, .ref 196⟩, ⟨PyData.keyHash P ⟨#[95, 101, 115, 99, 97, 112, 101, 95, 99, 100, 97, 116, 97, 95, 99, 49, 52, 110]⟩, .str ⟨#[95, 101, 115, 99, 97, 112, 101, 95, 99, 100, 97, 116, 97, 95, 99, 49, 52, 110]⟩ 2357, .ref 203⟩, ⟨PyData.keyHash P ⟨#[95, 101, 115, 99, 97, 112, 101, 95, 97, 116, 116, 114, 105, 98, 95, 99, 49, 52, 110]⟩, .str ⟨#[95, 101, 115, 99, 97, 112, 101, 95, 97, 116, 116, 114, 105, 98, 95, 99, 49, 52, 110]⟩ 2364, .ref 210⟩, ⟨PyData.keyHash P ⟨#[95, 108, 97, 119, 95, 97, 108, 112, 104, 97, 98, 101, 116]⟩, .str ⟨#[95, 108, 97, 119, 95, 97, 108, 112, 104, 97, 98, 101, 116]⟩ 2373, .ref 217⟩, ⟨PyData.keyHash P ⟨#[95, 108, 97, 119, 95, 115, 112, 101, 108, 108, 101, 100]⟩, .str ⟨#[95, 108, 97, 119, 95, 115, 112, 101, 108, 108, 101, 100]⟩ 2379, .ref 222⟩, ⟨PyData.keyHash P ⟨#[95, 108, 97, 119, 95, 119, 101, 105, 103, 104, 116, 115]⟩, .str ⟨#[95, 108, 97, 119, 95, 119, 101, 105, 103, 104, 116, 115]⟩ 2388, .ref 229⟩, ⟨PyData.keyHash P ⟨#[95, 108, 97, 119, 95, 100, 105, 103, 105, 116, 115]⟩, .str ⟨#[95, 108, 97, 119, 95, 100, 105, 103, 105, 116, 115]⟩ 2398, .ref 236⟩, ⟨PyData.keyHash P ⟨#[95, 108, 97, 119, 95, 112, 105, 101, 99, 101]⟩, .str ⟨#[95, 108, 97, 119, 95, 112, 105, 101, 99, 101]⟩ 2416, .ref 243⟩, ⟨PyData.keyHash P ⟨#[108, 97, 119]⟩, .str ⟨#[108, 97, 119]⟩ 2422, .ref 248⟩] 28, #[]⟩
noncomputable def o12_22 (P : Params) : Obj := ⟨.none, none, .fields #[.int 1 0, .int 0 0, .ref 20, .int 6 0, .int 0 0, .ref 28, .int 42 0, .int 0 0, .ref 121, .int 45 0, .int 0 0, .ref 167, .int 51 0, .int 0 0, .ref 174, .int 53 0, .int 0 0, .ref 181, .int 64 0, .int 0 0, .ref 188, .int 83 0, .int 0 0, .ref 195, .int 94 0, .int 0 0, .ref 202, .int 107 0, .int 0 0, .ref 209, .int 125 0, .int 0 0, .ref 216, .int 137 0, .int 0 0, .ref 221, .int 149 0, .int 0 0, .ref 228, .int 155 0, .int 0 0, .ref 235, .int 163 0, .int 0 0, .ref 242, .int 175 0, .int 0 0, .ref 247], #[]⟩
noncomputable def o211 (P : Params) : Obj := ⟨.type "tuple", none, .seq #[] 0, #[]⟩
noncomputable def o212 (P : Params) : Obj := ⟨.none, none, .fields #[], #[]⟩
noncomputable def o213 (P : Params) : Obj := ⟨.type "tuple", none, .seq #[.str ⟨#[119, 104, 105, 99, 104]⟩ 2370] 0, #[]⟩
noncomputable def o214 (P : Params) : Obj := ⟨.type "tuple", none, .seq #[] 0, #[]⟩
noncomputable def o215 (P : Params) : Obj := ⟨.none, none, .func ⟨⟨#[95, 108, 97, 119, 95, 97, 108, 112, 104, 97, 98, 101, 116]⟩, ⟨#[95, 108, 97, 119, 95, 97, 108, 112, 104, 97, 98, 101, 116]⟩, a17, .stmts b17, s17, 0, [], .none, .none, .none, .none, none, .none, .none, 0⟩, #[]⟩
noncomputable def o216 (P : Params) : Obj := ⟨.type "code", none, .fields #[.str ⟨#[95, 108, 97, 119, 95, 97, 108, 112, 104, 97, 98, 101, 116]⟩ 2367, .str ⟨#[95, 108, 97, 119, 95, 97, 108, 112, 104, 97, 98, 101, 116]⟩ 2368, .str ⟨#[47, 99, 108, 97, 105, 109, 47, 99, 117, 116, 46, 112, 121]⟩ 2369, .int 125 0, .int 1 0, .int 0 0, .int 0 0, .int 3 0, .ref 211, .bool true, .int 181 0, .ref 212, .none, .ref 213, .ref 214, .ref 215, .int 2371 0, .int 125 0, .str ⟨#[47, 99, 108, 97, 105, 109, 47, 99, 117, 116, 46, 112, 121]⟩ 2372], #[]⟩
noncomputable def o217 (P : Params) : Obj := ⟨.type "function", none, .func ⟨⟨#[95, 108, 97, 119, 95, 97, 108, 112, 104, 97, 98, 101, 116]⟩, ⟨#[95, 108, 97, 119, 95, 97, 108, 112, 104, 97, 98, 101, 116]⟩, a17, .stmts b17, s17, 3, [], .none, .none, .none, .str ⟨#[108, 97, 119, 95, 120, 111, 48, 48, 51, 54, 95, 48, 49]⟩ 2365, none, .ref 216, .none, 0⟩, #[]⟩
noncomputable def o218 (P : Params) : Obj := ⟨.type "tuple", none, .seq #[] 0, #[]⟩
noncomputable def o219 (P : Params) : Obj := ⟨.none, none, .fields #[], #[]⟩
noncomputable def o220 (P : Params) : Obj := ⟨.none, none, .func ⟨⟨#[95, 108, 97, 119, 95, 115, 112, 101, 108, 108, 101, 100]⟩, ⟨#[95, 108, 97, 119, 95, 115, 112, 101, 108, 108, 101, 100]⟩, a18, .stmts b18, s18, 0, [], .none, .none, .none, .none, none, .none, .none, 0⟩, #[]⟩
noncomputable def o221 (P : Params) : Obj := ⟨.type "code", none, .fields #[.str ⟨#[95, 108, 97, 119, 95, 115, 112, 101, 108, 108, 101, 100]⟩ 2374, .str ⟨#[95, 108, 97, 119, 95, 115, 112, 101, 108, 108, 101, 100]⟩ 2375, .str ⟨#[47, 99, 108, 97, 105, 109, 47, 99, 117, 116, 46, 112, 121]⟩ 2376, .int 137 0, .int 5 0, .int 0 0, .int 0 0, .int 3 0, .ref 218, .bool true, .int 181 0, .ref 219, .none, .none, .none, .ref 220, .int 2377 0, .int 137 0, .str ⟨#[47, 99, 108, 97, 105, 109, 47, 99, 117, 116, 46, 112, 121]⟩ 2378], #[]⟩
noncomputable def o222 (P : Params) : Obj := ⟨.type "function", none, .func ⟨⟨#[95, 108, 97, 119, 95, 115, 112, 101, 108, 108, 101, 100]⟩, ⟨#[95, 108, 97, 119, 95, 115, 112, 101, 108, 108, 101, 100]⟩, a18, .stmts b18, s18, 3, [], .none, .none, .none, .str ⟨#[108, 97, 119, 95, 120, 111, 48, 48, 51, 54, 95, 48, 49]⟩ 2365, none, .ref 221, .none, 0⟩, #[]⟩
noncomputable def o223 (P : Params) : Obj := ⟨.type "tuple", none, .seq #[] 0, #[]⟩
noncomputable def o224 (P : Params) : Obj := ⟨.none, none, .fields #[], #[]⟩
noncomputable def o225 (P : Params) : Obj := ⟨.type "tuple", none, .seq #[.str ⟨#[109, 111, 115, 116]⟩ 2383, .str ⟨#[119, 101, 105, 103, 104, 116, 115]⟩ 2384, .str ⟨#[109, 111, 114, 101]⟩ 2385] 0, #[]⟩
noncomputable def o226 (P : Params) : Obj := ⟨.type "tuple", none, .seq #[] 0, #[]⟩
noncomputable def o227 (P : Params) : Obj := ⟨.none, none, .func ⟨⟨#[95, 108, 97, 119, 95, 119, 101, 105, 103, 104, 116, 115]⟩, ⟨#[95, 108, 97, 119, 95, 119, 101, 105, 103, 104, 116, 115]⟩, a19, .stmts b19, s19, 0, [], .none, .none, .none, .none, none, .none, .none, 0⟩, #[]⟩
noncomputable def o228 (P : Params) : Obj := ⟨.type "code", none, .fields #[.str ⟨#[95, 108, 97, 119, 95, 119, 101, 105, 103, 104, 116, 115]⟩ 2380, .str ⟨#[95, 108, 97, 119, 95, 119, 101, 105, 103, 104, 116, 115]⟩ 2381, .str ⟨#[47, 99, 108, 97, 105, 109, 47, 99, 117, 116, 46, 112, 121]⟩ 2382, .int 149 0, .int 1 0, .int 0 0, .int 0 0, .int 3 0, .ref 223, .bool true, .int 181 0, .ref 224, .none, .ref 225, .ref 226, .ref 227, .int 2386 0, .int 149 0, .str ⟨#[47, 99, 108, 97, 105, 109, 47, 99, 117, 116, 46, 112, 121]⟩ 2387], #[]⟩
noncomputable def o229 (P : Params) : Obj := ⟨.type "function", none, .func ⟨⟨#[95, 108, 97, 119, 95, 119, 101, 105, 103, 104, 116, 115]⟩, ⟨#[95, 108, 97, 119, 95, 119, 101, 105, 103, 104, 116, 115]⟩, a19, .stmts b19, s19, 3, [], .none, .none, .none, .str ⟨#[108, 97, 119, 95, 120, 111, 48, 48, 51, 54, 95, 48, 49]⟩ 2365, none, .ref 228, .none, 0⟩, #[]⟩
noncomputable def o230 (P : Params) : Obj := ⟨.type "tuple", none, .seq #[] 0, #[]⟩
noncomputable def o231 (P : Params) : Obj := ⟨.none, none, .fields #[], #[]⟩
noncomputable def o232 (P : Params) : Obj := ⟨.type "tuple", none, .seq #[.str ⟨#[110]⟩ 2392, .str ⟨#[119, 101, 105, 103, 104, 116, 115]⟩ 2393, .str ⟨#[100, 105, 103, 105, 116, 115]⟩ 2394, .str ⟨#[119, 101, 105, 103, 104, 116]⟩ 2395] 0, #[]⟩
noncomputable def o233 (P : Params) : Obj := ⟨.type "tuple", none, .seq #[] 0, #[]⟩
noncomputable def o234 (P : Params) : Obj := ⟨.none, none, .func ⟨⟨#[95, 108, 97, 119, 95, 100, 105, 103, 105, 116, 115]⟩, ⟨#[95, 108, 97, 119, 95, 100, 105, 103, 105, 116, 115]⟩, a20, .stmts b20, s20, 0, [], .none, .none, .none, .none, none, .none, .none, 0⟩, #[]⟩
noncomputable def o235 (P : Params) : Obj := ⟨.type "code", none, .fields #[.str ⟨#[95, 108, 97, 119, 95, 100, 105, 103, 105, 116, 115]⟩ 2389, .str ⟨#[95, 108, 97, 119, 95, 100, 105, 103, 105, 116, 115]⟩ 2390, .str ⟨#[47, 99, 108, 97, 105, 109, 47, 99, 117, 116, 46, 112, 121]⟩ 2391, .int 155 0, .int 2 0, .int 0 0, .int 0 0, .int 3 0, .ref 230, .bool true, .int 181 0, .ref 231, .none, .ref 232, .ref 233, .ref 234, .int 2396 0, .int 155 0, .str ⟨#[47, 99, 108, 97, 105, 109, 47, 99, 117, 116, 46, 112, 121]⟩ 2397], #[]⟩
noncomputable def o236 (P : Params) : Obj := ⟨.type "function", none, .func ⟨⟨#[95, 108, 97, 119, 95, 100, 105, 103, 105, 116, 115]⟩, ⟨#[95, 108, 97, 119, 95, 100, 105, 103, 105, 116, 115]⟩, a20, .stmts b20, s20, 3, [], .none, .none, .none, .str ⟨#[108, 97, 119, 95, 120, 111, 48, 48, 51, 54, 95, 48, 49]⟩ 2365, none, .ref 235, .none, 0⟩, #[]⟩
noncomputable def o237 (P : Params) : Obj := ⟨.type "tuple", none, .seq #[] 0, #[]⟩
noncomputable def o238 (P : Params) : Obj := ⟨.none, none, .fields #[], #[]⟩
noncomputable def o239 (P : Params) : Obj := ⟨.type "tuple", none, .seq #[.str ⟨#[100, 105, 103, 105, 116, 115]⟩ 2402, .str ⟨#[108, 101, 116, 116, 101, 114, 115]⟩ 2403, .str ⟨#[115, 105, 103, 110]⟩ 2404, .str ⟨#[102, 105, 114, 115, 116]⟩ 2405, .str ⟨#[115, 101, 99, 111, 110, 100]⟩ 2406, .str ⟨#[119, 114, 111, 116, 101]⟩ 2407, .str ⟨#[110, 97, 109, 101, 115]⟩ 2408, .str ⟨#[116, 101, 110, 115]⟩ 2409, .str ⟨#[108, 101, 116, 116, 101, 114]⟩ 2410, .str ⟨#[104, 97, 110, 100]⟩ 2411, .str ⟨#[108, 97, 121, 101, 114, 115]⟩ 2412, .str ⟨#[110, 97, 109, 101]⟩ 2413] 0, #[]⟩
noncomputable def o240 (P : Params) : Obj := ⟨.type "tuple", none, .seq #[] 0, #[]⟩
noncomputable def o241 (P : Params) : Obj := ⟨.none, none, .func ⟨⟨#[95, 108, 97, 119, 95, 112, 105, 101, 99, 101]⟩, ⟨#[95, 108, 97, 119, 95, 112, 105, 101, 99, 101]⟩, a21, .stmts b21, s21, 0, [], .none, .none, .none, .none, none, .none, .none, 0⟩, #[]⟩
noncomputable def o242 (P : Params) : Obj := ⟨.type "code", none, .fields #[.str ⟨#[95, 108, 97, 119, 95, 112, 105, 101, 99, 101]⟩ 2399, .str ⟨#[95, 108, 97, 119, 95, 112, 105, 101, 99, 101]⟩ 2400, .str ⟨#[47, 99, 108, 97, 105, 109, 47, 99, 117, 116, 46, 112, 121]⟩ 2401, .int 163 0, .int 5 0, .int 0 0, .int 0 0, .int 3 0, .ref 237, .bool true, .int 181 0, .ref 238, .none, .ref 239, .ref 240, .ref 241, .int 2414 0, .int 163 0, .str ⟨#[47, 99, 108, 97, 105, 109, 47, 99, 117, 116, 46, 112, 121]⟩ 2415], #[]⟩
noncomputable def o243 (P : Params) : Obj := ⟨.type "function", none, .func ⟨⟨#[95, 108, 97, 119, 95, 112, 105, 101, 99, 101]⟩, ⟨#[95, 108, 97, 119, 95, 112, 105, 101, 99, 101]⟩, a21, .stmts b21, s21, 3, [], .none, .none, .none, .str ⟨#[108, 97, 119, 95, 120, 111, 48, 48, 51, 54, 95, 48, 49]⟩ 2365, none, .ref 242, .none, 0⟩, #[]⟩
noncomputable def o244 (P : Params) : Obj := ⟨.type "tuple", none, .seq #[] 0, #[]⟩
noncomputable def o245 (P : Params) : Obj := ⟨.none, none, .fields #[], #[]⟩
noncomputable def o246 (P : Params) : Obj := ⟨.none, none, .func ⟨⟨#[108, 97, 119]⟩, ⟨#[108, 97, 119]⟩, a22, .stmts b22, s22, 0, [], .none, .none, .none, .none, none, .none, .none, 0⟩, #[]⟩
noncomputable def o247 (P : Params) : Obj := ⟨.type "code", none, .fields #[.str ⟨#[108, 97, 119]⟩ 2417, .str ⟨#[108, 97, 119]⟩ 2418, .str ⟨#[47, 99, 108, 97, 105, 109, 47, 99, 117, 116, 46, 112, 121]⟩ 2419, .int 175 0, .int 1 0, .int 0 0, .int 0 0, .int 3 0, .ref 244, .bool true, .int 181 0, .ref 245, .none, .none, .none, .ref 246, .int 2420 0, .int 175 0, .str ⟨#[47, 99, 108, 97, 105, 109, 47, 99, 117, 116, 46, 112, 121]⟩ 2421], #[]⟩
noncomputable def o248 (P : Params) : Obj := ⟨.type "function", none, .func ⟨⟨#[108, 97, 119]⟩, ⟨#[108, 97, 119]⟩, a22, .stmts b22, s22, 3, [], .none, .none, .none, .str ⟨#[108, 97, 119, 95, 120, 111, 48, 48, 51, 54, 95, 48, 49]⟩ 2365, none, .ref 247, .none, 0⟩, #[]⟩
noncomputable def heapA (P : Params) : Heap := ⟨#[boot_o_0 P, boot_o_1 P, boot_o_2 P, boot_o_3 P, boot_o_4 P, boot_o_5 P, boot_o_6 P, boot_o_7 P, boot_o_8 P, boot_o_9 P, boot_o_10 P, o11 P, o12_A P, o13 P, o14 P], {}⟩
noncomputable def treeA (P : Params) : BT := .node (boot_o_0 P) (.node (boot_o_1 P) (.node (boot_o_3 P) (.node (boot_o_7 P) (.nil) (.nil)) (.node (o11 P) (.nil) (.nil))) (.node (boot_o_5 P) (.node (boot_o_9 P) (.nil) (.nil)) (.node (o13 P) (.nil) (.nil)))) (.node (boot_o_2 P) (.node (boot_o_4 P) (.node (boot_o_8 P) (.nil) (.nil)) (.node (o12_A P) (.nil) (.nil))) (.node (boot_o_6 P) (.node (boot_o_10 P) (.nil) (.nil)) (.node (o14 P) (.nil) (.nil))))
-- A: objects 15, toks 187, pos { line := 0, col := 0, endLine := 0, endCol := 0 }, steps 12
noncomputable def tree2 (P : Params) : BT := .node (boot_o_0 P) (.node (boot_o_1 P) (.node (o3_2 P) (.node (boot_o_7 P) (.node (o15 P) (.nil) (.nil)) (.nil)) (.node (o11 P) (.node (o19 P) (.nil) (.nil)) (.nil))) (.node (boot_o_5 P) (.node (boot_o_9 P) (.node (o17 P) (.nil) (.nil)) (.nil)) (.node (o13 P) (.node (o21 P) (.nil) (.nil)) (.nil)))) (.node (boot_o_2 P) (.node (boot_o_4 P) (.node (boot_o_8 P) (.node (o16 P) (.nil) (.nil)) (.nil)) (.node (o12_2 P) (.node (o20 P) (.nil) (.nil)) (.nil))) (.node (boot_o_6 P) (.node (boot_o_10 P) (.node (o18 P) (.nil) (.nil)) (.nil)) (.node (o14 P) (.nil) (.nil))))
-- 2: objects 22, toks 198, pos { line := 5, col := 0, endLine := 5, endCol := 11 }, steps 9
noncomputable def tree3 (P : Params) : BT := .node (boot_o_0 P) (.node (boot_o_1 P) (.node (o3_3 P) (.node (boot_o_7 P) (.node (o15 P) (.node (o31 P) (.node (o63 P) (.nil) (.nil)) (.node (o95 P) (.nil) (.nil))) (.node (o47 P) (.node (o79 P) (.nil) (.nil)) (.nil))) (.node (o23 P) (.node (o39 P) (.node (o71 P) (.nil) (.nil)) (.node (o103 P) (.nil) (.nil))) (.node (o55 P) (.node (o87 P) (.nil) (.nil)) (.nil)))) (.node (o11 P) (.node (o19 P) (.node (o35 P) (.node (o67 P) (.nil) (.nil)) (.node (o99 P) (.nil) (.nil))) (.node (o51 P) (.node (o83 P) (.nil) (.nil)) (.nil))) (.node (o27 P) (.node (o43 P) (.node (o75 P) (.nil) (.nil)) (.nil)) (.node (o59 P) (.node (o91 P) (.nil) (.nil)) (.nil))))) (.node (boot_o_5 P) (.node (boot_o_9 P) (.node (o17 P) (.node (o33 P) (.node (o65 P) (.nil) (.nil)) (.node (o97 P) (.nil) (.nil))) (.node (o49 P) (.node (o81 P) (.nil) (.nil)) (.nil))) (.node (o25 P) (.node (o41 P) (.node (o73 P) (.nil) (.nil)) (.nil)) (.node (o57 P) (.node (o89 P) (.nil) (.nil)) (.nil)))) (.node (o13 P) (.node (o21 P) (.node (o37 P) (.node (o69 P) (.nil) (.nil)) (.node (o101 P) (.nil) (.nil))) (.node (o53 P) (.node (o85 P) (.nil) (.nil)) (.nil))) (.node (o29 P) (.node (o45 P) (.node (o77 P) (.nil) (.nil)) (.nil)) (.node (o61 P) (.node (o93 P) (.nil) (.nil)) (.nil)))))) (.node (boot_o_2 P) (.node (boot_o_4 P) (.node (boot_o_8 P) (.node (o16 P) (.node (o32 P) (.node (o64 P) (.nil) (.nil)) (.node (o96 P) (.nil) (.nil))) (.node (o48 P) (.node (o80 P) (.nil) (.nil)) (.nil))) (.node (o24 P) (.node (o40 P) (.node (o72 P) (.nil) (.nil)) (.node (o104 P) (.nil) (.nil))) (.node (o56 P) (.node (o88 P) (.nil) (.nil)) (.nil)))) (.node (o12_3 P) (.node (o20 P) (.node (o36 P) (.node (o68 P) (.nil) (.nil)) (.node (o100 P) (.nil) (.nil))) (.node (o52 P) (.node (o84 P) (.nil) (.nil)) (.nil))) (.node (o28 P) (.node (o44 P) (.node (o76 P) (.nil) (.nil)) (.nil)) (.node (o60 P) (.node (o92 P) (.nil) (.nil)) (.nil))))) (.node (boot_o_6 P) (.node (boot_o_10 P) (.node (o18 P) (.node (o34 P) (.node (o66 P) (.nil) (.nil)) (.node (o98 P) (.nil) (.nil))) (.node (o50 P) (.node (o82 P) (.nil) (.nil)) (.nil))) (.node (o26 P) (.node (o42 P) (.node (o74 P) (.nil) (.nil)) (.nil)) (.node (o58 P) (.node (o90 P) (.nil) (.nil)) (.nil)))) (.node (o14 P) (.node (o22 P) (.node (o38 P) (.node (o70 P) (.nil) (.nil)) (.node (o102 P) (.nil) (.nil))) (.node (o54 P) (.node (o86 P) (.nil) (.nil)) (.nil))) (.node (o30 P) (.node (o46 P) (.node (o78 P) (.nil) (.nil)) (.nil)) (.node (o62 P) (.node (o94 P) (.nil) (.nil)) (.nil))))))
-- 3: objects 105, toks 293, pos { line := 6, col := 0, endLine := 39, endCol := 32 }, steps 502
noncomputable def tree4 (P : Params) : BT := .node (boot_o_0 P) (.node (boot_o_1 P) (.node (o3_4 P) (.node (boot_o_7 P) (.node (o15 P) (.node (o31 P) (.node (o63 P) (.nil) (.nil)) (.node (o95 P) (.nil) (.nil))) (.node (o47 P) (.node (o79 P) (.nil) (.nil)) (.nil))) (.node (o23 P) (.node (o39 P) (.node (o71 P) (.nil) (.nil)) (.node (o103 P) (.nil) (.nil))) (.node (o55 P) (.node (o87 P) (.nil) (.nil)) (.nil)))) (.node (o11 P) (.node (o19 P) (.node (o35 P) (.node (o67 P) (.nil) (.nil)) (.node (o99 P) (.nil) (.nil))) (.node (o51 P) (.node (o83 P) (.nil) (.nil)) (.nil))) (.node (o27 P) (.node (o43 P) (.node (o75 P) (.nil) (.nil)) (.nil)) (.node (o59 P) (.node (o91 P) (.nil) (.nil)) (.nil))))) (.node (boot_o_5 P) (.node (boot_o_9 P) (.node (o17 P) (.node (o33 P) (.node (o65 P) (.nil) (.nil)) (.node (o97 P) (.nil) (.nil))) (.node (o49 P) (.node (o81 P) (.nil) (.nil)) (.nil))) (.node (o25 P) (.node (o41 P) (.node (o73 P) (.nil) (.nil)) (.nil)) (.node (o57 P) (.node (o89 P) (.nil) (.nil)) (.nil)))) (.node (o13 P) (.node (o21 P) (.node (o37 P) (.node (o69 P) (.nil) (.nil)) (.node (o101 P) (.nil) (.nil))) (.node (o53 P) (.node (o85 P) (.nil) (.nil)) (.nil))) (.node (o29 P) (.node (o45 P) (.node (o77 P) (.nil) (.nil)) (.nil)) (.node (o61 P) (.node (o93 P) (.nil) (.nil)) (.nil)))))) (.node (boot_o_2 P) (.node (boot_o_4 P) (.node (boot_o_8 P) (.node (o16 P) (.node (o32 P) (.node (o64 P) (.nil) (.nil)) (.node (o96 P) (.nil) (.nil))) (.node (o48 P) (.node (o80 P) (.nil) (.nil)) (.nil))) (.node (o24 P) (.node (o40 P) (.node (o72 P) (.nil) (.nil)) (.node (o104 P) (.nil) (.nil))) (.node (o56 P) (.node (o88 P) (.nil) (.nil)) (.nil)))) (.node (o12_3 P) (.node (o20 P) (.node (o36 P) (.node (o68 P) (.nil) (.nil)) (.node (o100 P) (.nil) (.nil))) (.node (o52 P) (.node (o84 P) (.nil) (.nil)) (.nil))) (.node (o28 P) (.node (o44 P) (.node (o76 P) (.nil) (.nil)) (.nil)) (.node (o60 P) (.node (o92 P) (.nil) (.nil)) (.nil))))) (.node (boot_o_6 P) (.node (boot_o_10 P) (.node (o18 P) (.node (o34 P) (.node (o66 P) (.nil) (.nil)) (.node (o98 P) (.nil) (.nil))) (.node (o50 P) (.node (o82 P) (.nil) (.nil)) (.nil))) (.node (o26 P) (.node (o42 P) (.node (o74 P) (.nil) (.nil)) (.nil)) (.node (o58 P) (.node (o90 P) (.nil) (.nil)) (.nil)))) (.node (o14 P) (.node (o22 P) (.node (o38 P) (.node (o70 P) (.nil) (.nil)) (.node (o102 P) (.nil) (.nil))) (.node (o54 P) (.node (o86 P) (.nil) (.nil)) (.nil))) (.node (o30 P) (.node (o46 P) (.node (o78 P) (.nil) (.nil)) (.nil)) (.node (o62 P) (.node (o94 P) (.nil) (.nil)) (.nil))))))
-- 4: objects 105, toks 295, pos { line := 40, col := 0, endLine := 40, endCol := 8 }, steps 9
noncomputable def tree5 (P : Params) : BT := .node (boot_o_0 P) (.node (boot_o_1 P) (.node (o3_5 P) (.node (boot_o_7 P) (.node (o15 P) (.node (o31 P) (.node (o63 P) (.nil) (.nil)) (.node (o95 P) (.nil) (.nil))) (.node (o47 P) (.node (o79 P) (.nil) (.nil)) (.node (o111 P) (.nil) (.nil)))) (.node (o23 P) (.node (o39 P) (.node (o71 P) (.nil) (.nil)) (.node (o103 P) (.nil) (.nil))) (.node (o55 P) (.node (o87 P) (.nil) (.nil)) (.nil)))) (.node (o11 P) (.node (o19 P) (.node (o35 P) (.node (o67 P) (.nil) (.nil)) (.node (o99 P) (.nil) (.nil))) (.node (o51 P) (.node (o83 P) (.nil) (.nil)) (.node (o115 P) (.nil) (.nil)))) (.node (o27 P) (.node (o43 P) (.node (o75 P) (.nil) (.nil)) (.node (o107 P) (.nil) (.nil))) (.node (o59 P) (.node (o91 P) (.nil) (.nil)) (.nil))))) (.node (boot_o_5 P) (.node (boot_o_9 P) (.node (o17 P) (.node (o33 P) (.node (o65 P) (.nil) (.nil)) (.node (o97 P) (.nil) (.nil))) (.node (o49 P) (.node (o81 P) (.nil) (.nil)) (.node (o113 P) (.nil) (.nil)))) (.node (o25 P) (.node (o41 P) (.node (o73 P) (.nil) (.nil)) (.node (o105 P) (.nil) (.nil))) (.node (o57 P) (.node (o89 P) (.nil) (.nil)) (.nil)))) (.node (o13 P) (.node (o21 P) (.node (o37 P) (.node (o69 P) (.nil) (.nil)) (.node (o101 P) (.nil) (.nil))) (.node (o53 P) (.node (o85 P) (.nil) (.nil)) (.nil))) (.node (o29 P) (.node (o45 P) (.node (o77 P) (.nil) (.nil)) (.node (o109 P) (.nil) (.nil))) (.node (o61 P) (.node (o93 P) (.nil) (.nil)) (.nil)))))) (.node (boot_o_2 P) (.node (boot_o_4 P) (.node (boot_o_8 P) (.node (o16 P) (.node (o32 P) (.node (o64 P) (.nil) (.nil)) (.node (o96 P) (.nil) (.nil))) (.node (o48 P) (.node (o80 P) (.nil) (.nil)) (.node (o112 P) (.nil) (.nil)))) (.node (o24 P) (.node (o40 P) (.node (o72 P) (.nil) (.nil)) (.node (o104 P) (.nil) (.nil))) (.node (o56 P) (.node (o88 P) (.nil) (.nil)) (.nil)))) (.node (o12_3 P) (.node (o20 P) (.node (o36 P) (.node (o68 P) (.nil) (.nil)) (.node (o100 P) (.nil) (.nil))) (.node (o52 P) (.node (o84 P) (.nil) (.nil)) (.nil))) (.node (o28 P) (.node (o44 P) (.node (o76 P) (.nil) (.nil)) (.node (o108 P) (.nil) (.nil))) (.node (o60 P) (.node (o92 P) (.nil) (.nil)) (.nil))))) (.node (boot_o_6 P) (.node (boot_o_10 P) (.node (o18 P) (.node (o34 P) (.node (o66 P) (.nil) (.nil)) (.node (o98 P) (.nil) (.nil))) (.node (o50 P) (.node (o82 P) (.nil) (.nil)) (.node (o114 P) (.nil) (.nil)))) (.node (o26 P) (.node (o42 P) (.node (o74 P) (.nil) (.nil)) (.node (o106 P) (.nil) (.nil))) (.node (o58 P) (.node (o90 P) (.nil) (.nil)) (.nil)))) (.node (o14 P) (.node (o22 P) (.node (o38 P) (.node (o70 P) (.nil) (.nil)) (.node (o102 P) (.nil) (.nil))) (.node (o54 P) (.node (o86 P) (.nil) (.nil)) (.nil))) (.node (o30 P) (.node (o46 P) (.node (o78 P) (.nil) (.nil)) (.node (o110 P) (.nil) (.nil))) (.node (o62 P) (.node (o94 P) (.nil) (.nil)) (.nil))))))
-- 5: objects 116, toks 355, pos { line := 41, col := 0, endLine := 41, endCol := 6 }, steps 998
noncomputable def tree6 (P : Params) : BT := .node (boot_o_0 P) (.node (boot_o_1 P) (.node (o3_6 P) (.node (boot_o_7 P) (.node (o15 P) (.node (o31 P) (.node (o63 P) (.nil) (.nil)) (.node (o95 P) (.nil) (.nil))) (.node (o47 P) (.node (o79 P) (.nil) (.nil)) (.node (o111 P) (.nil) (.nil)))) (.node (o23 P) (.node (o39 P) (.node (o71 P) (.nil) (.nil)) (.node (o103 P) (.nil) (.nil))) (.node (o55 P) (.node (o87 P) (.nil) (.nil)) (.node (o119 P) (.nil) (.nil))))) (.node (o11 P) (.node (o19 P) (.node (o35 P) (.node (o67 P) (.nil) (.nil)) (.node (o99 P) (.nil) (.nil))) (.node (o51 P) (.node (o83 P) (.nil) (.nil)) (.node (o115 P) (.nil) (.nil)))) (.node (o27 P) (.node (o43 P) (.node (o75 P) (.nil) (.nil)) (.node (o107 P) (.nil) (.nil))) (.node (o59 P) (.node (o91 P) (.nil) (.nil)) (.nil))))) (.node (boot_o_5 P) (.node (boot_o_9 P) (.node (o17 P) (.node (o33 P) (.node (o65 P) (.nil) (.nil)) (.node (o97 P) (.nil) (.nil))) (.node (o49 P) (.node (o81 P) (.nil) (.nil)) (.node (o113 P) (.nil) (.nil)))) (.node (o25 P) (.node (o41 P) (.node (o73 P) (.nil) (.nil)) (.node (o105 P) (.nil) (.nil))) (.node (o57 P) (.node (o89 P) (.nil) (.nil)) (.node (o121 P) (.nil) (.nil))))) (.node (o13 P) (.node (o21 P) (.node (o37 P) (.node (o69 P) (.nil) (.nil)) (.node (o101 P) (.nil) (.nil))) (.node (o53 P) (.node (o85 P) (.nil) (.nil)) (.node (o117 P) (.nil) (.nil)))) (.node (o29 P) (.node (o45 P) (.node (o77 P) (.nil) (.nil)) (.node (o109 P) (.nil) (.nil))) (.node (o61 P) (.node (o93 P) (.nil) (.nil)) (.nil)))))) (.node (boot_o_2 P) (.node (boot_o_4 P) (.node (boot_o_8 P) (.node (o16 P) (.node (o32 P) (.node (o64 P) (.nil) (.nil)) (.node (o96 P) (.nil) (.nil))) (.node (o48 P) (.node (o80 P) (.nil) (.nil)) (.node (o112 P) (.nil) (.nil)))) (.node (o24 P) (.node (o40 P) (.node (o72 P) (.nil) (.nil)) (.node (o104 P) (.nil) (.nil))) (.node (o56 P) (.node (o88 P) (.nil) (.nil)) (.node (o120 P) (.nil) (.nil))))) (.node (o12_6 P) (.node (o20 P) (.node (o36 P) (.node (o68 P) (.nil) (.nil)) (.node (o100 P) (.nil) (.nil))) (.node (o52 P) (.node (o84 P) (.nil) (.nil)) (.node (o116 P) (.nil) (.nil)))) (.node (o28 P) (.node (o44 P) (.node (o76 P) (.nil) (.nil)) (.node (o108 P) (.nil) (.nil))) (.node (o60 P) (.node (o92 P) (.nil) (.nil)) (.nil))))) (.node (boot_o_6 P) (.node (boot_o_10 P) (.node (o18 P) (.node (o34 P) (.node (o66 P) (.nil) (.nil)) (.node (o98 P) (.nil) (.nil))) (.node (o50 P) (.node (o82 P) (.nil) (.nil)) (.node (o114 P) (.nil) (.nil)))) (.node (o26 P) (.node (o42 P) (.node (o74 P) (.nil) (.nil)) (.node (o106 P) (.nil) (.nil))) (.node (o58 P) (.node (o90 P) (.nil) (.nil)) (.node (o122 P) (.nil) (.nil))))) (.node (o14 P) (.node (o22 P) (.node (o38 P) (.node (o70 P) (.nil) (.nil)) (.node (o102 P) (.nil) (.nil))) (.node (o54 P) (.node (o86 P) (.nil) (.nil)) (.node (o118 P) (.nil) (.nil)))) (.node (o30 P) (.node (o46 P) (.node (o78 P) (.nil) (.nil)) (.node (o110 P) (.nil) (.nil))) (.node (o62 P) (.node (o94 P) (.nil) (.nil)) (.nil))))))
-- 6: objects 123, toks 362, pos { line := 42, col := 0, endLine := 43, endCol := 30 }, steps 29
noncomputable def tree7 (P : Params) : BT := .node (boot_o_0 P) (.node (boot_o_1 P) (.node (o3_7 P) (.node (boot_o_7 P) (.node (o15 P) (.node (o31 P) (.node (o63 P) (.node (o127 P) (.nil) (.nil)) (.nil)) (.node (o95 P) (.node (o159 P) (.nil) (.nil)) (.nil))) (.node (o47 P) (.node (o79 P) (.node (o143 P) (.nil) (.nil)) (.nil)) (.node (o111 P) (.nil) (.nil)))) (.node (o23 P) (.node (o39 P) (.node (o71 P) (.node (o135 P) (.nil) (.nil)) (.nil)) (.node (o103 P) (.nil) (.nil))) (.node (o55 P) (.node (o87 P) (.node (o151 P) (.nil) (.nil)) (.nil)) (.node (o119 P) (.nil) (.nil))))) (.node (o11 P) (.node (o19 P) (.node (o35 P) (.node (o67 P) (.node (o131 P) (.nil) (.nil)) (.nil)) (.node (o99 P) (.nil) (.nil))) (.node (o51 P) (.node (o83 P) (.node (o147 P) (.nil) (.nil)) (.nil)) (.node (o115 P) (.nil) (.nil)))) (.node (o27 P) (.node (o43 P) (.node (o75 P) (.node (o139 P) (.nil) (.nil)) (.nil)) (.node (o107 P) (.nil) (.nil))) (.node (o59 P) (.node (o91 P) (.node (o155 P) (.nil) (.nil)) (.nil)) (.node (o123 P) (.nil) (.nil)))))) (.node (boot_o_5 P) (.node (boot_o_9 P) (.node (o17 P) (.node (o33 P) (.node (o65 P) (.node (o129 P) (.nil) (.nil)) (.nil)) (.node (o97 P) (.node (o161 P) (.nil) (.nil)) (.nil))) (.node (o49 P) (.node (o81 P) (.node (o145 P) (.nil) (.nil)) (.nil)) (.node (o113 P) (.nil) (.nil)))) (.node (o25 P) (.node (o41 P) (.node (o73 P) (.node (o137 P) (.nil) (.nil)) (.nil)) (.node (o105 P) (.nil) (.nil))) (.node (o57 P) (.node (o89 P) (.node (o153 P) (.nil) (.nil)) (.nil)) (.node (o121 P) (.nil) (.nil))))) (.node (o13 P) (.node (o21 P) (.node (o37 P) (.node (o69 P) (.node (o133 P) (.nil) (.nil)) (.nil)) (.node (o101 P) (.nil) (.nil))) (.node (o53 P) (.node (o85 P) (.node (o149 P) (.nil) (.nil)) (.nil)) (.node (o117 P) (.nil) (.nil)))) (.node (o29 P) (.node (o45 P) (.node (o77 P) (.node (o141 P) (.nil) (.nil)) (.nil)) (.node (o109 P) (.nil) (.nil))) (.node (o61 P) (.node (o93 P) (.node (o157 P) (.nil) (.nil)) (.nil)) (.node (o125 P) (.nil) (.nil))))))) (.node (boot_o_2 P) (.node (boot_o_4 P) (.node (boot_o_8 P) (.node (o16 P) (.node (o32 P) (.node (o64 P) (.node (o128 P) (.nil) (.nil)) (.nil)) (.node (o96 P) (.node (o160 P) (.nil) (.nil)) (.nil))) (.node (o48 P) (.node (o80 P) (.node (o144 P) (.nil) (.nil)) (.nil)) (.node (o112 P) (.nil) (.nil)))) (.node (o24 P) (.node (o40 P) (.node (o72 P) (.node (o136 P) (.nil) (.nil)) (.nil)) (.node (o104 P) (.nil) (.nil))) (.node (o56 P) (.node (o88 P) (.node (o152 P) (.nil) (.nil)) (.nil)) (.node (o120 P) (.nil) (.nil))))) (.node (o12_6 P) (.node (o20 P) (.node (o36 P) (.node (o68 P) (.node (o132 P) (.nil) (.nil)) (.nil)) (.node (o100 P) (.nil) (.nil))) (.node (o52 P) (.node (o84 P) (.node (o148 P) (.nil) (.nil)) (.nil)) (.node (o116 P) (.nil) (.nil)))) (.node (o28 P) (.node (o44 P) (.node (o76 P) (.node (o140 P) (.nil) (.nil)) (.nil)) (.node (o108 P) (.nil) (.nil))) (.node (o60 P) (.node (o92 P) (.node (o156 P) (.nil) (.nil)) (.nil)) (.node (o124 P) (.nil) (.nil)))))) (.node (boot_o_6 P) (.node (boot_o_10 P) (.node (o18 P) (.node (o34 P) (.node (o66 P) (.node (o130 P) (.nil) (.nil)) (.nil)) (.node (o98 P) (.nil) (.nil))) (.node (o50 P) (.node (o82 P) (.node (o146 P) (.nil) (.nil)) (.nil)) (.node (o114 P) (.nil) (.nil)))) (.node (o26 P) (.node (o42 P) (.node (o74 P) (.node (o138 P) (.nil) (.nil)) (.nil)) (.node (o106 P) (.nil) (.nil))) (.node (o58 P) (.node (o90 P) (.node (o154 P) (.nil) (.nil)) (.nil)) (.node (o122 P) (.nil) (.nil))))) (.node (o14 P) (.node (o22 P) (.node (o38 P) (.node (o70 P) (.node (o134 P) (.nil) (.nil)) (.nil)) (.node (o102 P) (.nil) (.nil))) (.node (o54 P) (.node (o86 P) (.node (o150 P) (.nil) (.nil)) (.nil)) (.node (o118 P) (.nil) (.nil)))) (.node (o30 P) (.node (o46 P) (.node (o78 P) (.node (o142 P) (.nil) (.nil)) (.nil)) (.node (o110 P) (.nil) (.nil))) (.node (o62 P) (.node (o94 P) (.node (o158 P) (.nil) (.nil)) (.nil)) (.node (o126 P) (.nil) (.nil)))))))
-- 7: objects 162, toks 2313, pos { line := 44, col := 0, endLine := 44, endCol := 13 }, steps 12524
noncomputable def tree15 (P : Params) : BT := .node (boot_o_0 P) (.node (boot_o_1 P) (.node (o3_15 P) (.node (boot_o_7 P) (.node (o15 P) (.node (o31 P) (.node (o63 P) (.node (o127 P) (.nil) (.nil)) (.node (o191 P) (.nil) (.nil))) (.node (o95 P) (.node (o159 P) (.nil) (.nil)) (.nil))) (.node (o47 P) (.node (o79 P) (.node (o143 P) (.nil) (.nil)) (.node (o207 P) (.nil) (.nil))) (.node (o111 P) (.node (o175 P) (.nil) (.nil)) (.nil)))) (.node (o23 P) (.node (o39 P) (.node (o71 P) (.node (o135 P) (.nil) (.nil)) (.node (o199 P) (.nil) (.nil))) (.node (o103 P) (.node (o167 P) (.nil) (.nil)) (.nil))) (.node (o55 P) (.node (o87 P) (.node (o151 P) (.nil) (.nil)) (.nil)) (.node (o119 P) (.node (o183 P) (.nil) (.nil)) (.nil))))) (.node (o11 P) (.node (o19 P) (.node (o35 P) (.node (o67 P) (.node (o131 P) (.nil) (.nil)) (.node (o195 P) (.nil) (.nil))) (.node (o99 P) (.node (o163 P) (.nil) (.nil)) (.nil))) (.node (o51 P) (.node (o83 P) (.node (o147 P) (.nil) (.nil)) (.nil)) (.node (o115 P) (.node (o179 P) (.nil) (.nil)) (.nil)))) (.node (o27 P) (.node (o43 P) (.node (o75 P) (.node (o139 P) (.nil) (.nil)) (.node (o203 P) (.nil) (.nil))) (.node (o107 P) (.node (o171 P) (.nil) (.nil)) (.nil))) (.node (o59 P) (.node (o91 P) (.node (o155 P) (.nil) (.nil)) (.nil)) (.node (o123 P) (.node (o187 P) (.nil) (.nil)) (.nil)))))) (.node (boot_o_5 P) (.node (boot_o_9 P) (.node (o17 P) (.node (o33 P) (.node (o65 P) (.node (o129 P) (.nil) (.nil)) (.node (o193 P) (.nil) (.nil))) (.node (o97 P) (.node (o161 P) (.nil) (.nil)) (.nil))) (.node (o49 P) (.node (o81 P) (.node (o145 P) (.nil) (.nil)) (.node (o209 P) (.nil) (.nil))) (.node (o113 P) (.node (o177 P) (.nil) (.nil)) (.nil)))) (.node (o25 P) (.node (o41 P) (.node (o73 P) (.node (o137 P) (.nil) (.nil)) (.node (o201 P) (.nil) (.nil))) (.node (o105 P) (.node (o169 P) (.nil) (.nil)) (.nil))) (.node (o57 P) (.node (o89 P) (.node (o153 P) (.nil) (.nil)) (.nil)) (.node (o121 P) (.node (o185 P) (.nil) (.nil)) (.nil))))) (.node (o13 P) (.node (o21 P) (.node (o37 P) (.node (o69 P) (.node (o133 P) (.nil) (.nil)) (.node (o197 P) (.nil) (.nil))) (.node (o101 P) (.node (o165 P) (.nil) (.nil)) (.nil))) (.node (o53 P) (.node (o85 P) (.node (o149 P) (.nil) (.nil)) (.nil)) (.node (o117 P) (.node (o181 P) (.nil) (.nil)) (.nil)))) (.node (o29 P) (.node (o45 P) (.node (o77 P) (.node (o141 P) (.nil) (.nil)) (.node (o205 P) (.nil) (.nil))) (.node (o109 P) (.node (o173 P) (.nil) (.nil)) (.nil))) (.node (o61 P) (.node (o93 P) (.node (o157 P) (.nil) (.nil)) (.nil)) (.node (o125 P) (.node (o189 P) (.nil) (.nil)) (.nil))))))) (.node (boot_o_2 P) (.node (boot_o_4 P) (.node (boot_o_8 P) (.node (o16 P) (.node (o32 P) (.node (o64 P) (.node (o128 P) (.nil) (.nil)) (.node (o192 P) (.nil) (.nil))) (.node (o96 P) (.node (o160 P) (.nil) (.nil)) (.nil))) (.node (o48 P) (.node (o80 P) (.node (o144 P) (.nil) (.nil)) (.node (o208 P) (.nil) (.nil))) (.node (o112 P) (.node (o176 P) (.nil) (.nil)) (.nil)))) (.node (o24 P) (.node (o40 P) (.node (o72 P) (.node (o136 P) (.nil) (.nil)) (.node (o200 P) (.nil) (.nil))) (.node (o104 P) (.node (o168 P) (.nil) (.nil)) (.nil))) (.node (o56 P) (.node (o88 P) (.node (o152 P) (.nil) (.nil)) (.nil)) (.node (o120 P) (.node (o184 P) (.nil) (.nil)) (.nil))))) (.node (o12_15 P) (.node (o20 P) (.node (o36 P) (.node (o68 P) (.node (o132 P) (.nil) (.nil)) (.node (o196 P) (.nil) (.nil))) (.node (o100 P) (.node (o164 P) (.nil) (.nil)) (.nil))) (.node (o52 P) (.node (o84 P) (.node (o148 P) (.nil) (.nil)) (.nil)) (.node (o116 P) (.node (o180 P) (.nil) (.nil)) (.nil)))) (.node (o28 P) (.node (o44 P) (.node (o76 P) (.node (o140 P) (.nil) (.nil)) (.node (o204 P) (.nil) (.nil))) (.node (o108 P) (.node (o172 P) (.nil) (.nil)) (.nil))) (.node (o60 P) (.node (o92 P) (.node (o156 P) (.nil) (.nil)) (.nil)) (.node (o124 P) (.node (o188 P) (.nil) (.nil)) (.nil)))))) (.node (boot_o_6 P) (.node (boot_o_10 P) (.node (o18 P) (.node (o34 P) (.node (o66 P) (.node (o130 P) (.nil) (.nil)) (.node (o194 P) (.nil) (.nil))) (.node (o98 P) (.node (o162 P) (.nil) (.nil)) (.nil))) (.node (o50 P) (.node (o82 P) (.node (o146 P) (.nil) (.nil)) (.node (o210 P) (.nil) (.nil))) (.node (o114 P) (.node (o178 P) (.nil) (.nil)) (.nil)))) (.node (o26 P) (.node (o42 P) (.node (o74 P) (.node (o138 P) (.nil) (.nil)) (.node (o202 P) (.nil) (.nil))) (.node (o106 P) (.node (o170 P) (.nil) (.nil)) (.nil))) (.node (o58 P) (.node (o90 P) (.node (o154 P) (.nil) (.nil)) (.nil)) (.node (o122 P) (.node (o186 P) (.nil) (.nil)) (.nil))))) (.node (o14 P) (.node (o22 P) (.node (o38 P) (.node (o70 P) (.node (o134 P) (.nil) (.nil)) (.node (o198 P) (.nil) (.nil))) (.node (o102 P) (.node (o166 P) (.nil) (.nil)) (.nil))) (.node (o54 P) (.node (o86 P) (.node (o150 P) (.nil) (.nil)) (.nil)) (.node (o118 P) (.node (o182 P) (.nil) (.nil)) (.nil)))) (.node (o30 P) (.node (o46 P) (.node (o78 P) (.node (o142 P) (.nil) (.nil)) (.node (o206 P) (.nil) (.nil))) (.node (o110 P) (.node (o174 P) (.nil) (.nil)) (.nil))) (.node (o62 P) (.node (o94 P) (.node (o158 P) (.nil) (.nil)) (.nil)) (.node (o126 P) (.node (o190 P) (.nil) (.nil)) (.nil)))))))
-- 15: objects 211, toks 2365, pos { line := 107, col := 0, endLine := 123, endCol := 40 }, steps 29
noncomputable def tree22 (P : Params) : BT := .node (boot_o_0 P) (.node (boot_o_1 P) (.node (o3_22 P) (.node (boot_o_7 P) (.node (o15 P) (.node (o31 P) (.node (o63 P) (.node (o127 P) (.nil) (.nil)) (.node (o191 P) (.nil) (.nil))) (.node (o95 P) (.node (o159 P) (.nil) (.nil)) (.node (o223 P) (.nil) (.nil)))) (.node (o47 P) (.node (o79 P) (.node (o143 P) (.nil) (.nil)) (.node (o207 P) (.nil) (.nil))) (.node (o111 P) (.node (o175 P) (.nil) (.nil)) (.node (o239 P) (.nil) (.nil))))) (.node (o23 P) (.node (o39 P) (.node (o71 P) (.node (o135 P) (.nil) (.nil)) (.node (o199 P) (.nil) (.nil))) (.node (o103 P) (.node (o167 P) (.nil) (.nil)) (.node (o231 P) (.nil) (.nil)))) (.node (o55 P) (.node (o87 P) (.node (o151 P) (.nil) (.nil)) (.node (o215 P) (.nil) (.nil))) (.node (o119 P) (.node (o183 P) (.nil) (.nil)) (.node (o247 P) (.nil) (.nil)))))) (.node (o11 P) (.node (o19 P) (.node (o35 P) (.node (o67 P) (.node (o131 P) (.nil) (.nil)) (.node (o195 P) (.nil) (.nil))) (.node (o99 P) (.node (o163 P) (.nil) (.nil)) (.node (o227 P) (.nil) (.nil)))) (.node (o51 P) (.node (o83 P) (.node (o147 P) (.nil) (.nil)) (.node (o211 P) (.nil) (.nil))) (.node (o115 P) (.node (o179 P) (.nil) (.nil)) (.node (o243 P) (.nil) (.nil))))) (.node (o27 P) (.node (o43 P) (.node (o75 P) (.node (o139 P) (.nil) (.nil)) (.node (o203 P) (.nil) (.nil))) (.node (o107 P) (.node (o171 P) (.nil) (.nil)) (.node (o235 P) (.nil) (.nil)))) (.node (o59 P) (.node (o91 P) (.node (o155 P) (.nil) (.nil)) (.node (o219 P) (.nil) (.nil))) (.node (o123 P) (.node (o187 P) (.nil) (.nil)) (.nil)))))) (.node (boot_o_5 P) (.node (boot_o_9 P) (.node (o17 P) (.node (o33 P) (.node (o65 P) (.node (o129 P) (.nil) (.nil)) (.node (o193 P) (.nil) (.nil))) (.node (o97 P) (.node (o161 P) (.nil) (.nil)) (.node (o225 P) (.nil) (.nil)))) (.node (o49 P) (.node (o81 P) (.node (o145 P) (.nil) (.nil)) (.node (o209 P) (.nil) (.nil))) (.node (o113 P) (.node (o177 P) (.nil) (.nil)) (.node (o241 P) (.nil) (.nil))))) (.node (o25 P) (.node (o41 P) (.node (o73 P) (.node (o137 P) (.nil) (.nil)) (.node (o201 P) (.nil) (.nil))) (.node (o105 P) (.node (o169 P) (.nil) (.nil)) (.node (o233 P) (.nil) (.nil)))) (.node (o57 P) (.node (o89 P) (.node (o153 P) (.nil) (.nil)) (.node (o217 P) (.nil) (.nil))) (.node (o121 P) (.node (o185 P) (.nil) (.nil)) (.nil))))) (.node (o13 P) (.node (o21 P) (.node (o37 P) (.node (o69 P) (.node (o133 P) (.nil) (.nil)) (.node (o197 P) (.nil) (.nil))) (.node (o101 P) (.node (o165 P) (.nil) (.nil)) (.node (o229 P) (.nil) (.nil)))) (.node (o53 P) (.node (o85 P) (.node (o149 P) (.nil) (.nil)) (.node (o213 P) (.nil) (.nil))) (.node (o117 P) (.node (o181 P) (.nil) (.nil)) (.node (o245 P) (.nil) (.nil))))) (.node (o29 P) (.node (o45 P) (.node (o77 P) (.node (o141 P) (.nil) (.nil)) (.node (o205 P) (.nil) (.nil))) (.node (o109 P) (.node (o173 P) (.nil) (.nil)) (.node (o237 P) (.nil) (.nil)))) (.node (o61 P) (.node (o93 P) (.node (o157 P) (.nil) (.nil)) (.node (o221 P) (.nil) (.nil))) (.node (o125 P) (.node (o189 P) (.nil) (.nil)) (.nil))))))) (.node (boot_o_2 P) (.node (boot_o_4 P) (.node (boot_o_8 P) (.node (o16 P) (.node (o32 P) (.node (o64 P) (.node (o128 P) (.nil) (.nil)) (.node (o192 P) (.nil) (.nil))) (.node (o96 P) (.node (o160 P) (.nil) (.nil)) (.node (o224 P) (.nil) (.nil)))) (.node (o48 P) (.node (o80 P) (.node (o144 P) (.nil) (.nil)) (.node (o208 P) (.nil) (.nil))) (.node (o112 P) (.node (o176 P) (.nil) (.nil)) (.node (o240 P) (.nil) (.nil))))) (.node (o24 P) (.node (o40 P) (.node (o72 P) (.node (o136 P) (.nil) (.nil)) (.node (o200 P) (.nil) (.nil))) (.node (o104 P) (.node (o168 P) (.nil) (.nil)) (.node (o232 P) (.nil) (.nil)))) (.node (o56 P) (.node (o88 P) (.node (o152 P) (.nil) (.nil)) (.node (o216 P) (.nil) (.nil))) (.node (o120 P) (.node (o184 P) (.nil) (.nil)) (.node (o248 P) (.nil) (.nil)))))) (.node (o12_22 P) (.node (o20 P) (.node (o36 P) (.node (o68 P) (.node (o132 P) (.nil) (.nil)) (.node (o196 P) (.nil) (.nil))) (.node (o100 P) (.node (o164 P) (.nil) (.nil)) (.node (o228 P) (.nil) (.nil)))) (.node (o52 P) (.node (o84 P) (.node (o148 P) (.nil) (.nil)) (.node (o212 P) (.nil) (.nil))) (.node (o116 P) (.node (o180 P) (.nil) (.nil)) (.node (o244 P) (.nil) (.nil))))) (.node (o28 P) (.node (o44 P) (.node (o76 P) (.node (o140 P) (.nil) (.nil)) (.node (o204 P) (.nil) (.nil))) (.node (o108 P) (.node (o172 P) (.nil) (.nil)) (.node (o236 P) (.nil) (.nil)))) (.node (o60 P) (.node (o92 P) (.node (o156 P) (.nil) (.nil)) (.node (o220 P) (.nil) (.nil))) (.node (o124 P) (.node (o188 P) (.nil) (.nil)) (.nil)))))) (.node (boot_o_6 P) (.node (boot_o_10 P) (.node (o18 P) (.node (o34 P) (.node (o66 P) (.node (o130 P) (.nil) (.nil)) (.node (o194 P) (.nil) (.nil))) (.node (o98 P) (.node (o162 P) (.nil) (.nil)) (.node (o226 P) (.nil) (.nil)))) (.node (o50 P) (.node (o82 P) (.node (o146 P) (.nil) (.nil)) (.node (o210 P) (.nil) (.nil))) (.node (o114 P) (.node (o178 P) (.nil) (.nil)) (.node (o242 P) (.nil) (.nil))))) (.node (o26 P) (.node (o42 P) (.node (o74 P) (.node (o138 P) (.nil) (.nil)) (.node (o202 P) (.nil) (.nil))) (.node (o106 P) (.node (o170 P) (.nil) (.nil)) (.node (o234 P) (.nil) (.nil)))) (.node (o58 P) (.node (o90 P) (.node (o154 P) (.nil) (.nil)) (.node (o218 P) (.nil) (.nil))) (.node (o122 P) (.node (o186 P) (.nil) (.nil)) (.nil))))) (.node (o14 P) (.node (o22 P) (.node (o38 P) (.node (o70 P) (.node (o134 P) (.nil) (.nil)) (.node (o198 P) (.nil) (.nil))) (.node (o102 P) (.node (o166 P) (.nil) (.nil)) (.node (o230 P) (.nil) (.nil)))) (.node (o54 P) (.node (o86 P) (.node (o150 P) (.nil) (.nil)) (.node (o214 P) (.nil) (.nil))) (.node (o118 P) (.node (o182 P) (.nil) (.nil)) (.node (o246 P) (.nil) (.nil))))) (.node (o30 P) (.node (o46 P) (.node (o78 P) (.node (o142 P) (.nil) (.nil)) (.node (o206 P) (.nil) (.nil))) (.node (o110 P) (.node (o174 P) (.nil) (.nil)) (.node (o238 P) (.nil) (.nil)))) (.node (o62 P) (.node (o94 P) (.node (o158 P) (.nil) (.nil)) (.node (o222 P) (.nil) (.nil))) (.node (o126 P) (.node (o190 P) (.nil) (.nil)) (.nil)))))))
-- 22: objects 249, toks 2423, pos { line := 175, col := 0, endLine := 203, endCol := 85 }, steps 26
noncomputable def heapZ (P : Params) : Heap := ⟨#[boot_o_0 P, boot_o_1 P, boot_o_2 P, o3_22 P, boot_o_4 P, boot_o_5 P, boot_o_6 P, boot_o_7 P, boot_o_8 P, boot_o_9 P, boot_o_10 P, o11 P, o12_22 P, o13 P, o14 P, o15 P, o16 P, o17 P, o18 P, o19 P, o20 P, o21 P, o22 P, o23 P, o24 P, o25 P, o26 P, o27 P, o28 P, o29 P, o30 P, o31 P, o32 P, o33 P, o34 P, o35 P, o36 P, o37 P, o38 P, o39 P, o40 P, o41 P, o42 P, o43 P, o44 P, o45 P, o46 P, o47 P, o48 P, o49 P, o50 P, o51 P, o52 P, o53 P, o54 P, o55 P, o56 P, o57 P, o58 P, o59 P, o60 P, o61 P, o62 P, o63 P, o64 P, o65 P, o66 P, o67 P, o68 P, o69 P, o70 P, o71 P, o72 P, o73 P, o74 P, o75 P, o76 P, o77 P, o78 P, o79 P, o80 P, o81 P, o82 P, o83 P, o84 P, o85 P, o86 P, o87 P, o88 P, o89 P, o90 P, o91 P, o92 P, o93 P, o94 P, o95 P, o96 P, o97 P, o98 P, o99 P, o100 P, o101 P, o102 P, o103 P, o104 P, o105 P, o106 P, o107 P, o108 P, o109 P, o110 P, o111 P, o112 P, o113 P, o114 P, o115 P, o116 P, o117 P, o118 P, o119 P, o120 P, o121 P, o122 P, o123 P, o124 P, o125 P, o126 P, o127 P, o128 P, o129 P, o130 P, o131 P, o132 P, o133 P, o134 P, o135 P, o136 P, o137 P, o138 P, o139 P, o140 P, o141 P, o142 P, o143 P, o144 P, o145 P, o146 P, o147 P, o148 P, o149 P, o150 P, o151 P, o152 P, o153 P, o154 P, o155 P, o156 P, o157 P, o158 P, o159 P, o160 P, o161 P, o162 P, o163 P, o164 P, o165 P, o166 P, o167 P, o168 P, o169 P, o170 P, o171 P, o172 P, o173 P, o174 P, o175 P, o176 P, o177 P, o178 P, o179 P, o180 P, o181 P, o182 P, o183 P, o184 P, o185 P, o186 P, o187 P, o188 P, o189 P, o190 P, o191 P, o192 P, o193 P, o194 P, o195 P, o196 P, o197 P, o198 P, o199 P, o200 P, o201 P, o202 P, o203 P, o204 P, o205 P, o206 P, o207 P, o208 P, o209 P, o210 P, o211 P, o212 P, o213 P, o214 P, o215 P, o216 P, o217 P, o218 P, o219 P, o220 P, o221 P, o222 P, o223 P, o224 P, o225 P, o226 P, o227 P, o228 P, o229 P, o230 P, o231 P, o232 P, o233 P, o234 P, o235 P, o236 P, o237 P, o238 P, o239 P, o240 P, o241 P, o242 P, o243 P, o244 P, o245 P, o246 P, o247 P, o248 P], {}⟩
end Mine
end
noncomputable section
-- HPieces
open PySem PySem.W PyProof.Rows
set_option maxRecDepth 100000
namespace Mine
noncomputable abbrev bE : List Stmt := behindTheImports P0
noncomputable def envE : Env := { scope := P0.main.scope, locals := mainNs, globals := mainNs, cells := [], code := .ref 13, frame := some 14 }
noncomputable abbrev cE : Code := .body bE envE
noncomputable abbrev B0 : List Frame := [topFrame default]
noncomputable abbrev an0 : Option Value := some (.ref 6)
noncomputable abbrev ST (T : Params → BT) (n tk : Nat) (w : World) (os : OsState) : SharedT := ⟨T w.params, n, {}, #[], {}, tk, os⟩
noncomputable abbrev thr (l : List Stmt) (p : Pos) : Thread := ⟨(execs l envE).wrap doneF deadEnd id id, cE, p, B0⟩
theorem toTw {w : World} {n : Nat} {s : SharedT} {l : List Stmt} {p : Pos} :
    segRunT treeTable P0 w 11 an0 1 n s (thr l p) =
    Fast.tw10110043849684766642 Fast.tw14364793385576792824 P0 w 11 an0 1 n s ⟨(Fast.tw12563942051412417395 l envE).wrap doneF deadEnd id id, cE, p, B0⟩ := by
  unfold thr
  rw [Fast.te10110043849684766642, Fast.te14364793385576792824, Fast.te12563942051412417395]

noncomputable abbrev pos2 : Pos := ⟨5, 0, 5, 11⟩
noncomputable abbrev pos3 : Pos := ⟨6, 0, 39, 32⟩
noncomputable abbrev pos4 : Pos := ⟨40, 0, 40, 8⟩
noncomputable abbrev pos5 : Pos := ⟨41, 0, 41, 6⟩
noncomputable abbrev pos6 : Pos := ⟨42, 0, 43, 30⟩
noncomputable abbrev pos7 : Pos := ⟨44, 0, 44, 13⟩
noncomputable abbrev pos15 : Pos := ⟨107, 0, 123, 40⟩
noncomputable abbrev pos22 : Pos := ⟨175, 0, 203, 85⟩
noncomputable abbrev NN : Nat := 1000000
noncomputable abbrev SA (w : World) (os : OsState) : Shared := ⟨heapA w.params, #[], {}, 187, os⟩
noncomputable abbrev SZ (w : World) (os : OsState) : Shared := ⟨heapZ w.params, #[], {}, 2423, os⟩
theorem h_open : ∀ w : World, (fencedOpening treeTable P0 w NN).map (fun s => (s.heap, s.gens, s.drawn, s.toks)) = some (boot_heap w.params, Array.mk [], boot_drawn, boot_toks) :=
  boot_open (by kernel_rfl) (by decide +kernel) (fun s => by kernel_rfl)
theorem h_size : ∀ w : World, ((boot_heap w.params).isNs mainGlobals && (Array.mk [] : Array GenState).size == 0, (boot_heap w.params).objs.size, (boot_heap w.params).nsMap mainGlobals "__annotations__") = (true, 11, an0) := fun w => by
  kernel_rfl
theorem h_pre (w : World) (os : OsState) : topGo treeTable P0 w 11 an0 12 ⟨boot_heap w.params, Array.mk [], boot_drawn, boot_toks, os⟩ (topStub P0) = some (SA w os, ⟨denote treeTable cE, cE, default, B0⟩) := by
  kernel_rfl
theorem h_block (w : World) (os : OsState) : segRun treeTable P0 w 11 an0 1 1 (SA w os) (blockOf bE envE cE default B0) = some (.next, (ST treeA 15 187 w os).abs, cE, default) := by
  kernel_rfl
theorem h_fin (w : World) (os : OsState) : topRun treeTable P0 w 11 an0 2 (ST tree22 249 2423 w os).abs ⟨doneF .next, cE, pos22, B0⟩ = some (SZ w os) := by
  kernel_rfl
theorem pcB (w : World) (os : OsState) : segRunT treeTable P0 w 11 an0 1 48 (ST treeA 15 187 w os) (thr [st0, st1, st2] default) = some (.next, ST tree2 22 198 w os, cE, pos2) := by
  rw [toTw]; kernel_rfl
theorem pc3 (w : World) (os : OsState) : segRunT treeTable P0 w 11 an0 1 503 (ST tree2 22 198 w os) (thr [st3] pos2) = some (.next, ST tree3 105 293 w os, cE, pos3) := by
  rw [toTw]; kernel_rfl
theorem pc4 (w : World) (os : OsState) : segRunT treeTable P0 w 11 an0 1 10 (ST tree3 105 293 w os) (thr [st4] pos3) = some (.next, ST tree4 105 295 w os, cE, pos4) := by
  rw [toTw]; kernel_rfl
noncomputable def p5 (w : World) : Prop := (fun os => segRunT treeTable P0 w 11 an0 1 999 (ST tree4 105 295 w os) (thr [st5] pos4)) = fun os => some (.next, ST tree5 116 355 w os, cE, pos5)
theorem pc5a (w : World) : p5 (w.withFollow "special-get-raises" true) := by
  refine funext fun os => ?_
  rw [toTw]; kernel_rfl
theorem pc5b (w : World) : p5 (w.withFollow "special-get-raises" false) := by
  refine funext fun os => ?_
  rw [toTw]; kernel_rfl
theorem pc5 (w : World) (os : OsState) : segRunT treeTable P0 w 11 an0 1 999 (ST tree4 105 295 w os) (thr [st5] pos4) = some (.next, ST tree5 116 355 w os, cE, pos5) :=
  congrFun (byRow2 "special-get-raises" pc5b pc5a w) os
theorem pc6 (w : World) (os : OsState) : segRunT treeTable P0 w 11 an0 1 30 (ST tree5 116 355 w os) (thr [st6] pos5) = some (.next, ST tree6 123 362 w os, cE, pos6) := by
  rw [toTw]; kernel_rfl
theorem pc15 (w : World) (os : OsState) : segRunT treeTable P0 w 11 an0 1 300 (ST tree7 162 2313 w os) (thr [st8, st9, st10, st11, st12, st13, st14, st15] pos7) = some (.next, ST tree15 211 2365 w os, cE, pos15) := by
  rw [toTw]; kernel_rfl
theorem pc22 (w : World) (os : OsState) : segRunT treeTable P0 w 11 an0 1 300 (ST tree15 211 2365 w os) (thr [st16, st17, st18, st19, st20, st21, st22] pos15) = some (.next, ST tree22 249 2423 w os, cE, pos22) := by
  rw [toTw]; kernel_rfl
end Mine
end
noncomputable section
-- HK
open PySem PySem.W PyProof.Rows
set_option maxRecDepth 100000
namespace Mine
noncomputable def KK (P : Params) : Frag := (nat_lit 2, boot_o_2 P) ::
  (nat_lit 3, o3_22 P) ::
  (nat_lit 15, o15 P) ::
  (nat_lit 17, o17 P) ::
  (nat_lit 18, o18 P) ::
  (nat_lit 20, o20 P) ::
  (nat_lit 21, o21 P) ::
  (nat_lit 22, o22 P) ::
  (nat_lit 25, o25 P) ::
  (nat_lit 30, o30 P) ::
  (nat_lit 31, o31 P) ::
  (nat_lit 32, o32 P) ::
  (nat_lit 34, o34 P) ::
  (nat_lit 35, o35 P) ::
  (nat_lit 37, o37 P) ::
  (nat_lit 38, o38 P) ::
  (nat_lit 39, o39 P) ::
  (nat_lit 41, o41 P) ::
  (nat_lit 42, o42 P) ::
  (nat_lit 44, o44 P) ::
  (nat_lit 45, o45 P) ::
  (nat_lit 46, o46 P) ::
  (nat_lit 47, o47 P) ::
  (nat_lit 49, o49 P) ::
  (nat_lit 50, o50 P) ::
  (nat_lit 52, o52 P) ::
  (nat_lit 53, o53 P) ::
  (nat_lit 54, o54 P) ::
  (nat_lit 56, o56 P) ::
  (nat_lit 57, o57 P) ::
  (nat_lit 59, o59 P) ::
  (nat_lit 60, o60 P) ::
  (nat_lit 61, o61 P) ::
  (nat_lit 63, o63 P) ::
  (nat_lit 64, o64 P) ::
  (nat_lit 66, o66 P) ::
  (nat_lit 67, o67 P) ::
  (nat_lit 68, o68 P) ::
  (nat_lit 70, o70 P) ::
  (nat_lit 71, o71 P) ::
  (nat_lit 73, o73 P) ::
  (nat_lit 74, o74 P) ::
  (nat_lit 75, o75 P) ::
  (nat_lit 76, o76 P) ::
  (nat_lit 78, o78 P) ::
  (nat_lit 79, o79 P) ::
  (nat_lit 81, o81 P) ::
  (nat_lit 82, o82 P) ::
  (nat_lit 83, o83 P) ::
  (nat_lit 85, o85 P) ::
  (nat_lit 86, o86 P) ::
  (nat_lit 88, o88 P) ::
  (nat_lit 89, o89 P) ::
  (nat_lit 90, o90 P) ::
  (nat_lit 91, o91 P) ::
  (nat_lit 93, o93 P) ::
  (nat_lit 94, o94 P) ::
  (nat_lit 96, o96 P) ::
  (nat_lit 97, o97 P) ::
  (nat_lit 98, o98 P) ::
  (nat_lit 99, o99 P) ::
  (nat_lit 100, o100 P) ::
  (nat_lit 101, o101 P) ::
  (nat_lit 102, o102 P) ::
  (nat_lit 112, o112 P) ::
  (nat_lit 116, o116 P) ::
  (nat_lit 118, o118 P) ::
  (nat_lit 119, o119 P) ::
  (nat_lit 121, o121 P) ::
  (nat_lit 122, o122 P) ::
  (nat_lit 123, o123 P) ::
  (nat_lit 162, o162 P) ::
  (nat_lit 164, o164 P) ::
  (nat_lit 165, o165 P) ::
  (nat_lit 167, o167 P) ::
  (nat_lit 168, o168 P) ::
  (nat_lit 169, o169 P) ::
  (nat_lit 171, o171 P) ::
  (nat_lit 172, o172 P) ::
  (nat_lit 174, o174 P) ::
  (nat_lit 175, o175 P) ::
  (nat_lit 176, o176 P) ::
  (nat_lit 178, o178 P) ::
  (nat_lit 179, o179 P) ::
  (nat_lit 181, o181 P) ::
  (nat_lit 182, o182 P) ::
  (nat_lit 183, o183 P) ::
  (nat_lit 185, o185 P) ::
  (nat_lit 186, o186 P) ::
  (nat_lit 188, o188 P) ::
  (nat_lit 189, o189 P) ::
  (nat_lit 190, o190 P) ::
  (nat_lit 192, o192 P) ::
  (nat_lit 193, o193 P) ::
  (nat_lit 195, o195 P) ::
  (nat_lit 196, o196 P) ::
  (nat_lit 197, o197 P) ::
  (nat_lit 199, o199 P) ::
  (nat_lit 200, o200 P) ::
  (nat_lit 202, o202 P) ::
  (nat_lit 203, o203 P) ::
  (nat_lit 204, o204 P) ::
  (nat_lit 206, o206 P) ::
  (nat_lit 207, o207 P) ::
  (nat_lit 209, o209 P) ::
  (nat_lit 210, o210 P) ::
  (nat_lit 211, o211 P) ::
  (nat_lit 213, o213 P) ::
  (nat_lit 214, o214 P) ::
  (nat_lit 216, o216 P) ::
  (nat_lit 217, o217 P) ::
  (nat_lit 218, o218 P) ::
  (nat_lit 221, o221 P) ::
  (nat_lit 222, o222 P) ::
  (nat_lit 223, o223 P) ::
  (nat_lit 225, o225 P) ::
  (nat_lit 226, o226 P) ::
  (nat_lit 228, o228 P) ::
  (nat_lit 229, o229 P) ::
  (nat_lit 230, o230 P) ::
  (nat_lit 232, o232 P) ::
  (nat_lit 233, o233 P) ::
  (nat_lit 235, o235 P) ::
  (nat_lit 236, o236 P) ::
  (nat_lit 237, o237 P) ::
  (nat_lit 239, o239 P) ::
  (nat_lit 240, o240 P) ::
  (nat_lit 242, o242 P) ::
  (nat_lit 243, o243 P) ::
  (nat_lit 244, o244 P) ::
  (nat_lit 247, o247 P) ::
  (nat_lit 248, o248 P) :: []
noncomputable def KA : List Addr := nat_lit 2 :: nat_lit 3 :: nat_lit 15 :: nat_lit 17 :: nat_lit 18 :: nat_lit 20 :: nat_lit 21 :: nat_lit 22 :: nat_lit 25 :: nat_lit 30 :: nat_lit 31 :: nat_lit 32 :: nat_lit 34 :: nat_lit 35 :: nat_lit 37 :: nat_lit 38 :: nat_lit 39 :: nat_lit 41 :: nat_lit 42 :: nat_lit 44 :: nat_lit 45 :: nat_lit 46 :: nat_lit 47 :: nat_lit 49 :: nat_lit 50 :: nat_lit 52 :: nat_lit 53 :: nat_lit 54 :: nat_lit 56 :: nat_lit 57 :: nat_lit 59 :: nat_lit 60 :: nat_lit 61 :: nat_lit 63 :: nat_lit 64 :: nat_lit 66 :: nat_lit 67 :: nat_lit 68 :: nat_lit 70 :: nat_lit 71 :: nat_lit 73 :: nat_lit 74 :: nat_lit 75 :: nat_lit 76 :: nat_lit 78 :: nat_lit 79 :: nat_lit 81 :: nat_lit 82 :: nat_lit 83 :: nat_lit 85 :: nat_lit 86 :: nat_lit 88 :: nat_lit 89 :: nat_lit 90 :: nat_lit 91 :: nat_lit 93 :: nat_lit 94 :: nat_lit 96 :: nat_lit 97 :: nat_lit 98 :: nat_lit 99 :: nat_lit 100 :: nat_lit 101 :: nat_lit 102 :: nat_lit 112 :: nat_lit 116 :: nat_lit 118 :: nat_lit 119 :: nat_lit 121 :: nat_lit 122 :: nat_lit 123 :: nat_lit 162 :: nat_lit 164 :: nat_lit 165 :: nat_lit 167 :: nat_lit 168 :: nat_lit 169 :: nat_lit 171 :: nat_lit 172 :: nat_lit 174 :: nat_lit 175 :: nat_lit 176 :: nat_lit 178 :: nat_lit 179 :: nat_lit 181 :: nat_lit 182 :: nat_lit 183 :: nat_lit 185 :: nat_lit 186 :: nat_lit 188 :: nat_lit 189 :: nat_lit 190 :: nat_lit 192 :: nat_lit 193 :: nat_lit 195 :: nat_lit 196 :: nat_lit 197 :: nat_lit 199 :: nat_lit 200 :: nat_lit 202 :: nat_lit 203 :: nat_lit 204 :: nat_lit 206 :: nat_lit 207 :: nat_lit 209 :: nat_lit 210 :: nat_lit 211 :: nat_lit 213 :: nat_lit 214 :: nat_lit 216 :: nat_lit 217 :: nat_lit 218 :: nat_lit 221 :: nat_lit 222 :: nat_lit 223 :: nat_lit 225 :: nat_lit 226 :: nat_lit 228 :: nat_lit 229 :: nat_lit 230 :: nat_lit 232 :: nat_lit 233 :: nat_lit 235 :: nat_lit 236 :: nat_lit 237 :: nat_lit 239 :: nat_lit 240 :: nat_lit 242 :: nat_lit 243 :: nat_lit 244 :: nat_lit 247 :: nat_lit 248 :: []
noncomputable def qV : Program := { P0 with main := { P0.main with body := [st0, st2, st3, st5, st6, st8, st10, st11, st12, st13, st14, st15, st17, st18, st19, st20, st21, st22] } }
noncomputable def looseV : List Str := [Str.ofString "_Accumulator", Str.ofString "b1_set", Str.ofString "b3_exceptions"]
noncomputable abbrev rowV : RowW := PySem.Challenge.rw_xo0036_01.row.toRowW
theorem h_keys (P : Params) : KA = (KK P).map (·.1) := by kernel_rfl
noncomputable abbrev HK : Hook := kmHook KK KA h_keys [nat_lit 62, nat_lit 69]
noncomputable abbrev XtV : Shared → Bool := fun s => xlAt qV [] s && recOk (RowW.records rowV) s
end Mine
end
noncomputable section
-- HLooks
open PySem PySem.W PyProof.Rows
set_option maxRecDepth 100000
namespace Mine
theorem h_l1 (w : World) (os : OsState) : (staticsOk (importedModules P0.main.body) (boot_heap w.params) (SZ w os).heap && namesBound P0 (SZ w os).heap && gensDone (SZ w os) && laidKept (boot_heap w.params) (SZ w os).heap) = true := by
  kernel_rfl
theorem h_l3 (w : World) (os : OsState) : HK.obs (SZ w os) = HK.val w := by
  kernel_rfl
theorem h_l2 (w : World) (os : OsState) : openSeen qV looseV (importedModules P0.main.body) XtV true (SZ w os) = openGood qV looseV := by
  rw [Fast.te4187177175401517315, Fast.te5923862056798008813]
  kernel_rfl
end Mine
end
noncomputable section
-- HD1
open PySem PySem.W PyProof.Rows
set_option maxRecDepth 100000
namespace Mine
section
variable {p : Program} {w : World} {m₀ : Nat} {an : Option Value} {c : Code} {b : Frame} {B : List Frame}
theorem topRun_step {N : Nat} {s s' : Shared} {t t' : Thread} (ht : through t = false) (hk : stepOk m₀ an t = true) (hs : step (denote treeTable) p w s t = .go s' t') :
    topRun treeTable p w m₀ an (N + 1) s t = topRun treeTable p w m₀ an N s' t' := by
  show (match through t with | true => some s | false => _) = _
  rw [ht]
  show (match stepOk m₀ an t with | false => none | true => _) = _
  rw [hk]
  show (match step (denote treeTable) p w s t with | .go s' t' => _ | .halt _ _ => _) = _
  rw [hs]

/-- the tree t, run at the top's own frame, comes to its value a: at most n steps, from s to s' -/
noncomputable def Adv (p : Program) (w : World) (m₀ : Nat) (an : Option Value) (c : Code) (b : Frame) (B : List Frame) {α : Type} (n : Nat) (s : Shared) (q : Pos) (t : Sem α) (a : α) (s' : Shared) (q' : Pos) : Prop :=
  ∀ (K : α → Sem Fin) (H : Value → Sem Fin) (gd : Bool → Bool) (lv : List Value → List Value) (N : Nat) (r : Shared),
    topRun treeTable p w m₀ an N s' ⟨K a, c, q', b :: B⟩ = some r → topRun treeTable p w m₀ an (N + n) s ⟨t.wrap K H gd lv, c, q, b :: B⟩ = some r
variable {α β : Type} {n n' k : Nat} {s s' s₁ : Shared} {q q' q₁ : Pos} {a : α} {x : β}
end
end Mine
namespace Mine
section
variable {p : Program} {w : World} {m₀ : Nat} {an : Option Value} {c : Code} {b : Frame} {B : List Frame}
variable {α β : Type} {n n' k : Nat} {s s' s₁ : Shared} {q q' q₁ : Pos} {a : α} {x : β} {t : Sem α} {f : α → Sem β}
theorem Adv.le (h : Adv p w m₀ an c b B n s q t a s' q') (hk : n ≤ k) : Adv p w m₀ an c b B k s q t a s' q' := fun K H gd lv N r e => by
  have := topRun_mono (k - n) _ _ _ _ (h K H gd lv N r e)
  rwa [show N + n + (k - n) = N + k by omega] at this
theorem Adv.pure : Adv p w m₀ an c b B 0 s q (pure a : Sem α) a s q := fun _ _ _ _ _ _ e => e
theorem Adv.bind (h : Adv p w m₀ an c b B n s q t a s₁ q₁) (h' : Adv p w m₀ an c b B n' s₁ q₁ (f a) x s' q') : Adv p w m₀ an c b B (n' + n) s q (t >>= f) x s' q' := fun K H gd lv N r e => by
  rw [Sem.bind_eq_wrap', Sem.wrap_wrap, ← Nat.add_assoc]
  exact h _ _ _ _ _ _ (h' K H gd lv N r e)
theorem Adv.keep {vs : List Value} (h : Adv p w m₀ an c b B n s q t a s' q') : Adv p w m₀ an c b B n s q (t.keep vs) a s' q' := fun K H gd lv N r e => by
  rw [Sem.keep_eq_wrap, Sem.wrap_wrap]
  exact h _ _ _ _ _ _ e
theorem Adv.holding {vs : List Value} (h : Adv p w m₀ an c b B n s q t a s' q') : Adv p w m₀ an c b B n s q (holding vs t) a s' q' := by
  unfold PySem.holding
  split
  · exact h
  · exact h.keep
theorem Adv.onRaise {hh : Value → Sem Unit} (h : Adv p w m₀ an c b B n s q t a s' q') : Adv p w m₀ an c b B n s q (t.onRaise hh) a s' q' := fun K H gd lv N r e => by
  rw [Sem.onRaise_eq_wrap, Sem.wrap_wrap]
  exact h _ _ _ _ _ _ e
theorem Adv.tryCatch {hh : Value → Sem α} (h : Adv p w m₀ an c b B n s q t a s' q') : Adv p w m₀ an c b B n s q (t.tryCatch hh) a s' q' := fun K H gd lv N r e => by
  rw [Sem.tryCatch_eq_wrap, Sem.wrap_wrap]
  exact h _ _ _ _ _ _ e
theorem Adv.rule {tag : String} : Adv p w m₀ an c b B 1 s q (rule tag) () s q := fun K H gd lv N r e => by
  obtain ⟨hp, g, d, tk, os⟩ := s
  rw [topRun_step rfl rfl rfl]; exact e
theorem Adv.standAt {q' : Pos} : Adv p w m₀ an c b B 1 s q (standAt q') () s q' := fun K H gd lv N r e => by
  obtain ⟨hp, g, d, tk, os⟩ := s
  rw [topRun_step rfl rfl rfl]; exact e
theorem Adv.point : Adv p w m₀ an c b B 1 s q point () s q := fun K H gd lv N r e => by
  obtain ⟨hp, g, d, tk, os⟩ := s
  rw [topRun_step rfl rfl rfl]; exact e
theorem Adv.fresh : Adv p w m₀ an c b B 1 s q fresh s.toks { s with toks := s.toks + 1 } q := fun K H gd lv N r e => by
  obtain ⟨hp, g, d, tk, os⟩ := s
  rw [topRun_step rfl rfl rfl]; exact e
theorem Adv.ask : Adv p w m₀ an c b B 1 s q ask ⟨p, w.params⟩ s q := fun K H gd lv N r e => by
  obtain ⟨hp, g, d, tk, os⟩ := s
  rw [topRun_step rfl rfl rfl]; exact e
theorem Adv.alloc {o : Obj} : Adv p w m₀ an c b B 1 s q (alloc o) s.heap.objs.size { s with heap := s.heap.push o } q := fun K H gd lv N r e => by
  obtain ⟨hp, g, d, tk, os⟩ := s
  rw [topRun_step rfl rfl rfl]; exact e
theorem Adv.load {l : Addr} {part : Option Value} {o : Obj} (ho : s.heap.get? l = some o) : Adv p w m₀ an c b B 1 s q (loadPart l part) o s q := fun K H gd lv N r e => by
  obtain ⟨hp, g, d, tk, os⟩ := s
  have hs : step (denote treeTable) p w ⟨hp, g, d, tk, os⟩ ⟨.load l part fun x => K x, c, q, b :: B⟩ = .go ⟨hp, g, d, tk, os⟩ ⟨K o, c, q, b :: B⟩ := by
    show (match hp.get? l with | some o => Step.go _ _ | none => _) = _
    rw [show hp.get? l = some o from ho]
  exact (topRun_step (N := N) rfl rfl hs).trans e
theorem Adv.update {l : Addr} {part : Option Value} {g : Obj → Obj} {o : Obj} (ho : s.heap.get? l = some o) (hl : Nat.ble m₀ l = true) : Adv p w m₀ an c b B 1 s q (updatePart l part g) () { s with heap := s.heap.update l g } q := fun K H gd lv N r e => by
  obtain ⟨hp, gs, d, tk, os⟩ := s
  have hs : step (denote treeTable) p w ⟨hp, gs, d, tk, os⟩ ⟨.update l part g fun x => K x, c, q, b :: B⟩ = .go ⟨hp.update l g, gs, d, tk, os⟩ ⟨K (), c, q, b :: B⟩ := by
    show (if (hp.get? l).isSome = true then Step.go _ _ else _) = _
    rw [show hp.get? l = some o from ho]
    rfl
  refine (topRun_step (N := N) rfl ?_ hs).trans e
  show (true && (Nat.ble m₀ l || l == mainNs || l == cStatics || an == some (.ref l))) = true
  rw [hl]; rfl
end
end Mine
end
noncomputable section
-- HD2
open PySem PySem.W PyProof.Rows
set_option maxRecDepth 100000
namespace Mine
theorem sp_hash (i : Int) (t : Tok) : specialOf (.int i t) "__hash__" = pure (some (.builtin "int.__hash__")) := by
  show typeLookup (.type "int") "__hash__" = _
  rw [typeLookup_type, builtinLookup_eq_fast]; kernel_rfl
theorem bs_hash (v : Value) : bindSpecial (.builtin "int.__hash__") v = pure (.builtin "int.__hash__", [v]) := by
  unfold bindSpecial
  rw [show typeOf (.builtin "int.__hash__") = pure (.type "wrapper_descriptor") from by show builtinType _ = _; rw [builtinType_eq_fast]; kernel_rfl]
  rfl
section
variable {p : Program} {w : World} {m₀ : Nat} {an : Option Value} {c : Code} {b : Frame} {B : List Frame}
variable {α β : Type} {n n' k : Nat} {s s' s₁ : Shared} {q q' q₁ : Pos}
noncomputable def hashOf (x : Int) : Int := (let h : Int := x.natAbs % (2 ^ 61 - 1 : Nat); let h := if x < 0 then -h else h; if h == -1 then -2 else h)
theorem hashOf_small {x : Int} (h0 : 0 ≤ x) (h1 : x < 2 ^ 60) : hashOf x = x := by
  unfold hashOf
  have e : ((x.natAbs % (2 ^ 61 - 1 : Nat) : Nat) : Int) = x := by omega
  have e' : (x.natAbs : Int) % ((2 ^ 61 - 1 : Nat) : Int) = x := by omega
  simp only [e']
  have : ¬ x < 0 := by omega
  simp only [this, if_false]
  have : (x == -1) = false := by simp; omega
  simp [this]
theorem adv_hashcall (i : Int) (t : Tok) : Adv p w m₀ an c b B 4 s q (runValue (.call (.builtin "int.__hash__") ⟨[.int i t], []⟩)) (.int (hashOf i) s.toks) { s with toks := s.toks + 1 } q := fun K H gd lv N r e => by
  obtain ⟨hp, g, d, tk, os⟩ := s
  refine Eq.trans ?_ e
  have e1 : step (denote treeTable) p w ⟨hp, g, d, tk, os⟩ ⟨(runValue (.call (.builtin "int.__hash__") ⟨[.int i t], []⟩)).wrap K H gd lv, c, q, b :: B⟩ = .go ⟨hp, g, d, tk, os⟩ _ := rfl
  rw [topRun_step (N := N + 3) rfl rfl e1]
  kernel_rfl
end
end Mine
end
noncomputable section
-- HD3
open PySem PySem.W PyProof.Rows
set_option maxRecDepth 100000
namespace Mine
section
variable {p : Program} {w : World} {m₀ : Nat} {an : Option Value} {c : Code} {b : Frame} {B : List Frame}
variable {α β : Type} {n n' k : Nat} {s s' s₁ : Shared} {q q' q₁ : Pos}
theorem reduced_small {i : Int} (h0 : 0 ≤ i) (h1 : i < 2 ^ 60) : pyHashByItsType.reduced i = pure i := by
  unfold pyHashByItsType.reduced
  have e1 : (decide (-(2 ^ 63 : Int) ≤ i) && decide (i < 2 ^ 63)) = true := by
    rw [Bool.and_eq_true_iff]; exact ⟨decide_eq_true (by omega), decide_eq_true (by omega)⟩
  have e2 : (i == -1) = false := by rw [beq_eq_false_iff_ne]; omega
  rw [if_pos e1, e2]
  rfl
theorem bind_if (i : Int) (t : Tok) : bindSpecialIfBound? (.int i t) "__hash__" = (do
    let g ← ask
    if g.params.followText "special-get-raises" then pure (some (.builtin "int.__hash__", [.int i t])) else pure (some (.builtin "int.__hash__", [.int i t]))) := by
  unfold bindSpecialIfBound?
  simp only [sp_hash, pure_bind, bs_hash]
  rfl
theorem adv_pyHash {i : Int} {t : Tok} (h0 : 0 ≤ i) (h1 : i < 2 ^ 60) : Adv p w m₀ an c b B 5 s q (pyHash (.int i t)) i { s with toks := s.toks + 1 } q := by
  show Adv p w m₀ an c b B 5 s q (pyHashByItsType (.int i t)) i { s with toks := s.toks + 1 } q
  have hc := adv_hashcall (p := p) (w := w) (m₀ := m₀) (an := an) (c := c) (b := b) (B := B) (s := s) (q := q) i t
  unfold pyHashByItsType callSpecialIfBoundUnlessNone?
  simp only [sp_hash, pure_bind, bind_if, cRoomFor, List.any_cons, List.any_nil, Value.onHeap, Bool.or_false, Bool.false_eq_true, if_false, Option.isNone_some]
  rw [if_neg (by decide +kernel)]
  refine Adv.bind (n' := 0) (n := 5) (s₁ := { s with toks := s.toks + 1 }) (q₁ := q) (a := some (Value.int (hashOf i) s.toks)) (Adv.holding (Adv.bind (n' := 4) (n := 1) (a := some (Value.builtin "int.__hash__", [Value.int i t])) (s₁ := s) (q₁ := q) ?_ ?_)) ?_
  · refine Adv.bind (n' := 0) (n := 1) Adv.ask ?_
    rw [ite_self]
    exact Adv.pure
  · dsimp only
    rw [if_neg (by decide +kernel)]
    exact Adv.bind (n' := 0) (n := 4) hc Adv.pure
  · dsimp only
    rw [hashOf_small h0 h1, reduced_small h0 h1]
    exact Adv.pure
end
end Mine
end
noncomputable section
-- HD4
open PySem PySem.W PyProof.Rows
set_option maxRecDepth 100000
namespace Mine
noncomputable def ext (H : Heap) (l : List Obj) : Heap := ⟨H.objs ++ l.toArray, H.life⟩
theorem ext_nil (H : Heap) : ext H [] = H := by obtain ⟨o, l⟩ := H; simp [ext]
theorem ext_push (H : Heap) (l : List Obj) (o : Obj) : (ext H l).push o = ext H (l ++ [o]) := by
  show Heap.mk ((H.objs ++ l.toArray).push o) H.life = Heap.mk _ _
  congr 1
  apply Array.ext'
  simp
theorem ext_size (H : Heap) (l : List Obj) : (ext H l).objs.size = H.objs.size + l.length := by simp [ext]
theorem ext_update (H : Heap) (l r : List Obj) (o : Obj) (f : Obj → Obj) : (ext H (l ++ o :: r)).update (H.objs.size + l.length) f = ext H (l ++ f o :: r) := by
  show Heap.mk ((H.objs ++ (l ++ o :: r).toArray).modify (H.objs.size + l.length) f) H.life = Heap.mk _ _
  congr 1
  apply Array.ext_getElem?
  intro i
  rw [Array.getElem?_modify]
  simp only [Array.getElem?_append, List.getElem?_toArray, List.getElem?_append]
  by_cases h1 : i < H.objs.size
  · simp only [h1, if_true]
    rw [if_neg (by omega)]
  · simp only [h1, if_false]
    by_cases h2 : i - H.objs.size < l.length
    · simp only [h2, if_true]
      rw [if_neg (by omega)]
    · simp only [h2, if_false]
      by_cases h3 : H.objs.size + l.length = i
      · subst h3
        simp
      · rw [if_neg h3]
        have : i - H.objs.size - l.length = (i - H.objs.size - l.length - 1) + 1 := by omega
        rw [this]; simp
theorem ext_get (H : Heap) (l r : List Obj) (o : Obj) (hf : o.isFreed = false) : (ext H (l ++ o :: r)).get? (H.objs.size + l.length) = some o := by
  have e : (ext H (l ++ o :: r)).objs[H.objs.size + l.length]? = some o := by
    simp [ext, Array.getElem?_append]
  unfold Heap.get?
  rw [e]
  obtain ⟨c, d, dt, sl⟩ := o
  cases dt <;> first | rfl | cases hf
theorem places_nil {es : List DictEntry} {h : Int} (hn : ∀ e ∈ es, e.hash ≠ h) : placesWithHash es.toArray.size (fun i => es.toArray[i]?.map (·.hash)) h = [] := by
  unfold placesWithHash
  rw [List.filter_eq_nil_iff]
  intro i _ q
  rw [beq_iff_eq] at q
  obtain ⟨e, he, hh⟩ := Option.map_eq_some_iff.mp q
  rw [List.getElem?_toArray] at he
  exact hn e (List.mem_of_getElem? he) hh
/-- a state whose heap is H and the objects l behind it -/
noncomputable abbrev XS (H : Heap) (l : List Obj) (g : Array GenState) (dr : Drawn) (tk : Nat) (os : OsState) : Shared := ⟨ext H l, g, dr, tk, os⟩
section
variable {p : Program} {w : World} {m₀ : Nat} {an : Option Value} {c : Code} {b : Frame} {B : List Frame}
variable {α β : Type} {n n' k : Nat} {s s' s₁ : Shared} {q q' q₁ : Pos}
variable {H : Heap} {l r : List Obj} {g : Array GenState} {dr : Drawn} {tk : Nat} {os : OsState}
theorem adv_entries {d : Addr} {part : Option Value} {es : List DictEntry} {m : Nat} (hd : d = H.objs.size + l.length) : Adv p w m₀ an c b B 1 (XS H (l ++ dictO es m :: r) g dr tk os) q (dictEntries d part) es.toArray (XS H (l ++ dictO es m :: r) g dr tk os) q := by
  subst hd
  unfold dictEntries
  exact Adv.bind (n' := 0) (n := 1) (Adv.load (ext_get H l r _ rfl)) Adv.pure
theorem adv_epoch {d : Addr} {part : Option Value} {es : List DictEntry} {m : Nat} (hd : d = H.objs.size + l.length) : Adv p w m₀ an c b B 1 (XS H (l ++ dictO es m :: r) g dr tk os) q (dictEpoch d part) m (XS H (l ++ dictO es m :: r) g dr tk os) q := by
  subst hd
  unfold dictEpoch
  exact Adv.bind (n' := 0) (n := 1) (Adv.load (ext_get H l r _ rfl)) Adv.pure
theorem adv_find {d : Addr} {i h : Int} {t : Tok} {es : List DictEntry} {m : Nat} (hd : d = H.objs.size + l.length) (hn : ∀ e ∈ es, e.hash ≠ h) :
    Adv p w m₀ an c b B 1 (XS H (l ++ dictO es m :: r) g dr tk os) q (dictFind d (.int i t) h) none (XS H (l ++ dictO es m :: r) g dr tk os) q := by
  unfold dictFind
  refine Adv.holding (Adv.bind (n' := 0) (n := 1) (adv_entries hd) ?_)
  dsimp only
  rw [places_nil hn]
  exact Adv.pure
theorem adv_push {d : Addr} {part : Option Value} {e : DictEntry} {es : List DictEntry} {m : Nat} (hd : d = H.objs.size + l.length) (hl : Nat.ble m₀ d = true) (hz : es.length < 1000) :
    Adv p w m₀ an c b B 3 (XS H (l ++ dictO es m :: r) g dr tk os) q (updateDictKeys d (·.push e) part) () (XS H (l ++ dictO (es ++ [e]) (m + 1) :: r) g dr tk os) q := by
  subst hd
  have hu : (ext H (l ++ dictO es m :: r)).update (H.objs.size + l.length) (Obj.mapDictKeys fun x => x.push e) = ext H (l ++ dictO (es ++ [e]) (m + 1) :: r) := by
    rw [ext_update]
    show ext H (l ++ ⟨_, _, .dict (es.toArray.push e) (m + 1), _⟩ :: r) = _
    rw [List.push_toArray]
  unfold updateDictKeys
  refine Adv.bind (n' := 2) (n := 1) (Adv.load (ext_get H l r _ rfl)) ?_
  dsimp only
  have u := Adv.update (p := p) (w := w) (m₀ := m₀) (an := an) (c := c) (b := b) (B := B) (s := XS H (l ++ dictO es m :: r) g dr tk os) (q := q) (part := part) (g := Obj.mapDictKeys fun x => x.push e) (ext_get H l r (dictO es m) rfl) hl
  refine Adv.bind (n' := 1) (n := 1) u ?_
  rw [hu]
  unfold lookBehind
  refine Adv.bind (n' := 0) (n := 1) (Adv.load (ext_get H l r _ rfl)) ?_
  have : (dictO (es ++ [e]) (m + 1)).data.pastItsLine = none := pastItsLine_dict (by simp only [List.size_toArray, List.length_append, List.length_cons, List.length_nil]; unfold sizeLine; omega)
  rw [this]
  exact Adv.pure
end
end Mine
end
noncomputable section
-- HD5
open PySem PySem.W PyProof.Rows
set_option maxRecDepth 100000
namespace Mine
section
variable {p : Program} {w : World} {m₀ : Nat} {an : Option Value} {c : Code} {b : Frame} {B : List Frame}
variable {α β : Type} {n n' k : Nat} {s s' s₁ : Shared} {q q' q₁ : Pos}
variable {H : Heap} {l r : List Obj} {g : Array GenState} {dr : Drawn} {tk : Nat} {os : OsState}
theorem adv_setHashed {d : Addr} {i h : Int} {t : Tok} {v : Value} {es : List DictEntry} {m : Nat} (hd : d = H.objs.size + l.length) (hl : Nat.ble m₀ d = true) (hz : es.length < 1000) (hn : ∀ e ∈ es, e.hash ≠ h) :
    Adv p w m₀ an c b B 5 (XS H (l ++ dictO es m :: r) g dr tk os) q (dictSetHashed d (.int i t) h v) () (XS H (l ++ dictO (es ++ [⟨h, .int i t, v⟩]) (m + 1) :: r) g dr tk os) q := by
  unfold dictSetHashed
  refine Adv.holding (Adv.bind (n' := 4) (n := 1) (adv_find hd hn) ?_)
  dsimp only
  exact Adv.bind (n' := 3) (n := 1) Adv.rule (adv_push hd hl hz)
theorem adv_set {d : Addr} {i : Int} {t : Tok} {v : Value} {es : List DictEntry} {m : Nat} (hd : d = H.objs.size + l.length) (hl : Nat.ble m₀ d = true) (hz : es.length < 1000) (hn : ∀ e ∈ es, e.hash ≠ i) (h0 : 0 ≤ i) (h1 : i < 2 ^ 60) :
    Adv p w m₀ an c b B 10 (XS H (l ++ dictO es m :: r) g dr tk os) q (dictSet d (.int i t) v) () (XS H (l ++ dictO (es ++ [⟨i, .int i t, v⟩]) (m + 1) :: r) g dr (tk + 1) os) q := by
  unfold dictSet
  exact Adv.holding (Adv.bind (n' := 5) (n := 5) (adv_pyHash h0 h1) (adv_setHashed hd hl hz hn))
theorem adv_put {d : Addr} {i h : Int} {t : Tok} {v : Value} {es : List DictEntry} {m : Nat} (hd : d = H.objs.size + l.length) (hl : Nat.ble m₀ d = true) (hz : es.length < 1000) (hn : ∀ e ∈ es, e.hash ≠ h) :
    Adv p w m₀ an c b B 4 (XS H (l ++ dictO es m :: r) g dr tk os) q (dictPut d h (.int i t) v) () (XS H (l ++ dictO (es ++ [⟨h, .int i t, v⟩]) (m + 1) :: r) g dr tk os) q := by
  unfold dictPut
  refine Adv.bind (n' := 3) (n := 1) (adv_find hd hn) ?_
  exact adv_push hd hl hz
noncomputable def prs (dp : Pos) (kv : List (Int × Str)) : List (Sem Value × Sem Value) := kv.map fun x => (mkInt x.1, mkText x.2 >>= fun y => standAt dp >>= fun _ => pure y)
theorem adv_int {i : Int} : Adv p w m₀ an c b B 1 (XS H l g dr tk os) q (mkInt i) (.int i tk) (XS H l g dr (tk + 1) os) q := Adv.bind (n' := 0) (n := 1) Adv.fresh Adv.pure
theorem adv_val {x : Str} {dp : Pos} : Adv p w m₀ an c b B 2 (XS H l g dr tk os) q (mkText x >>= fun y => standAt dp >>= fun _ => pure y) (.str x tk) (XS H l g dr (tk + 1) os) dp :=
  Adv.bind (n' := 1) (n := 1) (Adv.bind (n' := 0) (n := 1) Adv.fresh Adv.pure) (Adv.bind (n' := 0) (n := 1) Adv.standAt Adv.pure)

noncomputable def Asc : Int → List (Int × Str) → Prop
  | _, [] => True
  | lo, x :: r => lo < x.1 ∧ x.1 < 2 ^ 60 ∧ Asc x.1 r
noncomputable def UpTo (lo : Int) (es : List DictEntry) : Prop := ∀ e ∈ es, e.hash ≤ lo
theorem UpTo.ne {lo : Int} {es : List DictEntry} (h : UpTo lo es) {k : Int} (hk : lo < k) : ∀ e ∈ es, e.hash ≠ k := fun e he q => by have := h e he; omega
theorem UpTo.push {lo k : Int} {es : List DictEntry} {key v : Value} (h : UpTo lo es) (hk : lo < k) : UpTo k (es ++ [⟨k, key, v⟩]) := fun e he => by
  rcases List.mem_append.mp he with q | q
  · have := h e q; omega
  · obtain rfl := List.mem_singleton.mp q; exact Int.le_refl _
theorem adv_subLoop {dp : Pos} {d : Addr} (hd : d = H.objs.size + l.length) (hl : Nat.ble m₀ d = true) : ∀ (kv : List (Int × Str)) (lo : Int) (es : List DictEntry) (m tk : Nat) (q : Pos), 0 ≤ lo → UpTo lo es → Asc lo kv → es.length + kv.length < 1000 →
    ∃ q', Adv p w m₀ an c b B (20 * kv.length) (XS H (l ++ dictO es m :: r) g dr tk os) q (forIn (prs dp kv) PUnit.unit fun x (__s : PUnit) =>
                    match x with
                    | (k, v) => do
                      let kv ← k
                      let vv ← holding [kv] v
                      holding [kv, vv] (dictSet d kv vv)
                      pure (ForInStep.yield PUnit.unit)) PUnit.unit (XS H (l ++ dictO (es ++ entL tk kv) (m + kv.length) :: r) g dr (tk + 3 * kv.length) os) q'
  | [], lo, es, m, tk, q, _, _, _, _ => ⟨q, by
      rw [show entL tk [] = [] from rfl, List.append_nil]
      exact Adv.pure⟩
  | x :: kv, lo, es, m, tk, q, h0, hu, ha, hz => by
    obtain ⟨a1, a2, a3⟩ := ha
    have hz' : es.length + (kv.length + 1) < 1000 := hz
    obtain ⟨q', ih⟩ := adv_subLoop hd hl kv x.1 (es ++ [⟨x.1, .int x.1 tk, .str x.2 (tk + 1)⟩]) (m + 1) (tk + 3) dp (by omega) (hu.push a1) a3 (by rw [List.length_append]; simp only [List.length_cons, List.length_nil]; omega)
    refine ⟨q', ?_⟩
    show Adv _ _ _ _ _ _ _ (20 * (kv.length + 1)) _ _ (forIn ((mkInt x.1, mkText x.2 >>= fun y => standAt dp >>= fun _ => pure y) :: prs dp kv) PUnit.unit _) _ _ _
    rw [List.forIn_cons]
    rw [show 20 * (kv.length + 1) = 20 * kv.length + 20 by omega]
    refine Adv.bind (n' := 20 * kv.length) (n := 20) (a := ForInStep.yield PUnit.unit) (s₁ := XS H (l ++ dictO (es ++ [⟨x.1, .int x.1 tk, .str x.2 (tk + 1)⟩]) (m + 1) :: r) g dr (tk + 3) os) (q₁ := dp) ?_ ?_
    · dsimp only
      refine Adv.le (n := 13) ?_ (by omega)
      refine Adv.bind (n' := 12) (n := 1) adv_int ?_
      refine Adv.bind (n' := 10) (n := 2) (Adv.holding adv_val) ?_
      refine Adv.bind (n' := 0) (n := 10) (Adv.holding (adv_set hd hl (by omega) (hu.ne a1) (by omega) a2)) ?_
      exact Adv.pure
    · dsimp only
      have e1 : es ++ [⟨x.1, .int x.1 tk, .str x.2 (tk + 1)⟩] ++ entL (tk + 3) kv = es ++ entL tk (x :: kv) := by
        rw [List.append_assoc]; rfl
      have e2 : m + 1 + kv.length = m + (x :: kv).length := by simp only [List.length_cons]; omega
      have e3 : tk + 3 + 3 * kv.length = tk + 3 * (x :: kv).length := by simp only [List.length_cons]; omega
      rw [e1, e2, e3] at ih
      exact ih
theorem adv_subLong {dp : Pos} {kv : List (Int × Str)} {lo : Int} (h17 : kv.length = 17) (h0 : 0 ≤ lo) (ha : Asc lo kv) (hm : Nat.ble m₀ (H.objs.size + l.length) = true) :
    ∃ q', Adv p w m₀ an c b B 400 (XS H l g dr tk os) q (subDict (prs dp kv)) (H.objs.size + l.length) (XS H (l ++ [dictO (entL tk kv) 17]) g dr (tk + 51) os) q' := by
  unfold subDict
  have hn : ¬ (prs dp kv).length ≤ 15 := by unfold prs; rw [List.length_map]; omega
  simp only [hn, if_false]
  obtain ⟨q', h⟩ := adv_subLoop (p := p) (w := w) (m₀ := m₀) (an := an) (c := c) (b := b) (B := B) (H := H) (l := l) (r := []) (g := g) (dr := dr) (os := os) (dp := dp) (d := H.objs.size + l.length) rfl hm kv lo [] 0 tk q h0 (fun e he => nomatch he) ha (by simp only [List.length_nil]; omega)
  refine ⟨q', ?_⟩
  rw [h17, List.nil_append, Nat.zero_add] at h
  refine Adv.le (n := 342) ?_ (by omega)
  refine Adv.bind (n' := 341) (n := 1) Adv.alloc ?_
  show Adv _ _ _ _ _ _ _ 341 ⟨(ext H l).push (dictO [] 0), g, dr, tk, os⟩ q _ _ _ _
  rw [ext_push, ext_size]
  refine Adv.bind (n' := 0) (n := 341) (Adv.holding (Adv.bind (n' := 340) (n := 1) Adv.rule (Adv.bind (n' := 0) (n := 340) h Adv.pure))) Adv.pure
end
end Mine
end
noncomputable section
-- HD6
open PySem PySem.W PyProof.Rows
set_option maxRecDepth 100000
namespace Mine
noncomputable def valS : Nat → List (Int × Str) → List (Value × Value)
  | _, [] => []
  | t, x :: r => (.int x.1 t, .str x.2 (t + 1)) :: valS (t + 2) r
section
variable {p : Program} {w : World} {m₀ : Nat} {an : Option Value} {c : Code} {b : Frame} {B : List Frame}
variable {α β : Type} {n n' k : Nat} {s s' s₁ : Shared} {q q' q₁ : Pos}
variable {H : Heap} {l r : List Obj} {g : Array GenState} {dr : Drawn} {tk : Nat} {os : OsState}
theorem adv_pairs {dp : Pos} : ∀ (kv : List (Int × Str)) (tk : Nat) (q : Pos), ∃ q', Adv p w m₀ an c b B (3 * kv.length) (XS H l g dr tk os) q (evalPairs (prs dp kv)) (valS tk kv) (XS H l g dr (tk + 2 * kv.length) os) q'
  | [], tk, q => ⟨q, Adv.pure⟩
  | x :: kv, tk, q => by
    obtain ⟨q', ih⟩ := adv_pairs (dp := dp) kv (tk + 2) dp
    refine ⟨q', ?_⟩
    rw [show 3 * (x :: kv).length = 0 + 3 * kv.length + 2 + 1 by simp only [List.length_cons]; omega, show tk + 2 * (x :: kv).length = tk + 2 + 2 * kv.length by simp only [List.length_cons]; omega]
    exact Adv.bind adv_int (Adv.bind (n := 2) (Adv.holding adv_val) (Adv.bind (Adv.holding ih) Adv.pure))
theorem adv_setLoop {d : Addr} (hd : d = H.objs.size + l.length) (hl : Nat.ble m₀ d = true) : ∀ (kv : List (Int × Str)) (lo : Int) (es : List DictEntry) (m t tk : Nat) (q : Pos), 0 ≤ lo → UpTo lo es → Asc lo kv → es.length + kv.length < 1000 →
    Adv p w m₀ an c b B (10 * kv.length) (XS H (l ++ dictO es m :: r) g dr tk os) q (forIn (valS t kv) PUnit.unit fun x (__s : PUnit) =>
                    match x with
                    | (k, v) => do
                      dictSet d k v
                      pure (ForInStep.yield PUnit.unit)) PUnit.unit (XS H (l ++ dictO (es ++ entS t kv) (m + kv.length) :: r) g dr (tk + kv.length) os) q
  | [], lo, es, m, t, tk, q, _, _, _, _ => by
      rw [show entS t [] = [] from rfl, List.append_nil]
      exact Adv.pure
  | x :: kv, lo, es, m, t, tk, q, h0, hu, ha, hz => by
    obtain ⟨a1, a2, a3⟩ := ha
    have hz' : es.length + (kv.length + 1) < 1000 := hz
    have ih := adv_setLoop hd hl kv x.1 (es ++ [⟨x.1, .int x.1 t, .str x.2 (t + 1)⟩]) (m + 1) (t + 2) (tk + 1) q (by omega) (hu.push a1) a3 (by rw [List.length_append]; simp only [List.length_cons, List.length_nil]; omega)
    rw [show valS t (x :: kv) = (.int x.1 t, .str x.2 (t + 1)) :: valS (t + 2) kv from rfl, List.forIn_cons]
    rw [show 10 * (x :: kv).length = 10 * kv.length + 10 by simp only [List.length_cons]; omega]
    refine Adv.bind (n' := 10 * kv.length) (n := 10) (a := ForInStep.yield PUnit.unit) (Adv.bind (n' := 0) (n := 10) (adv_set hd hl (by omega) (hu.ne a1) (by omega) a2) Adv.pure) ?_
    dsimp only
    have e1 : es ++ [⟨x.1, .int x.1 t, .str x.2 (t + 1)⟩] ++ entS (t + 2) kv = es ++ entS t (x :: kv) := by rw [List.append_assoc]; rfl
    have e2 : m + 1 + kv.length = m + (x :: kv).length := by simp only [List.length_cons]; omega
    have e3 : tk + 1 + kv.length = tk + (x :: kv).length := by simp only [List.length_cons]; omega
    rw [e1, e2, e3] at ih
    exact ih
theorem adv_subShort {dp : Pos} {kv : List (Int × Str)} {lo : Int} (h15 : kv.length ≤ 15) (h0 : 0 ≤ lo) (ha : Asc lo kv) (hm : Nat.ble m₀ (H.objs.size + l.length) = true) :
    ∃ q', Adv p w m₀ an c b B 400 (XS H l g dr tk os) q (subDict (prs dp kv)) (H.objs.size + l.length) (XS H (l ++ [dictO (entS tk kv) kv.length]) g dr (tk + 3 * kv.length) os) q' := by
  unfold subDict
  have hn : (prs dp kv).length ≤ 15 := by unfold prs; rw [List.length_map]; omega
  simp only [hn, if_true]
  obtain ⟨q', h⟩ := adv_pairs (p := p) (w := w) (m₀ := m₀) (an := an) (c := c) (b := b) (B := B) (H := H) (l := l ++ [dictO [] 0]) (g := g) (dr := dr) (os := os) (dp := dp) kv tk q
  have h2 := adv_setLoop (p := p) (w := w) (m₀ := m₀) (an := an) (c := c) (b := b) (B := B) (H := H) (l := l) (r := []) (g := g) (dr := dr) (os := os) (d := H.objs.size + l.length) rfl hm kv lo [] 0 tk (tk + 2 * kv.length) q' h0 (fun e he => nomatch he) ha (by simp only [List.length_nil]; omega)
  refine ⟨q', ?_⟩
  rw [List.nil_append, Nat.zero_add, show tk + 2 * kv.length + kv.length = tk + 3 * kv.length by omega] at h2
  refine Adv.le (n := 10 * kv.length + 3 * kv.length + 1) ?_ (by omega)
  refine Adv.bind (n := 1) Adv.alloc ?_
  show Adv _ _ _ _ _ _ _ _ ⟨(ext H l).push (dictO [] 0), g, dr, tk, os⟩ q _ _ _ _
  rw [ext_push, ext_size]
  refine Adv.le (n := 0 + (10 * kv.length + 3 * kv.length)) ?_ (by omega)
  refine Adv.bind (n' := 0) (n := 10 * kv.length + 3 * kv.length) (a := ()) (s₁ := XS H (l ++ [dictO (entS tk kv) kv.length]) g dr (tk + 3 * kv.length) os) (q₁ := q') (Adv.holding (Adv.bind h ?_)) Adv.pure
  exact Adv.holding (Adv.le (n := 0 + 10 * kv.length) (k := 10 * kv.length) (Adv.bind (n' := 0) (n := 10 * kv.length) h2 Adv.pure) (by omega))
theorem look_iter : typeLookup (.type "dict") "__iter__" = pure (some (.builtin "dict.__iter__")) := by rw [typeLookup_type, builtinLookup_eq_fast]; kernel_rfl

noncomputable def AscE : Int → List DictEntry → Prop
  | _, [] => True
  | lo, e :: r => lo < e.hash ∧ (∃ t, e.key = .int e.hash t) ∧ AscE e.hash r
noncomputable def mbody (d a : Addr) (epoch : Nat) (i : Nat) (__s : PUnit) : Sem (ForInStep PUnit) := do
                  let __do_lift ← dictEntries a
                  match __do_lift[i]? with
                    | some e => do
                      holding [e.key, e.val]
                          (have __do_jp := fun (__r : Unit) => dictPut d e.hash e.key e.val;
                          if false = true then do
                            let __do_lift ← dictFind d e.key e.hash
                            if __do_lift.isSome = true then do
                                rule "dict.merge.duplicate-key"
                                let __do_lift ← newExc (Value.type "KeyError") [e.key]
                                let __r ← raiseNew __do_lift
                                __do_jp __r
                              else __do_jp ()
                          else __do_jp ())
                      let __do_lift ← dictEpoch a
                      if (__do_lift != epoch) = true then do
                          (unsupported "dict.changed-during-merge" : Sem Unit)
                          pure (ForInStep.yield PUnit.unit)
                        else pure (ForInStep.yield PUnit.unit)
                    | _ => do
                      (unsupported "dict.changed-during-merge" : Sem Unit)
                      pure (ForInStep.yield PUnit.unit)
theorem adv_mergeLoop {mid : List Obj} {es : List DictEntry} {mf : Nat} {d a : Addr} (hd : d = H.objs.size) (ha : a = H.objs.size + (mid.length + 1)) (hl : Nat.ble m₀ d = true) : ∀ (post pre : List DictEntry) (lo : Int) (m : Nat), UpTo lo (es ++ pre) → AscE lo post → es.length + pre.length + post.length < 1000 →
    Adv p w m₀ an c b B (6 * post.length) (XS H (dictO (es ++ pre) m :: (mid ++ [dictO (pre ++ post) mf])) g dr tk os) q (forIn (List.range' pre.length post.length) PUnit.unit (mbody d a mf)) PUnit.unit
      (XS H (dictO (es ++ (pre ++ post)) (m + post.length) :: (mid ++ [dictO (pre ++ post) mf])) g dr tk os) q
  | [], pre, lo, m, _, _, _ => by
    rw [List.append_nil]
    exact Adv.pure
  | e :: post, pre, lo, m, hu, hs, hz => by
    obtain ⟨a1, ⟨t, a2⟩, a3⟩ := hs
    obtain ⟨h, key, v⟩ := e
    dsimp only at a1 a2 a3
    subst a2
    have hz' : es.length + pre.length + (post.length + 1) < 1000 := hz
    have hu' : UpTo h (es ++ (pre ++ [⟨h, .int h t, v⟩])) := by
      rw [← List.append_assoc]; exact hu.push a1
    have ih := adv_mergeLoop (es := es) (mid := mid) (mf := mf) hd ha hl post (pre ++ [⟨h, .int h t, v⟩]) h (m + 1) hu' a3 (by rw [List.length_append]; simp only [List.length_cons, List.length_nil]; omega)
    rw [show pre ++ [(⟨h, .int h t, v⟩ : DictEntry)] ++ post = pre ++ ⟨h, .int h t, v⟩ :: post by rw [List.append_assoc]; rfl, List.length_append, show m + 1 + post.length = m + (post.length + 1) by omega] at ih
    rw [show List.range' pre.length (⟨h, .int h t, v⟩ :: post : List DictEntry).length = pre.length :: List.range' (pre.length + 1) post.length from rfl, List.forIn_cons]
    rw [show 6 * (⟨h, .int h t, v⟩ :: post : List DictEntry).length = 6 * post.length + 6 by simp only [List.length_cons]; omega]
    refine Adv.bind (n' := 6 * post.length) (n := 6) (a := ForInStep.yield PUnit.unit) (s₁ := XS H (dictO (es ++ (pre ++ [⟨h, .int h t, v⟩])) (m + 1) :: (mid ++ [dictO (pre ++ ⟨h, .int h t, v⟩ :: post) mf])) g dr tk os) (q₁ := q) ?_ ih
    unfold mbody
    have esub : ∀ (x : List DictEntry) (mm : Nat), Adv p w m₀ an c b B 1 (XS H (dictO x mm :: (mid ++ [dictO (pre ++ ⟨h, .int h t, v⟩ :: post) mf])) g dr tk os) q (dictEntries a) (pre ++ ⟨h, .int h t, v⟩ :: post).toArray (XS H (dictO x mm :: (mid ++ [dictO (pre ++ ⟨h, .int h t, v⟩ :: post) mf])) g dr tk os) q := fun x mm =>
      adv_entries (l := dictO x mm :: mid) (r := []) (by rw [ha]; simp only [List.length_cons])
    have eep : ∀ (x : List DictEntry) (mm : Nat), Adv p w m₀ an c b B 1 (XS H (dictO x mm :: (mid ++ [dictO (pre ++ ⟨h, .int h t, v⟩ :: post) mf])) g dr tk os) q (dictEpoch a) mf (XS H (dictO x mm :: (mid ++ [dictO (pre ++ ⟨h, .int h t, v⟩ :: post) mf])) g dr tk os) q := fun x mm =>
      adv_epoch (l := dictO x mm :: mid) (r := []) (by rw [ha]; simp only [List.length_cons])
    refine Adv.bind (n' := 5) (n := 1) (esub _ _) ?_
    rw [List.getElem?_toArray, List.getElem?_append_right (Nat.le_refl _), Nat.sub_self, List.getElem?_cons_zero]
    dsimp only
    simp only [Bool.false_eq_true, if_false]
    refine Adv.bind (n' := 1) (n := 4) (Adv.holding (adv_put (l := []) (by rw [hd]; rfl) hl (by rw [List.length_append]; omega) (hu.ne a1))) ?_
    rw [List.append_assoc]
    refine Adv.bind (n' := 0) (n := 1) (eep _ _) ?_
    rw [show (mf != mf) = false by simp]
    exact Adv.pure
theorem adv_merge {mid : List Obj} {es fs : List DictEntry} {m mf : Nat} {d a : Addr} {lo : Int} (hd : d = H.objs.size) (ha : a = H.objs.size + (mid.length + 1)) (hl : Nat.ble m₀ d = true) (hH : 2 ≤ H.objs.size)
    (hu : UpTo lo es) (hs : AscE lo fs) (hz : es.length + fs.length < 1000) (hne : es ≠ []) : 
    Adv p w m₀ an c b B (6 * fs.length + 10) (XS H (dictO es m :: (mid ++ [dictO fs mf])) g dr tk os) q (mergeMapping d (.ref a) false) () (XS H (dictO (es ++ fs) (m + fs.length) :: (mid ++ [dictO fs mf])) g dr tk os) q := by
  have hget : (ext H (dictO es m :: (mid ++ [dictO fs mf]))).get? a = some (dictO fs mf) := by
    have := ext_get H (dictO es m :: mid) [] (dictO fs mf) rfl
    rw [ha]; exact this
  have ty : Adv p w m₀ an c b B 1 (XS H (dictO es m :: (mid ++ [dictO fs mf])) g dr tk os) q (typeOf (.ref a)) (.type "dict") (XS H (dictO es m :: (mid ++ [dictO fs mf])) g dr tk os) q :=
    Adv.bind (n' := 0) (n := 1) (Adv.load hget) Adv.pure
  have hlp := adv_mergeLoop (p := p) (w := w) (m₀ := m₀) (an := an) (c := c) (b := b) (B := B) (H := H) (g := g) (dr := dr) (tk := tk) (os := os) (q := q) (es := es) (mid := mid) (mf := mf) hd ha hl fs [] lo m (by rw [List.append_nil]; exact hu) hs (by simp only [List.length_nil]; omega)
  rw [List.append_nil, List.nil_append, List.length_nil, ← List.range_eq_range'] at hlp
  refine Adv.le (n := 6 * fs.length + 5) ?_ (by omega)
  unfold mergeMapping
  refine Adv.bind (n' := 6 * fs.length + 4) (n := 1) (a := true) (s₁ := XS H (dictO es m :: (mid ++ [dictO fs mf])) g dr tk os) (q₁ := q) ?_ ?_
  · unfold isInstance
    refine Adv.bind (n' := 0) (n := 1) ty ?_
    rw [PySem.F.sub_dict_dict]; exact Adv.pure
  · dsimp only
    rw [if_pos rfl]
    refine Adv.bind (n' := 6 * fs.length + 3) (n := 1) (a := some (Value.builtin "dict.__iter__")) (s₁ := XS H (dictO es m :: (mid ++ [dictO fs mf])) g dr tk os) (q₁ := q) ?_ ?_
    · unfold specialOf
      refine Adv.bind (n' := 0) (n := 1) ty ?_
      rw [look_iter]; exact Adv.pure
    · rw [show ((some (Value.builtin "dict.__iter__")) == some (Value.builtin "dict.__iter__")) = true by decide +kernel]
      refine Adv.bind (n' := 6 * fs.length + 3) (n := 0) Adv.pure ?_
      dsimp only
      rw [if_neg (by show ¬ (a == sysModules) = true; rw [beq_iff_eq, ha]; intro h; have h' : H.objs.size + (mid.length + 1) = 1 := h; omega)]
      refine Adv.bind (n' := 6 * fs.length + 2) (n := 1) (adv_entries (l := []) (by rw [hd]; rfl)) ?_
      rw [if_neg (by simp [hne])]
      refine Adv.bind (n' := 6 * fs.length + 1) (n := 1) (adv_entries (l := dictO es m :: mid) (r := []) (by rw [ha]; simp only [List.length_cons])) ?_
      refine Adv.bind (n' := 6 * fs.length) (n := 1) (adv_epoch (l := dictO es m :: mid) (r := []) (by rw [ha]; simp only [List.length_cons])) ?_
      rw [List.size_toArray]
      exact Adv.le (n := 0 + 6 * fs.length) (Adv.bind (n' := 0) (n := 6 * fs.length) hlp Adv.pure) (by omega)
end
end Mine
end
noncomputable section
-- HD7
open PySem PySem.W PyProof.Rows
set_option maxRecDepth 100000
namespace Mine
noncomputable def its (dp : Pos) (kv : List (Int × Str)) : List (Option (Sem Value) × Sem Value) := kv.map fun x => (some (mkInt x.1), mkText x.2 >>= fun y => standAt dp >>= fun _ => pure y)
noncomputable abbrev Pr := List (Sem Value × Sem Value)
noncomputable def flushD (run : Pr) (main : Option Addr) : Sem (Option Addr) :=
      if run.isEmpty = true then pure main
      else
        match main with
        | none => do
          let __do_lift ← subDict run
          pure (some __do_lift)
        | some d => do
          let sub ← holding [Value.ref d] (subDict run)
          (holding [Value.ref d, Value.ref sub] (mergeMapping d (Value.ref sub) false)).onRaise fun x => do
              let _ ← holding [Value.ref d, x] (runValue (Code.builtin "proto.let_go" { }))
              pure ()
          pure (some d)
noncomputable abbrev Bd := (Option (Sem Value) × Sem Value) → (Option Addr × Pr) → Sem (ForInStep (Option Addr × Pr))
noncomputable def BdOk (bd : Bd) : Prop := ∀ k v main run, bd (some k, v) (main, run) = if ((run ++ [(k, v)]).length == 17) = true then flushD (run ++ [(k, v)]) main >>= fun m => pure (.yield (m, [])) else pure (.yield (main, run ++ [(k, v)]))
theorem chunk_eq {bd : Bd} (hb : BdOk bd) (dp : Pos) (rest : List (Option (Sem Value) × Sem Value)) (main : Option Addr) : ∀ (kv : List (Int × Str)) (run : Pr), kv ≠ [] → run.length + kv.length = 17 →
    forIn (its dp kv ++ rest) (main, run) bd = flushD (run ++ prs dp kv) main >>= fun m => forIn rest (m, []) bd
  | [], _, h, _ => absurd rfl h
  | x :: kv, run, _, hz => by
    have hz' : run.length + (kv.length + 1) = 17 := hz
    show forIn ((some (mkInt x.1), _) :: (its dp kv ++ rest)) (main, run) bd = _
    rw [List.forIn_cons, hb]
    cases kv with
    | nil =>
      rw [if_pos (by rw [List.length_append]; simp only [List.length_cons, List.length_nil]; rw [beq_iff_eq]; simp only [List.length_nil] at hz'; omega), bind_assoc]
      simp only [pure_bind]
      rfl
    | cons y kv =>
      rw [if_neg (by rw [List.length_append]; simp only [List.length_cons, List.length_nil]; rw [beq_iff_eq]; simp only [List.length_cons] at hz'; omega)]
      simp only [pure_bind]
      rw [chunk_eq hb dp rest main (y :: kv) _ (by simp) (by rw [List.length_append]; simp only [List.length_cons, List.length_nil] at hz' ⊢; omega), List.append_assoc]
      rfl
theorem tail_eq {bd : Bd} (hb : BdOk bd) (dp : Pos) (main : Option Addr) : ∀ (kv : List (Int × Str)) (run : Pr), run.length + kv.length < 17 → forIn (its dp kv) (main, run) bd = pure (main, run ++ prs dp kv)
  | [], run, _ => by rw [show prs dp [] = [] from rfl, List.append_nil]; rfl
  | x :: kv, run, hz => by
    have hz' : run.length + (kv.length + 1) < 17 := hz
    show forIn ((some (mkInt x.1), _) :: its dp kv) (main, run) bd = _
    rw [List.forIn_cons, hb, if_neg (by rw [List.length_append]; simp only [List.length_cons, List.length_nil]; rw [beq_iff_eq]; omega)]
    simp only [pure_bind]
    rw [tail_eq hb dp main kv _ (by rw [List.length_append]; simp only [List.length_cons, List.length_nil]; omega), List.append_assoc]
    rfl
noncomputable def hi : Int → List (Int × Str) → Int
  | lo, [] => lo
  | _, x :: r => hi x.1 r
theorem asc_app : ∀ {a b : List (Int × Str)} {lo : Int}, Asc lo (a ++ b) → Asc lo a ∧ Asc (hi lo a) b
  | [], _, _, h => ⟨trivial, h⟩
  | _ :: _, _, _, ⟨h1, h2, h3⟩ => ⟨⟨h1, h2, (asc_app h3).1⟩, (asc_app h3).2⟩
theorem hi_le : ∀ {a : List (Int × Str)} {lo : Int}, Asc lo a → lo ≤ hi lo a
  | [], _, _ => Int.le_refl _
  | _ :: _, _, ⟨h1, _, h3⟩ => by have := hi_le h3; unfold hi; omega
theorem UpTo.le {lo k : Int} {es : List DictEntry} (h : UpTo lo es) (hk : lo ≤ k) : UpTo k es := fun e he => by have := h e he; omega
theorem UpTo.app {lo : Int} {es fs : List DictEntry} (h : UpTo lo es) (h' : UpTo lo fs) : UpTo lo (es ++ fs) := fun e he => (List.mem_append.mp he).elim (h e) (h' e)
theorem upTo_L : ∀ {kv : List (Int × Str)} {lo : Int} {tk : Nat}, Asc lo kv → UpTo (hi lo kv) (entL tk kv)
  | [], _, _, _ => fun _ he => nomatch he
  | x :: r, lo, tk, ⟨h1, h2, h3⟩ => fun e he => by
    rcases List.mem_cons.mp he with rfl | he
    · exact hi_le h3
    · exact upTo_L h3 e he
theorem ascE_L : ∀ {kv : List (Int × Str)} {lo : Int} {tk : Nat}, Asc lo kv → AscE lo (entL tk kv)
  | [], _, _, _ => trivial
  | _ :: _, _, _, ⟨h1, _, h3⟩ => ⟨h1, ⟨_, rfl⟩, ascE_L h3⟩
theorem ascE_S : ∀ {kv : List (Int × Str)} {lo : Int} {tk : Nat}, Asc lo kv → AscE lo (entS tk kv)
  | [], _, _, _ => trivial
  | _ :: _, _, _, ⟨h1, _, h3⟩ => ⟨h1, ⟨_, rfl⟩, ascE_S h3⟩
theorem len_L : ∀ {kv : List (Int × Str)} {tk : Nat}, (entL tk kv).length = kv.length
  | [], _ => rfl
  | _ :: _, _ => congrArg (· + 1) len_L
theorem len_S : ∀ {kv : List (Int × Str)} {tk : Nat}, (entS tk kv).length = kv.length
  | [], _ => rfl
  | _ :: _, _ => congrArg (· + 1) len_S
noncomputable def subsOf : Nat → List (List (Int × Str)) → List Obj
  | _, [] => []
  | tk, ch :: r => dictO (entL tk ch) 17 :: subsOf (tk + 51) r
noncomputable def esOf : Nat → List (List (Int × Str)) → List DictEntry
  | _, [] => []
  | tk, ch :: r => entL tk ch ++ esOf (tk + 51) r
theorem prs_ne {dp : Pos} {kv : List (Int × Str)} (h : kv ≠ []) : (prs dp kv).isEmpty = false := by cases kv with | nil => exact absurd rfl h | cons => rfl
section
variable {p : Program} {w : World} {m₀ : Nat} {an : Option Value} {c : Code} {b : Frame} {B : List Frame}
variable {α β : Type} {n n' k : Nat} {s s' s₁ : Shared} {q q' q₁ : Pos}
variable {H : Heap} {l r : List Obj} {g : Array GenState} {dr : Drawn} {tk : Nat} {os : OsState}
theorem adv_flush1 {dp : Pos} {kv : List (Int × Str)} {lo : Int} (h17 : kv.length = 17) (h0 : 0 ≤ lo) (ha : Asc lo kv) (hm : Nat.ble m₀ H.objs.size = true) :
    ∃ q', Adv p w m₀ an c b B 400 (XS H [] g dr tk os) q (flushD (prs dp kv) none) (some H.objs.size) (XS H [dictO (entL tk kv) 17] g dr (tk + 51) os) q' := by
  obtain ⟨q', h⟩ := adv_subLong (p := p) (w := w) (m₀ := m₀) (an := an) (c := c) (b := b) (B := B) (H := H) (l := []) (g := g) (dr := dr) (tk := tk) (os := os) (q := q) (dp := dp) h17 h0 ha hm
  refine ⟨q', ?_⟩
  unfold flushD
  rw [prs_ne (by intro e; subst e; cases h17)]
  exact Adv.bind (n' := 0) (n := 400) h Adv.pure
theorem adv_flushL {dp : Pos} {kv : List (Int × Str)} {lo : Int} {mid : List Obj} {es : List DictEntry} {m : Nat} (h17 : kv.length = 17) (h0 : 0 ≤ lo) (ha : Asc lo kv) (hm : Nat.ble m₀ H.objs.size = true) (hH : 2 ≤ H.objs.size) (hu : UpTo lo es) (hz : es.length + 17 < 1000) (hne : es ≠ []) :
    ∃ q', Adv p w m₀ an c b B 600 (XS H (dictO es m :: mid) g dr tk os) q (flushD (prs dp kv) (some H.objs.size)) (some H.objs.size) (XS H (dictO (es ++ entL tk kv) (m + 17) :: (mid ++ [dictO (entL tk kv) 17])) g dr (tk + 51) os) q' := by
  have hm' : Nat.ble m₀ (H.objs.size + (dictO es m :: mid).length) = true := Nat.ble_eq_true_of_le (by have := Nat.le_of_ble_eq_true hm; omega)
  obtain ⟨q', h⟩ := adv_subLong (p := p) (w := w) (m₀ := m₀) (an := an) (c := c) (b := b) (B := B) (H := H) (l := dictO es m :: mid) (g := g) (dr := dr) (tk := tk) (os := os) (q := q) (dp := dp) h17 h0 ha hm'
  have h2 := adv_merge (p := p) (w := w) (m₀ := m₀) (an := an) (c := c) (b := b) (B := B) (H := H) (g := g) (dr := dr) (tk := tk + 51) (os := os) (q := q') (mid := mid) (es := es) (fs := entL tk kv) (m := m) (mf := 17) (lo := lo) rfl rfl hm hH hu (ascE_L ha) (by rw [len_L, h17]; exact hz) hne
  rw [len_L, h17] at h2
  refine ⟨q', ?_⟩
  unfold flushD
  rw [prs_ne (by intro e; subst e; cases h17)]
  dsimp only
  refine Adv.le (n := 0 + (6 * 17 + 10) + 400) ?_ (by omega)
  rw [if_neg Bool.false_ne_true]
  exact Adv.bind (n' := 0 + (6 * 17 + 10)) (n := 400) (Adv.holding h) (Adv.bind (n' := 0) (n := 6 * 17 + 10) (Adv.onRaise (Adv.holding h2)) Adv.pure)
theorem adv_flushS {dp : Pos} {kv : List (Int × Str)} {lo : Int} {mid : List Obj} {es : List DictEntry} {m : Nat} (h15 : kv.length ≤ 15) (hk : kv ≠ []) (h0 : 0 ≤ lo) (ha : Asc lo kv) (hm : Nat.ble m₀ H.objs.size = true) (hH : 2 ≤ H.objs.size) (hu : UpTo lo es) (hz : es.length + 17 < 1000) (hne : es ≠ []) :
    ∃ q', Adv p w m₀ an c b B 600 (XS H (dictO es m :: mid) g dr tk os) q (flushD (prs dp kv) (some H.objs.size)) (some H.objs.size) (XS H (dictO (es ++ entS tk kv) (m + kv.length) :: (mid ++ [dictO (entS tk kv) kv.length])) g dr (tk + 3 * kv.length) os) q' := by
  have hm' : Nat.ble m₀ (H.objs.size + (dictO es m :: mid).length) = true := Nat.ble_eq_true_of_le (by have := Nat.le_of_ble_eq_true hm; omega)
  obtain ⟨q', h⟩ := adv_subShort (p := p) (w := w) (m₀ := m₀) (an := an) (c := c) (b := b) (B := B) (H := H) (l := dictO es m :: mid) (g := g) (dr := dr) (tk := tk) (os := os) (q := q) (dp := dp) h15 h0 ha hm'
  have h2 := adv_merge (p := p) (w := w) (m₀ := m₀) (an := an) (c := c) (b := b) (B := B) (H := H) (g := g) (dr := dr) (tk := tk + 3 * kv.length) (os := os) (q := q') (mid := mid) (es := es) (fs := entS tk kv) (m := m) (mf := kv.length) (lo := lo) rfl rfl hm hH hu (ascE_S ha) (by rw [len_S]; omega) hne
  rw [len_S] at h2
  refine ⟨q', ?_⟩
  unfold flushD
  rw [prs_ne hk]
  dsimp only
  refine Adv.le (n := 0 + (6 * kv.length + 10) + 400) ?_ (by omega)
  rw [if_neg Bool.false_ne_true]
  exact Adv.bind (n' := 0 + (6 * kv.length + 10)) (n := 400) (Adv.holding h) (Adv.bind (n' := 0) (n := 6 * kv.length + 10) (Adv.onRaise (Adv.holding h2)) Adv.pure)
end
end Mine
end
noncomputable section
-- HD8
open PySem PySem.W PyProof.Rows
set_option maxRecDepth 100000
namespace Mine
theorem its_app (dp : Pos) (a b : List (Int × Str)) : its dp (a ++ b) = its dp a ++ its dp b := by unfold its; exact List.map_append
section
variable {p : Program} {w : World} {m₀ : Nat} {an : Option Value} {c : Code} {b : Frame} {B : List Frame}
variable {α β : Type} {n n' k : Nat} {s s' s₁ : Shared} {q q' q₁ : Pos}
variable {H : Heap} {l r : List Obj} {g : Array GenState} {dr : Drawn} {tk : Nat} {os : OsState}
theorem adv_chunks {bd : Bd} (hb : BdOk bd) {dp : Pos} {tl : List (Int × Str)} {fin : Option Addr × Pr → Sem Value} (hm : Nat.ble m₀ H.objs.size = true) (hH : 2 ≤ H.objs.size) (htl : tl.length ≤ 15) (htl0 : tl ≠ [])
    (hfin : ∀ st, fin st = flushD st.2 st.1 >>= fun x => match x with | some d => pure (.ref d) | none => newDict) :
    ∀ (cs : List (List (Int × Str))) (lo : Int) (tk : Nat) (mid : List Obj) (es : List DictEntry) (m : Nat) (q : Pos), (∀ ch ∈ cs, ch.length = 17) → 0 ≤ lo → UpTo lo es → Asc lo (cs.flatten ++ tl) → es.length + 17 * cs.length + 17 < 1000 → es ≠ [] →
    ∃ q', Adv p w m₀ an c b B (700 * cs.length + 700) (XS H (dictO es m :: mid) g dr tk os) q (forIn (its dp (cs.flatten ++ tl)) (some H.objs.size, []) bd >>= fin) (.ref H.objs.size)
      (XS H (dictO (es ++ (esOf tk cs ++ entS (tk + 51 * cs.length) tl)) (m + 17 * cs.length + tl.length) :: (mid ++ (subsOf tk cs ++ [dictO (entS (tk + 51 * cs.length) tl) tl.length]))) g dr (tk + 51 * cs.length + 3 * tl.length) os) q'
  | [], lo, tk, mid, es, m, q, _, h0, hu, ha, hz, hne => by
    obtain ⟨q', h⟩ := adv_flushS (p := p) (w := w) (m₀ := m₀) (an := an) (c := c) (b := b) (B := B) (H := H) (g := g) (dr := dr) (tk := tk) (os := os) (q := q) (dp := dp) (kv := tl) (mid := mid) (m := m) htl htl0 h0 ha hm hH hu (by simp only [List.length_nil] at hz; omega) hne
    refine ⟨q', ?_⟩
    show Adv _ _ _ _ _ _ _ _ _ _ (forIn (its dp tl) (some H.objs.size, []) bd >>= fin) _ _ _
    rw [tail_eq hb dp _ tl [] (by simp only [List.length_nil]; omega), pure_bind, hfin]
    exact Adv.le (n := 0 + 600) (Adv.bind h Adv.pure) (by omega)
  | ch :: cs, lo, tk, mid, es, m, q, hl, h0, hu, ha, hz, hne => by
    have hz' : es.length + 17 * (cs.length + 1) + 17 < 1000 := hz
    have h17 : ch.length = 17 := hl ch (.head _)
    rw [List.flatten_cons, List.append_assoc] at ha
    obtain ⟨ha1, ha2⟩ := asc_app ha
    have hlo := hi_le ha1
    obtain ⟨q₁, h⟩ := adv_flushL (p := p) (w := w) (m₀ := m₀) (an := an) (c := c) (b := b) (B := B) (H := H) (g := g) (dr := dr) (tk := tk) (os := os) (q := q) (dp := dp) (kv := ch) (mid := mid) (m := m) h17 h0 ha1 hm hH hu (by omega) hne
    obtain ⟨q', ih⟩ := adv_chunks hb (dp := dp) (tl := tl) (fin := fin) hm hH htl htl0 hfin cs (hi lo ch) (tk + 51) (mid ++ [dictO (entL tk ch) 17]) (es ++ entL tk ch) (m + 17) q₁ (fun x hx => hl x (.tail _ hx)) (by omega) ((hu.le hlo).app (upTo_L ha1)) ha2 (by rw [List.length_append, len_L]; omega) (by simp [hne])
    refine ⟨q', ?_⟩
    rw [List.flatten_cons, List.append_assoc, its_app, chunk_eq hb dp _ _ ch [] (by intro e; subst e; cases h17) (by simp only [List.length_nil]; omega), bind_assoc, List.nil_append]
    have e1 : tk + 51 + 51 * cs.length = tk + 51 * (ch :: cs).length := by simp only [List.length_cons]; omega
    have e2 : m + 17 + 17 * cs.length + tl.length = m + 17 * (ch :: cs).length + tl.length := by simp only [List.length_cons]; omega
    have e3 : (es ++ entL tk ch) ++ (esOf (tk + 51) cs ++ entS (tk + 51 * (ch :: cs).length) tl) = es ++ (esOf tk (ch :: cs) ++ entS (tk + 51 * (ch :: cs).length) tl) := by
      rw [show esOf tk (ch :: cs) = entL tk ch ++ esOf (tk + 51) cs from rfl]; simp only [List.append_assoc]
    have e4 : (mid ++ [dictO (entL tk ch) 17]) ++ (subsOf (tk + 51) cs ++ [dictO (entS (tk + 51 * (ch :: cs).length) tl) tl.length]) = mid ++ (subsOf tk (ch :: cs) ++ [dictO (entS (tk + 51 * (ch :: cs).length) tl) tl.length]) := by
      rw [show subsOf tk (ch :: cs) = dictO (entL tk ch) 17 :: subsOf (tk + 51) cs from rfl]; simp only [List.append_assoc, List.cons_append, List.nil_append]
    rw [e1, e2, e3, e4] at ih
    refine Adv.le (n := 700 * cs.length + 700 + 600) (Adv.bind h ih) (by simp only [List.length_cons]; omega)
theorem adv_disp {dp : Pos} {c0 tl : List (Int × Str)} {cs : List (List (Int × Str))} {lo : Int} (hm : Nat.ble m₀ H.objs.size = true) (hH : 2 ≤ H.objs.size) (h17 : c0.length = 17) (hl : ∀ ch ∈ cs, ch.length = 17) (htl : tl.length ≤ 15) (htl0 : tl ≠ [])
    (h0 : 0 ≤ lo) (ha : Asc lo (c0 ++ (cs.flatten ++ tl))) (hz : 17 * cs.length + 34 < 1000) :
    ∃ q', Adv p w m₀ an c b B (700 * cs.length + 1100) (XS H [] g dr tk os) q (dictDisplay (its dp (c0 ++ (cs.flatten ++ tl)))) (.ref H.objs.size)
      (XS H (dictO (entL tk c0 ++ (esOf (tk + 51) cs ++ entS (tk + 51 + 51 * cs.length) tl)) (17 + 17 * cs.length + tl.length) :: (subsOf (tk + 51) cs ++ [dictO (entS (tk + 51 + 51 * cs.length) tl) tl.length])) g dr (tk + 51 + 51 * cs.length + 3 * tl.length) os) q' := by
  obtain ⟨ha1, ha2⟩ := asc_app ha
  have hlo := hi_le ha1
  have hne : entL tk c0 ≠ [] := by cases c0 with | nil => cases h17 | cons => intro e; cases e
  obtain ⟨q₁, h⟩ := adv_flush1 (p := p) (w := w) (m₀ := m₀) (an := an) (c := c) (b := b) (B := B) (H := H) (g := g) (dr := dr) (tk := tk) (os := os) (q := q) (dp := dp) (kv := c0) h17 h0 ha1 hm
  have key : ∀ {bd : Bd} (hb : BdOk bd) {fin : Option Addr × Pr → Sem Value} (hfin : ∀ st, fin st = flushD st.2 st.1 >>= fun x => match x with | some d => pure (.ref d) | none => newDict), 
      ∃ q', Adv p w m₀ an c b B (700 * cs.length + 1100) (XS H [] g dr tk os) q (forIn (its dp (c0 ++ (cs.flatten ++ tl))) (none, []) bd >>= fin) (.ref H.objs.size)
      (XS H (dictO (entL tk c0 ++ (esOf (tk + 51) cs ++ entS (tk + 51 + 51 * cs.length) tl)) (17 + 17 * cs.length + tl.length) :: (subsOf (tk + 51) cs ++ [dictO (entS (tk + 51 + 51 * cs.length) tl) tl.length])) g dr (tk + 51 + 51 * cs.length + 3 * tl.length) os) q' := by
    intro bd hb fin hfin
    obtain ⟨q', ih⟩ := adv_chunks (p := p) (w := w) (m₀ := m₀) (an := an) (c := c) (b := b) (B := B) (H := H) (g := g) (dr := dr) (os := os) hb (dp := dp) (tl := tl) (fin := fin) hm hH htl htl0 hfin cs (hi lo c0) (tk + 51) [] (entL tk c0) 17 q₁ hl (by omega) (upTo_L ha1) ha2 (by rw [len_L]; omega) hne
    refine ⟨q', ?_⟩
    rw [its_app, chunk_eq hb dp _ _ c0 [] (by intro e; subst e; cases h17) (by simp only [List.length_nil]; omega), bind_assoc, List.nil_append]
    exact Adv.le (n := 700 * cs.length + 700 + 400) (Adv.bind h ih) (by omega)
  unfold dictDisplay
  exact key (fun _ _ _ _ => rfl) (fun _ => rfl)
end
end Mine
end
noncomputable section
-- HD9
open PySem PySem.W PyProof.Rows
set_option maxRecDepth 100000
namespace Mine
noncomputable def tree7m (P : Params) : BT := .node (boot_o_0 P) (.node (boot_o_1 P) (.node (o3_6 P) (.node (boot_o_7 P) (.node (o15 P) (.node (o31 P) (.node (o63 P) (.node (o127 P) (.nil) (.nil)) (.nil)) (.node (o95 P) (.node (o159 P) (.nil) (.nil)) (.nil))) (.node (o47 P) (.node (o79 P) (.node (o143 P) (.nil) (.nil)) (.nil)) (.node (o111 P) (.nil) (.nil)))) (.node (o23 P) (.node (o39 P) (.node (o71 P) (.node (o135 P) (.nil) (.nil)) (.nil)) (.node (o103 P) (.nil) (.nil))) (.node (o55 P) (.node (o87 P) (.node (o151 P) (.nil) (.nil)) (.nil)) (.node (o119 P) (.nil) (.nil))))) (.node (o11 P) (.node (o19 P) (.node (o35 P) (.node (o67 P) (.node (o131 P) (.nil) (.nil)) (.nil)) (.node (o99 P) (.nil) (.nil))) (.node (o51 P) (.node (o83 P) (.node (o147 P) (.nil) (.nil)) (.nil)) (.node (o115 P) (.nil) (.nil)))) (.node (o27 P) (.node (o43 P) (.node (o75 P) (.node (o139 P) (.nil) (.nil)) (.nil)) (.node (o107 P) (.nil) (.nil))) (.node (o59 P) (.node (o91 P) (.node (o155 P) (.nil) (.nil)) (.nil)) (.node (o123 P) (.nil) (.nil)))))) (.node (boot_o_5 P) (.node (boot_o_9 P) (.node (o17 P) (.node (o33 P) (.node (o65 P) (.node (o129 P) (.nil) (.nil)) (.nil)) (.node (o97 P) (.node (o161 P) (.nil) (.nil)) (.nil))) (.node (o49 P) (.node (o81 P) (.node (o145 P) (.nil) (.nil)) (.nil)) (.node (o113 P) (.nil) (.nil)))) (.node (o25 P) (.node (o41 P) (.node (o73 P) (.node (o137 P) (.nil) (.nil)) (.nil)) (.node (o105 P) (.nil) (.nil))) (.node (o57 P) (.node (o89 P) (.node (o153 P) (.nil) (.nil)) (.nil)) (.node (o121 P) (.nil) (.nil))))) (.node (o13 P) (.node (o21 P) (.node (o37 P) (.node (o69 P) (.node (o133 P) (.nil) (.nil)) (.nil)) (.node (o101 P) (.nil) (.nil))) (.node (o53 P) (.node (o85 P) (.node (o149 P) (.nil) (.nil)) (.nil)) (.node (o117 P) (.nil) (.nil)))) (.node (o29 P) (.node (o45 P) (.node (o77 P) (.node (o141 P) (.nil) (.nil)) (.nil)) (.node (o109 P) (.nil) (.nil))) (.node (o61 P) (.node (o93 P) (.node (o157 P) (.nil) (.nil)) (.nil)) (.node (o125 P) (.nil) (.nil))))))) (.node (boot_o_2 P) (.node (boot_o_4 P) (.node (boot_o_8 P) (.node (o16 P) (.node (o32 P) (.node (o64 P) (.node (o128 P) (.nil) (.nil)) (.nil)) (.node (o96 P) (.node (o160 P) (.nil) (.nil)) (.nil))) (.node (o48 P) (.node (o80 P) (.node (o144 P) (.nil) (.nil)) (.nil)) (.node (o112 P) (.nil) (.nil)))) (.node (o24 P) (.node (o40 P) (.node (o72 P) (.node (o136 P) (.nil) (.nil)) (.nil)) (.node (o104 P) (.nil) (.nil))) (.node (o56 P) (.node (o88 P) (.node (o152 P) (.nil) (.nil)) (.nil)) (.node (o120 P) (.nil) (.nil))))) (.node (o12_6 P) (.node (o20 P) (.node (o36 P) (.node (o68 P) (.node (o132 P) (.nil) (.nil)) (.nil)) (.node (o100 P) (.nil) (.nil))) (.node (o52 P) (.node (o84 P) (.node (o148 P) (.nil) (.nil)) (.nil)) (.node (o116 P) (.nil) (.nil)))) (.node (o28 P) (.node (o44 P) (.node (o76 P) (.node (o140 P) (.nil) (.nil)) (.nil)) (.node (o108 P) (.nil) (.nil))) (.node (o60 P) (.node (o92 P) (.node (o156 P) (.nil) (.nil)) (.nil)) (.node (o124 P) (.nil) (.nil)))))) (.node (boot_o_6 P) (.node (boot_o_10 P) (.node (o18 P) (.node (o34 P) (.node (o66 P) (.node (o130 P) (.nil) (.nil)) (.nil)) (.node (o98 P) (.nil) (.nil))) (.node (o50 P) (.node (o82 P) (.node (o146 P) (.nil) (.nil)) (.nil)) (.node (o114 P) (.nil) (.nil)))) (.node (o26 P) (.node (o42 P) (.node (o74 P) (.node (o138 P) (.nil) (.nil)) (.nil)) (.node (o106 P) (.nil) (.nil))) (.node (o58 P) (.node (o90 P) (.node (o154 P) (.nil) (.nil)) (.nil)) (.node (o122 P) (.nil) (.nil))))) (.node (o14 P) (.node (o22 P) (.node (o38 P) (.node (o70 P) (.node (o134 P) (.nil) (.nil)) (.nil)) (.node (o102 P) (.nil) (.nil))) (.node (o54 P) (.node (o86 P) (.node (o150 P) (.nil) (.nil)) (.nil)) (.node (o118 P) (.nil) (.nil)))) (.node (o30 P) (.node (o46 P) (.node (o78 P) (.node (o142 P) (.nil) (.nil)) (.nil)) (.node (o110 P) (.nil) (.nil))) (.node (o62 P) (.node (o94 P) (.node (o158 P) (.nil) (.nil)) (.nil)) (.node (o126 P) (.nil) (.nil)))))))
noncomputable def isKI : Option Expr → Bool
  | some (.Constant (.int _) _ _) => true
  | _ => false
noncomputable def isVS : Expr → Bool
  | .Constant (.str _) _ _ => true
  | _ => false
theorem isKI_of {o : Option Expr} (h : isKI o = true) : ∃ k a b, o = some (.Constant (.int k) a b) := by
  unfold isKI at h
  split at h
  · exact ⟨_, _, _, rfl⟩
  · cases h
theorem isVS_of {e : Expr} (h : isVS e = true) : ∃ x a b, e = .Constant (.str x) a b := by
  unfold isVS at h
  split at h
  · exact ⟨_, _, _, rfl⟩
  · cases h
noncomputable def okKV : List (Option Expr) → List Expr → Bool
  | [], [] => true
  | o :: ks, e :: vs => (isKI o && isVS e) && okKV ks vs
  | _, _ => false
theorem zip_its (env : Env) (dp : Pos) : ∀ (ks : List (Option Expr)) (vs : List Expr), okKV ks vs = true →
    (evalEachOpt ks env).zip ((evalEach vs env).map fun v => do let x ← v; standAt dp; pure x) = its dp (kvE ks vs)
  | [], [], _ => rfl
  | [], _ :: _, h => by cases h
  | _ :: _, [], h => by cases h
  | o :: ks, e :: vs, h => by
    have h : ((isKI o && isVS e) && okKV ks vs) = true := h
    rw [Bool.and_eq_true, Bool.and_eq_true] at h
    obtain ⟨⟨h1, h2⟩, h3⟩ := h
    obtain ⟨k, _, _, rfl⟩ := isKI_of h1
    obtain ⟨x, _, _, rfl⟩ := isVS_of h2
    have ih := zip_its env dp ks vs h3
    show (some (mkInt k), (mkText x >>= fun y => standAt dp >>= fun _ => pure y)) :: ((evalEachOpt ks env).zip ((evalEach vs env).map fun v => do let x ← v; standAt dp; pure x)) = _
    rw [ih]
    rfl
noncomputable def dKeys : Stmt → List (Option Expr) | .Assign _ (.Dict ks _ _) _ => ks | _ => []
noncomputable def dVals : Stmt → List Expr | .Assign _ (.Dict _ vs _) _ => vs | _ => []
noncomputable def dPos : Stmt → Pos | .Assign _ (.Dict _ _ q) _ => q | _ => default
noncomputable def aPos : Stmt → Pos | .Assign _ _ q => q | _ => default
noncomputable def aTar : Stmt → Expr | .Assign (t :: _) _ _ => t | _ => .Constant .none 0 default
noncomputable def restT (v : Value) : Sem Flow := do assignAll v [assign (aTar st7) envE]; pure .next
theorem ex7 : exec st7 envE = (standAt (aPos st7) >>= fun _ => (standAt (dPos st7) >>= fun _ => dictDisplay (its (dPos st7) kvs)) >>= fun v => restT v) := by
  have h : exec st7 envE = (standAt (aPos st7) >>= fun _ => (standAt (dPos st7) >>= fun _ => dictDisplay ((evalEachOpt (dKeys st7) envE).zip ((evalEach (dVals st7) envE).map fun v => do let x ← v; standAt (dPos st7); pure x))) >>= fun v => restT v) := by
    kernel_rfl
  rw [h, zip_its envE (dPos st7) (dKeys st7) (dVals st7) (by decide +kernel)]
  have e : kvE (dKeys st7) (dVals st7) = kvs := by kernel_rfl
  rw [e]
end Mine
end
noncomputable section
-- HD10
open PySem PySem.W PyProof.Rows
set_option maxRecDepth 100000
namespace Mine
noncomputable def c0 : List (Int × Str) := kvs.take 17
noncomputable def cs7 : List (List (Int × Str)) := (List.range 37).map fun j => chunk (j + 1)
noncomputable def tl7 : List (Int × Str) := kvs.drop 646
noncomputable def ascB : Int → List (Int × Str) → Bool
  | _, [] => true
  | lo, x :: r => decide (lo < x.1) && decide (x.1 < 2 ^ 60) && ascB x.1 r
theorem asc_of : ∀ {l : List (Int × Str)} {lo : Int}, ascB lo l = true → Asc lo l
  | [], _, _ => trivial
  | _ :: _, _, h => by
    unfold ascB at h
    simp only [Bool.and_eq_true, decide_eq_true_eq] at h
    exact ⟨h.1.1, h.1.2, asc_of h.2⟩
theorem kv_split : kvs = c0 ++ (cs7.flatten ++ tl7) := by kernel_rfl
theorem asc7 : Asc 0 (c0 ++ (cs7.flatten ++ tl7)) := by
  rw [← kv_split]
  exact asc_of (by decide +kernel)
theorem heap_eq (P : Params) : ext (absHeap (tree6 P) 123 {}) (dictO (entL 362 c0 ++ (esOf 413 cs7 ++ entS 2300 tl7)) 650 :: (subsOf 413 cs7 ++ [dictO (entS 2300 tl7) 4])) = absHeap (tree7m P) 162 {} := by
  kernel_rfl
noncomputable abbrev posX : Pos := ⟨44, 0, 44, 13⟩
theorem rest7 (w : World) (os : OsState) (q' : Pos) : Adv P0 w 11 an0 cE (topFrame default) [] 30 (ST tree7m 162 2312 w os).abs q' (restT (.ref 123)) .next (ST tree7 162 2313 w os).abs posX := by
  refine Adv.le (n := 7) ?_ (by omega)
  intro K H gd lv N r e
  refine Eq.trans ?_ e
  kernel_rfl
end Mine
end
noncomputable section
-- HD11
open PySem PySem.W PyProof.Rows
set_option maxRecDepth 100000
namespace Mine
theorem pc7 (w : World) (os : OsState) : ∀ (K : Flow → Sem Fin) (H : Value → Sem Fin) (N : Nat) (r : Shared),
    topRun treeTable P0 w 11 an0 N (ST tree7 162 2313 w os).abs ⟨K .next, cE, posX, B0⟩ = some r →
    topRun treeTable P0 w 11 an0 (N + 40000) (ST tree6 123 362 w os).abs ⟨(exec st7 envE).wrap K H id id, cE, ⟨42, 0, 43, 30⟩, B0⟩ = some r := by
  have hsz : (absHeap (tree6 w.params) 123 {}).objs.size = 123 := absHeap_size _ _ _
  have hl : ∀ ch ∈ cs7, ch.length = 17 := by decide +kernel
  have htl : tl7.length = 4 := by decide +kernel
  obtain ⟨q', h⟩ := adv_disp (p := P0) (w := w) (m₀ := 11) (an := an0) (c := cE) (b := topFrame default) (B := []) (H := absHeap (tree6 w.params) 123 {}) (g := #[]) (dr := {}) (tk := 362) (os := os) (q := dPos st7) (dp := dPos st7) (c0 := c0) (tl := tl7) (cs := cs7) (lo := 0)
    (by rw [hsz]; decide) (by rw [hsz]; decide) (by decide +kernel) hl (by rw [htl]; decide) (by decide +kernel) (Int.le_refl 0) asc7 (by decide +kernel)
  rw [← kv_split, htl, show cs7.length = 37 from by decide +kernel, hsz] at h
  unfold XS at h
  rw [ext_nil] at h
  have e : ext (absHeap (tree6 w.params) 123 {}) (dictO (entL 362 c0 ++ (esOf (362 + 51) cs7 ++ entS (362 + 51 + 51 * 37) tl7)) (17 + 17 * 37 + 4) :: (subsOf (362 + 51) cs7 ++ [dictO (entS (362 + 51 + 51 * 37) tl7) 4])) = absHeap (tree7m w.params) 162 {} := heap_eq w.params
  rw [e] at h
  have hr := rest7 w os q'
  have A : Adv P0 w 11 an0 cE (topFrame default) [] 40000 (ST tree6 123 362 w os).abs ⟨42, 0, 43, 30⟩ (exec st7 envE) .next (ST tree7 162 2313 w os).abs posX := by
    rw [ex7]
    exact Adv.le (n := 30 + (700 * 37 + 1100 + 1) + 1) (Adv.bind (n' := 30 + (700 * 37 + 1100 + 1)) (n := 1) Adv.standAt (Adv.bind (n' := 30) (n := 700 * 37 + 1100 + 1) (Adv.bind (n' := 700 * 37 + 1100) (n := 1) Adv.standAt h) hr)) (by decide)
  intro K H N r hN
  exact A K H id id N r hN
end Mine
end
noncomputable section
-- HHead
open PySem PySem.W PyProof.Rows
set_option maxRecDepth 100000
namespace Mine
theorem bE_eq : bE = [st0, st1, st2] ++ ([st3] ++ ([st4] ++ ([st5] ++ ([st6] ++ (st7 :: ([st8, st9, st10, st11, st12, st13, st14, st15] ++ ([st16, st17, st18, st19, st20, st21, st22] ++ []))))))) := by
  kernel_rfl
theorem h_run (w : World) (os : OsState) : topRun treeTable P0 w 11 an0 60000 ⟨boot_heap w.params, Array.mk [], boot_drawn, boot_toks, os⟩ (topStub P0) = some (SZ w os) := by
  have k0 := h_fin w os
  have k1 := piece_app (l := [st16, st17, st18, st19, st20, st21, st22]) (rest := []) (segRun_of (pc22 w os)) (piece_nil k0)
  have k2 := piece_app (l := [st8, st9, st10, st11, st12, st13, st14, st15]) (segRun_of (pc15 w os)) k1
  have k3 : topRun treeTable P0 w 11 an0 (300 + (300 + 2) + 40000) (ST tree6 123 362 w os).abs (restOf (st7 :: ([st8, st9, st10, st11, st12, st13, st14, st15] ++ ([st16, st17, st18, st19, st20, st21, st22] ++ []))) envE cE pos6 B0) = some (SZ w os) := by
    unfold restOf
    rw [execs_cons_wrap]
    exact pc7 w os _ _ _ _ k2
  have k4 := piece_app (l := [st6]) (segRun_of (pc6 w os)) k3
  have k5 := piece_app (l := [st5]) (segRun_of (pc5 w os)) k4
  have k6 := piece_app (l := [st4]) (segRun_of (pc4 w os)) k5
  have k7 := piece_app (l := [st3]) (segRun_of (pc3 w os)) k6
  have k8 := piece_app (l := [st0, st1, st2]) (segRun_of (pcB w os)) k7
  rw [← bE_eq] at k8
  have k9 := piece_block (h_block w os) k8
  have k10 := go_top (h_pre w os) k9
  have := topRun_mono (60000 - (12 + (1 + (48 + (503 + (10 + (999 + (30 + (300 + (300 + 2) + 40000))))))))) _ _ _ _ k10
  exact this
theorem h_left : LeftO P0 qV looseV XtV HK.obs HK.val NN :=
  LeftO.of_pieces (H₀ := boot_heap) (H₁ := heapZ) (gs₀ := Array.mk []) (gs₁ := #[]) (d₀ := boot_drawn) (d₁ := {}) (k₀ := boot_toks) (k₁ := 2423) (m₀ := 11) (ann := an0) (M := 60000)
    h_open h_size h_run (by decide +kernel) (fun w => funext fun os => by rw [h_l1 w os, h_l2 w os, h_l3 w os])
end Mine
end
noncomputable section
-- WR1
open PySem PySem.W PyProof.Rows
set_option maxRecDepth 100000
namespace Mine
open PySem.Calls Builtin
noncomputable abbrev rowO (dx : Addr) (its : Array Value) (n : Nat) : Obj := { cls := .ref 100, dict := some dx, data := .seq its n }
noncomputable def cd100 : ClassData := ⟨⟨#[95, 65, 99, 99, 117, 109, 117, 108, 97, 116, 111, 114]⟩, [.type "list"], [.ref 100, .type "list", .type "object"], 99, ⟨#[95, 65, 99, 99, 117, 109, 117, 108, 97, 116, 111, 114]⟩, true, [], [], false, none, false⟩
section
variable {prog : Program} {w : World} {A : Around} {R : Result → Shared → Prop} {h : Heap} {g : Array GenState} {d : Drawn} {t : Nat} {os : OsState} {P : Params}

theorem got100 (X : (KK P).In h) : h.get? 100 = some (o100 P) := X 100 _ rfl
theorem cls100 : clsIn (KK P) 100 = some cd100 := rfl
theorem mro100 {M : Model} (X : (KK P).In h) : Looks M h (mroOf (.ref 100)) [.ref 100, .type "list", .type "object"] := (looks_clsIn X (cls100 (P := P))).andThen .now
theorem sub100 {M : Model} (X : (KK P).In h) : Looks M h (isSubtype (.ref 100) (.type "list")) true := looks_mroIn X (by kernel_rfl)
theorem self100 {M : Model} (X : (KK P).In h) : Looks M h (isSubtype (.ref 100) (.ref 100)) true := looks_mroIn X (by kernel_rfl)
theorem typ100 {M : Model} (X : (KK P).In h) : Looks M h (isType (.ref 100)) true := (Looks.ld (got100 X)).andThen .now
theorem made100 {M : Model} (X : (KK P).In h) : Looks M h (Bind.madeBy (.ref 100)) (some "list.__new__") := by
  intro A Q E s k q
  unfold Bind.madeBy
  refine wpAny_bind (mro100 X A _ E s k ?_)
  rw [List.forIn_cons]
  refine wpAny_bind (wpAny_bind (wpAny_bind (wpAny_bind (wpAny_loadPart (k _ _ (got100 X)) (wpAny_pure ?_)))))
  exact wpAny_pure (wpAny_pure (wpAny_pure q))
theorem base100 {M : Model} (X : (KK P).In h) : Looks M h (Bind.staticBase (.ref 100)) (.ref 100) := by
  intro A Q E s k q
  unfold Bind.staticBase
  refine wpAny_bind (mro100 X A _ E s k ?_)
  rw [List.forIn_cons]
  exact wpAny_bind (wpAny_bind (wpAny_bind (made100 X A _ E s k (wpAny_pure (wpAny_pure (wpAny_pure q))))))
theorem check100 {v : Value} {A : Around} {Q : Unit → Shared → Prop} {E : Value → Shared → Prop} (X : (KK P).In h) (q : Q () ⟨h, g, d, t, os⟩) : wpAny (model prog w) A (checkBuiltinCall "list.__new__" ⟨[.ref 100, v], []⟩) Q E ⟨h, g, d, t, os⟩ := by
  have kind : builtinKind "list.__new__" = some .builtinFn := by decide +kernel
  have split : splitId "list.__new__" = some ("list", "__new__") := by decide +kernel
  have L1 := typ100 (M := model prog w) X
  have L2 := sub100 (M := model prog w) X
  have L3 := base100 (M := model prog w) X
  have L4 := made100 (M := model prog w) X
  simp only [checkBuiltinCall, kind, split]
  repeat lk
  exact q
theorem new100 {v : Value} (X : (KK P).In h) (hq : R (.ok (.ret (.ref (h.objs.size + 1)))) ⟨(h.push emptyDict).push (rowO h.objs.size #[] 0), g, d, t, os⟩) :
    codeAny (model prog w) A (.call (.builtin "list.__new__") ⟨[.ref 100, v], []⟩) R ⟨h, g, d, t, os⟩ := by
  refine codeAny_of_tree ?_
  show wpAny _ A.in1 (do checkBuiltinCall "list.__new__" ⟨[.ref 100, v], []⟩; again (.builtin "list.__new__" ⟨[.ref 100, v], []⟩)) _ _ _
  refine wpAny_bind (check100 X (wpAny_pure ⟨plainId_quiet F.plain_list_new _, codeAny_builtin_stack F.entry_list_new rfl fun p st => ?_⟩))
  rw [Around.under_plainId F.plain_list_new _]
  have hown := owner_list_new
  have hC := got100 X
  have L1 := typ100 (M := model prog w) X
  have L2 := sub100 (M := model prog w) X
  have hC' : ((h.push emptyDict).push (rowO h.objs.size #[] 0)).get? 100 = some (o100 P) := Heap.get?_push_of_some _ (Heap.get?_push_of_some _ hC)
  simp only [hown]
  repeat lk
  show R _ _
  rw [Heap.size_push]
  exact hq
theorem make100 {v : Value} (X : (KK P).In h)
    (hq : codeAny (model prog w) (A.under (.builtin "type.__call__" ⟨[.ref 100, v], []⟩)) (.call (.ref 38) ⟨[.ref (h.objs.size + 1), v], []⟩) (InitBack (h.objs.size + 1) R) ⟨(h.push emptyDict).push (rowO h.objs.size #[] 0), g, d, t, os⟩) :
    codeAny (model prog w) A (.call (.ref 100) ⟨[v], []⟩) R ⟨h, g, d, t, os⟩ := by
  have hC := got100 X
  have hC' : ((h.push emptyDict).push (rowO h.objs.size #[] 0)).get? 100 = some (o100 P) := Heap.get?_push_of_some _ (Heap.get?_push_of_some _ hC)
  have k : ∀ b o, h.get? b = some o → ((h.push emptyDict).push (rowO h.objs.size #[] 0)).get? b = some o := fun b o e => Heap.get?_push_of_some _ (Heap.get?_push_of_some _ e)
  have L5 : Looks (model prog w) h (specialOf (.ref 100) "__call__") (some (.builtin "type.__call__")) := looks_specialIn X (by kernel_rfl)
  have L6 : Looks (model prog w) h (isInstance (.ref 100) (.type "type")) true := looks_instIn X (by kernel_rfl)
  have L3 := base100 (M := model prog w) X
  have L4 := made100 (M := model prog w) X
  have L7 := mro100 (M := model prog w) X
  refine codeAny_of_tree ?_
  show wpAny _ _ (callAny (.ref 100) _) _ _ _
  refine nd_load hC ?_
  show wpAny _ _ (callAny.viaDunder (.ref 100) _) _ _ _
  unfold callAny.viaDunder
  refine wpAny_bind (L5.at ?_)
  dsimp only
  rw [tc_bind]
  refine wpAny_bind (wpAny_pure (wpAny_bind (wpAny_pure ?_)))
  refine wpAny_pure (a := Fin.again (.call (.builtin "type.__call__") ⟨[.ref 100, v], []⟩)) (And.intro rfl ?_)
  refine codeAny_call_builtin_at (Code.quiet_builtin _ (by decide +kernel)) entry_typeCall (check_slot tc_kind tc_split L6 (tc_args _ _ _) ?_)
  unfold Builtin.«type.__call__»
  repeat (first | with_reducible refine wpAny_call ?_ | lk)
  refine new100 X ?_
  have hx : ((h.push emptyDict).push (rowO h.objs.size #[] 0)).get? (h.objs.size + 1) = some (rowO h.objs.size #[] 0) := by heap_get
  have t1 : Looks (model prog w) ((h.push emptyDict).push (rowO h.objs.size #[] 0)) (typeOf (.ref (h.objs.size + 1))) (.ref 100) := (Looks.ld hx).andThen .now
  have s1 := (self100 (M := model prog w) X).keeps k
  have i1 : Looks (model prog w) ((h.push emptyDict).push (rowO h.objs.size #[] 0)) (typeLookup (.ref 100) "__init__") (some (.ref 38)) := (looks_findIn X (by kernel_rfl)).keeps k
  have b1 : Looks (model prog w) ((h.push emptyDict).push (rowO h.objs.size #[] 0)) (bindSpecial (.ref 38) (.ref (h.objs.size + 1))) (.ref 38, [.ref (h.objs.size + 1)]) := (bind_fn X _ (by kernel_rfl)).keeps k
  unfold isInstance callSpecial? specialOf
  repeat (first | with_reducible refine wpAny_call ?_ | lk)
  refine codeAny_mono hq fun r s' z => ?_
  rcases r with e | (v | _ | _ | _) <;> first | exact z | exact z.elim | skip
  obtain ⟨rfl, z⟩ := z
  exact wpAny_pure (wpAny_pure z)
end
section
variable {prog : Program} {w : World} {A : Around} {s : Shared} {h₀ : Heap} {L : Addr} {m : Str → Option Value} {news : List (Addr × Obj)} {R : Result → Shared → Prop} {P : Params}
theorem make100_N {v : Value} (F : Fr h₀ L s.heap m) (N : News h₀ L s.heap news) (X₀ : (KK P).In h₀)
    (h : ∀ x dx h', Fr h₀ L h' m → News h₀ L h' ((x, rowO dx #[] 0) :: (dx, emptyDict) :: news) → (∀ p ∈ news, p.1 < dx) → dx < x →
      codeAny (model prog w) (A.under (.builtin "type.__call__" ⟨[.ref 100, v], []⟩)) (.call (.ref 38) ⟨[.ref x, v], []⟩) (InitBack x R) { s with heap := h' }) :
    codeAny (model prog w) A (.call (.ref 100) ⟨[v], []⟩) R s := by
  have X := X₀.keeps F.keep
  obtain ⟨hh, g, d, t, os⟩ := s
  refine make100 X (h _ hh.objs.size _ ((F.push _).push _) ?_ (fun p hp => Heap.lt_size (N p hp).1) (Nat.lt_succ_self _))
  have := (N.push F emptyDict).push (F.push _) (rowO hh.objs.size #[] 0)
  rwa [Heap.size_push] at this
theorem rowInst {h : Heap} {x dx : Addr} {od : Obj} {its : Array Value} {n : Nat} (N : News h₀ L h news) (h1 : (x, rowO dx its n) ∈ news) (h2 : (dx, od) ∈ news) :
    InstAt h x (rowO dx its n) 100 (some od) := ⟨(N _ h1).1, rfl, rfl, (N _ h2).1⟩
end
end Mine
end
noncomputable section
-- WR3
open PySem PySem.W PyProof.Rows
set_option maxRecDepth 100000
set_option maxHeartbeats 0
namespace Mine
open PySem.Calls Builtin
section
variable {prog : Program} {w : World} {A : Around} {E : Value → Shared → Prop} {s : Shared} {h₀ : Heap} {L r dx : Addr} {m : Str → Option Value} {news news' : List (Addr × Obj)} {P : Params} {its : Array Value} {n : Nat} {od : Obj} {name : Str} {i : String}
/-- a method of the builtin list, on a row -/
theorem row_meth {pl : Sem Bool} {Q : Value × List Value → Shared → Prop} (X : (KK P).In s.heap) (I : InstAt s.heap r (rowO dx its n) 100 (some od))
    (hf : findIn (KK P) (.ref 100) name = some (some (.builtin i))) (ht : typeIn (KK P) (.builtin i) = some (.type "method_descriptor")) (hs : lookIn name od = some none) (h : Q (.builtin i, [.ref r]) s) :
    wpAny (model prog w) A (getMethod (.ref r) name pl) Q E s := by
  have hd := I.dict
  obtain ⟨hh, g, d, t, os⟩ := s
  have L0 := I.type (M := model prog w)
  have hcan : (Manifest.canonical "list.__getattribute__" != "object.__getattribute__") = false := by decide +kernel
  have L1 := looks_findIn (M := model prog w) X (t := .ref 100) (name := "__getattribute__") (r := some (.builtin "list.__getattribute__")) (by kernel_rfl)
  have L2 := looks_findIn (M := model prog w) X (t := .ref 100) (name := "__getattr__") (r := none) (by kernel_rfl)
  have L3 := looks_findIn (M := model prog w) X hf
  have L4 := looks_typeIn (M := model prog w) X ht
  have hx := I.at_
  have hd : hh.get? dx = some od := hd
  have hn : nsLook name od = pure none := nsLook_of hs
  unfold getMethod specialOf nsGet
  repeat (first | simp only [hcan, hn] | lk)
  exact h
/-- a method of the class itself -/
theorem row_fn {pl : Sem Bool} {Q : Value × List Value → Shared → Prop} {f : Addr} (X : (KK P).In s.heap) (I : InstAt s.heap r (rowO dx its n) 100 (some od))
    (hf : findIn (KK P) (.ref 100) name = some (some (.ref f))) (ht : typeIn (KK P) (.ref f) = some (.type "function")) (hs : lookIn name od = some none) (h : Q (.ref f, [.ref r]) s) :
    wpAny (model prog w) A (getMethod (.ref r) name pl) Q E s := by
  have hd := I.dict
  obtain ⟨hh, g, d, t, os⟩ := s
  have L0 := I.type (M := model prog w)
  have hcan : (Manifest.canonical "list.__getattribute__" != "object.__getattribute__") = false := by decide +kernel
  have L1 := looks_findIn (M := model prog w) X (t := .ref 100) (name := "__getattribute__") (r := some (.builtin "list.__getattribute__")) (by kernel_rfl)
  have L2 := looks_findIn (M := model prog w) X (t := .ref 100) (name := "__getattr__") (r := none) (by kernel_rfl)
  have L3 := looks_findIn (M := model prog w) X hf
  have L4 := looks_typeIn (M := model prog w) X ht
  have hx := I.at_
  have hd : hh.get? dx = some od := hd
  have hn : nsLook name od = pure none := nsLook_of hs
  unfold getMethod specialOf nsGet
  repeat (first | simp only [hcan, hn] | lk)
  exact h
theorem row_special {args : List Value} {Q : Option Value → Shared → Prop} (X : (KK P).In s.heap) (I : InstAt s.heap r (rowO dx its n) 100 (some od))
    (hf : findIn (KK P) (.ref 100) name = some (some (.builtin i))) (hb : ∀ x, bindSpecial (.builtin i) (.ref x) = pure (.builtin i, [.ref x])) (h : wpAny (model prog w) A (call (.builtin i) (.ref r :: args)) (fun v => Q (some v)) E s) :
    wpAny (model prog w) A (callSpecial? (.ref r) name args) Q E s := by
  refine wpAny_bind (wpAny_bind (I.type.here ((looks_findIn X hf).here (wpAny_holding ?_))))
  rw [hb]
  exact wpAny_bind (wpAny_pure (wpAny_bind (wpAny_mono h (fun _ _ z => wpAny_pure z) fun _ _ z => z)))
theorem inst_list (X : (KK P).In s.heap) (I : InstAt s.heap r (rowO dx its n) 100 (some od)) : Looks (model prog w) s.heap (isInstance (.ref r) (.type "list")) true := I.type.andThen (sub100 X)
theorem check_meth {M : Model} {o nm : String} {self : Value} {rest : List Value} {kw : List (Str × Value)} {Q : Unit → Shared → Prop}
    (hk : builtinKind i = some .method) (hs : splitId i = some (o, nm)) (hi : Looks M s.heap (isInstance self (.type o)) true) (ha : argsOk i ⟨self :: rest, kw⟩) (q : Q () s) :
    wpAny M A (checkBuiltinCall i ⟨self :: rest, kw⟩) Q E s := by
  simp only [checkBuiltinCall, hk, hs]
  refine wpAny_bind (hi.here ?_)
  simp only [Bool.not_true, Bool.false_eq_true, if_false]
  cases hsig : Manifest.signature? i with
  | none => exact wpAny_pure q
  | some sig =>
    simp only [argsOk, hsig] at ha
    have h2 : Bind.checkArgs i sig ⟨self :: rest, kw⟩ = pure () := ha
    show wpAny M A (Bind.checkArgs i sig ⟨self :: rest, kw⟩) Q E s
    rw [h2]; exact wpAny_pure q
theorem row_append {x : Value} {Q : Value → Shared → Prop} (F : Fr h₀ L s.heap m) (X₀ : (KK P).In h₀) (N : News h₀ L s.heap news) (I : InstAt s.heap r (rowO dx its n) 100 (some od)) (U : Upd r (rowO dx its n) (rowO dx (its.push x) (n + 1)) news news')
    (hsz : its.size ≤ 1000) (h : ∀ h', Fr h₀ L h' m → News h₀ L h' news' → Q .none { s with heap := h' }) : wpAny (model prog w) A (call (.builtin "list.append") [.ref r, x]) Q E s := by
  have X := X₀.keeps F.keep
  obtain ⟨pre, post, rfl, rfl, a, b⟩ := U.split
  have z := N (r, rowO dx its n) (List.mem_append.mpr (.inr (.head _)))
  refine wpAny_call (codeAny_call_builtin (by decide +kernel) entry_list_append (check_meth (o := "list") (nm := "append") (by decide +kernel) (by decide +kernel) (inst_list X I) (args_list_append _ _) ?_))
  show wpAny _ _ (updateSeq r (·.push x) >>= fun _ => ret .none) _ _ s
  refine wpAny_bind ?_
  refine wpAny_updateSeq z.1 rfl (wpAny_pure ?_) (by rw [sizeLine_eq]; omega)
  refine h _ (F.change (Heap.SameBut.update ..) z.2.1 z.2.2) (news_set N a b (Heap.SameBut.update ..) ?_)
  rw [Heap.get?_update_self _ z.1 rfl]
  simp [Obj.mapSeq]
theorem row_get {expr : Bool} {v : Value} {Q : Value → Shared → Prop} (X : (KK P).In s.heap) (I : InstAt s.heap r (rowO dx its n) 100 (some od))
    (hf : findObj (KK P) 100 (some od) name = some (.value v)) (hv : handedIn v = true) (h : Q v { s with toks := s.toks + 1 }) : wpAny (model prog w) A (getAttr (.ref r) name expr) Q E s := by
  obtain ⟨hh, g, d, t, os⟩ := s
  have L0 := I.type (M := model prog w)
  have L1 := looks_findIn (M := model prog w) X (t := .ref 100) (name := "__getattribute__") (r := some (.builtin "list.__getattribute__")) (by kernel_rfl)
  have L2 := looks_findIn (M := model prog w) X (t := .ref 100) (name := "__getattr__") (r := none) (by kernel_rfl)
  have L3 := looks_find (M := model prog w) X I hf
  have hx := I.at_
  have hb := PySem.F.slot_list_getattribute.bind (.ref r)
  have sub : Looks (model prog w) hh (isInstance (.ref r) (.type "list")) true := I.type.andThen (sub100 X)
  have hc : (expr && onTheHeap (Value.builtin "list.__getattribute__")) = false := by cases expr <;> rfl
  have ha := PySem.F.args_list_getattribute_2 (.ref r) (.str name t)
  have ho := handedOut_of hv
  unfold getAttr getAttrBy
  repeat lk
  refine wpAny_tryCatch (wpAny_bind (wpAny_holding ?_))
  unfold callGetattribute boundAndCalled
  rw [hc, hb]
  refine wpAny_bind (wpAny_pure (wpAny_call (codeAny_call_builtin PySem.F.slot_list_getattribute.plain am_entry_list_getattribute (check_slot (i := "list.__getattribute__") (owner := "list") (n := "__getattribute__") (by decide +kernel) (by decide +kernel) sub ha ?_))))
  unfold Builtin.«object.__getattribute__»
  repeat lk
  show wpAny _ _ (handedOut v) _ _ _
  rw [ho]
  exact wpAny_pure h
theorem refuse100 (x : Addr) : refuseLoop (.ref x) "__setattr__" [.ref 100, .type "list", .type "object"] = pure () := by
  rw [refuseLoop_ref]; kernel_rfl
theorem row_set {es es' : List DictEntry} {k k' : Nat} {v : Value} {Q : Unit → Shared → Prop} (F : Fr h₀ L s.heap m) (X₀ : (KK P).In h₀) (hP : P = w.params) (N : News h₀ L s.heap news) (I : InstAt s.heap r (rowO dx its n) 100 (some (dictOf es k)))
    (hs : findIn (KK P) (.ref 100) name = some none) (hk : es.any (·.refKey) = false)
    (e : (putL name (PyData.keyHash w.params name) (.str name (s.toks + 1)) v es, putN name es k) = (es', k')) (U : Upd dx (dictOf es k) (dictOf es' k') news news') (hz : es'.length ≤ 1000)
    (h : ∀ h', Fr h₀ L h' m → News h₀ L h' news' → Q () { s with heap := h', toks := s.toks + 2 }) : wpAny (model prog w) A (setAttr (.ref r) name v) Q E s := by
  have X := X₀.keeps F.keep
  obtain ⟨pre, post, rfl, rfl, a, b⟩ := U.split
  obtain ⟨e1, e2⟩ := Prod.mk.inj e
  refine set_plain X I (by kernel_rfl) ?_
  have U' := news_upd (f := Obj.putName name (PyData.keyHash w.params name) (.str name (s.toks + 1)) v) F N a b (by rw [putName_dict, e1, e2]) rfl
  have D' := (U'.2 (dx, dictOf es' k') (by simp)).1
  have D := (N (dx, dictOf es k) (by simp)).1
  obtain ⟨hh, g, d, t, os⟩ := s
  have L0 := I.type (M := model prog w)
  have L1 := looks_findIn (M := model prog w) X hs
  have L2 := mro100 (M := model prog w) X
  have L3 := (looks_clsIn (M := model prog w) X (cls100 (P := P)))
  have hx := I.at_
  have SF := PySem.F.store_object
  have sub : Looks (model prog w) hh (isInstance (.ref r) (.type "object")) true := I.type.andThen (looks_mroIn X (by kernel_rfl))
  refine codeAny_call_builtin SF.slot.plain SF.entry (@check_slot (model prog w) _ _ _ "object.__setattr__" "object" "__setattr__" (.ref r) [.str name t, v] [] _ SF.kind SF.split sub (SF.args (.ref r) (.str name t) v) ?_)
  rw [osa_eq, refuse_eq]
  have hr := refuse100 r
  repeat (first | simp only [hr] | lk)
  have c : aRefKeyMayBeTheName name es.toArray = false := by
    rw [aRefKeyMayBeTheName_at, ← Array.any_toList, ← Array.any_toList]; simp only [hk, Bool.and_false]
  rw [c]
  refine wpAny_updatePart D ?_
  refine wpAny_bind (wpAny_lookBehind D' (pastItsLine_dict (by rw [List.size_toArray, sizeLine_eq]; omega)) ?_)
  exact wpAny_pure (h _ U'.1 U'.2)
end
end Mine
end
noncomputable section
-- WR4
open PySem PySem.W PyProof.Rows
set_option maxRecDepth 100000
set_option maxHeartbeats 0
namespace Mine
open PySem.Calls Builtin
noncomputable abbrev wrapO (i : String) (r : Addr) : Obj := { cls := .type "method-wrapper", data := .fields #[.builtin i, .ref r] }
section
variable {prog : Program} {w : World} {A : Around} {E : Value → Shared → Prop} {s : Shared} {h₀ : Heap} {L r dx : Addr} {m : Str → Option Value} {news news' : List (Addr × Obj)} {P : Params} {its : Array Value} {n : Nat} {od : Obj} {name : Str} {i : String}
theorem super_wrap {so : Addr} {i : String} {pl : Sem Bool} {Q : Value × List Value → Shared → Prop} (X : (KK P).In s.heap) (I : InstAt s.heap r (rowO dx its n) 100 (some od)) (hso : s.heap.get? so = some (ks_superObj 100 r 100))
    (hf : classOwn (.type "list") name = pure (some (.builtin i))) (ht : typeOf (.builtin i) = pure (.type "wrapper_descriptor")) (hn : (name == ("__class__" : Str)) = false) (ho : ".".intercalate (i.cutAt '.').dropLast = "list")
    (h : Q (.ref s.heap.objs.size, []) { s with heap := s.heap.push (wrapO i r), toks := s.toks + 1 }) : wpAny (model prog w) A (getMethod (.ref so) name pl) Q E s := by
  obtain ⟨hh, g, d, t, os⟩ := s
  have L2 := mro100 (M := model prog w) X
  have L3 := (looks_clsIn (M := model prog w) X (cls100 (P := P)))
  have hop : Looks (model prog w) hh (opaqueClassAbove (.ref 100)) none := looks_opaque X (by kernel_rfl)
  have hx := I.at_
  have hlk := PySem.F.ks_slot_super_ga.lookup
  have hcan := PySem.F.ks_canon_super_ga
  have L0 : Looks (model prog w) hh (typeOf (.ref so)) (.type "super") := (Looks.ld hso).andThen .now
  have L4 : Looks (model prog w) hh (typeLookup (.type "super") "__getattribute__") (some (.builtin "super.__getattribute__")) := Looks.of_pure hlk
  have L5 : Looks (model prog w) hh (isInstance (.ref so) (.type "super")) true := L0.andThen (Looks.of_pure (by rw [isSubtype_type]; kernel_rfl))
  have hb := PySem.F.ks_slot_super_ga.bind (.ref so)
  have S : Looks (model prog w) hh (specialOf (.ref so) "__getattribute__") (some (.builtin "super.__getattribute__")) := L0.andThen L4
  unfold getMethod
  refine wpAny_bind (S.at ?_)
  dsimp only
  rw [if_pos hcan]
  unfold getAttr getAttrBy
  refine wpAny_bind (wpAny_bind (wpAny_mkText (wpAny_holding (wpAny_bind (L0.at (wpAny_bind (L4.at ?_)))))))
  show wpAny _ _ (getAttrByItsOwn (.ref so) (.str name t) (.type "super") (.builtin "super.__getattribute__") true false) _ _ _
  unfold getAttrByItsOwn
  refine wpAny_bind (wpAny_pure (a := none) (wpAny_bind (wpAny_attempt (wpAny_holding ?_))))
  show wpAny _ _ (bindSpecial (.builtin "super.__getattribute__") (.ref so) >>= _) _ _ _
  rw [hb]
  refine wpAny_bind (wpAny_pure (wpAny_call ?_))
  refine codeAny_call_builtin PySem.F.ks_slot_super_ga.plain PySem.F.ks_entry_super_ga (check_slot (i := "super.__getattribute__") (owner := "super") (n := "__getattribute__") (by decide +kernel) (by decide +kernel) L5 (PySem.F.ks_gaArgs_super _ _) ?_)
  have hg : typeLookup (.type "wrapper_descriptor") "__get__" = pure (some (.builtin "wrapper_descriptor.__get__")) := by rw [typeLookup_type, builtinLookup_eq_fast]; kernel_rfl
  have L6 := Looks.of_pure (M := model prog w) (h := hh) hf
  have L7 := Looks.of_pure (M := model prog w) (h := hh) ht
  have L8 := Looks.of_pure (M := model prog w) (h := hh) hg
  have f0 := looks_field (M := model prog w) hso 0 (v := .ref 100) rfl
  have f1 := looks_field (M := model prog w) hso 1 (v := .ref r) rfl
  have f2 := looks_field (M := model prog w) hso 2 (v := .ref 100) rfl
  have hno : ∀ a b Q E, Q () ⟨hh, g, d, t + 1, os⟩ → wpAny (model prog w) A.in1 (notOfAnOpaqueClass a b (.ref 100)) Q E ⟨hh, g, d, t + 1, os⟩ := fun _ _ _ _ q => PySem.ks_wpAny_notOpaque hop q
  have hne : ((Value.ref r) == (Value.ref 100)) = false := by
    rw [beq_eq_false_iff_ne]; rintro ⟨⟩; have e := got100 X; rw [hx] at e; cases e
  have hd : (([.ref 100, .type "list", .type "object"] : List Value).dropWhile (· != .ref 100)).drop 1 = [.type "list", .type "object"] := rfl
  unfold Builtin.«super.__getattribute__»
  repeat (first | with_reducible refine wpAny_call ?_ | with_reducible refine hno _ _ _ _ ?_ | simp only [hn, hne, hd, List.forIn_cons] | lk)
  have g1 : entryFor table "wrapper_descriptor.__get__" = some Builtin.«wrapper_descriptor.__get__» := entryFor_of_tree (by kernel_rfl)
  have g2 : argsOk "wrapper_descriptor.__get__" ⟨[.builtin i, .ref r, .ref 100], []⟩ := by unfold argsOk; kernel_rfl
  have g3 : Looks (model prog w) hh (isInstance (.builtin i) (.type "wrapper_descriptor")) true := L7.andThen (Looks.of_pure (by rw [isSubtype_type]; kernel_rfl))
  refine codeAny_call_builtin (by decide +kernel) g1 (check_slot (i := "wrapper_descriptor.__get__") (owner := "wrapper_descriptor") (n := "__get__") (rest := [.ref r, .ref 100]) (kw := []) (by decide +kernel) (by decide +kernel) g3 g2 ?_)
  unfold Builtin.«wrapper_descriptor.__get__»
  have hI := inst_list (prog := prog) (w := w) X I
  repeat (first | (simp only [ho]; done) | lk)
  rw [ho, if_neg (by simp)]
  repeat lk
  exact h
theorem super_wrap_N {so : Addr} {i : String} {pl : Sem Bool} {Q : Value × List Value → Shared → Prop} (F : Fr h₀ L s.heap m) (X₀ : (KK P).In h₀) (N : News h₀ L s.heap news) (I : InstAt s.heap r (rowO dx its n) 100 (some od)) (hso : (so, ks_superObj 100 r 100) ∈ news)
    (hf : classOwn (.type "list") name = pure (some (.builtin i))) (ht : typeOf (.builtin i) = pure (.type "wrapper_descriptor")) (hn : (name == ("__class__" : Str)) = false) (ho : ".".intercalate (i.cutAt '.').dropLast = "list")
    (h : ∀ q h', Fr h₀ L h' m → News h₀ L h' ((q, wrapO i r) :: news) → (∀ p ∈ news, p.1 < q) → Q (.ref q, []) { s with heap := h', toks := s.toks + 1 }) : wpAny (model prog w) A (getMethod (.ref so) name pl) Q E s :=
  super_wrap (X₀.keeps F.keep) I (N _ hso).1 hf ht hn ho (h _ _ (F.push _) (N.push F _) fun p hp => Heap.lt_size (N p hp).1)
end
end Mine
end
noncomputable section
-- WR5
open PySem PySem.W PyProof.Rows
set_option maxRecDepth 100000
set_option maxHeartbeats 0
namespace Mine
open PySem.Calls Builtin
section
variable {prog : Program} {w : World} {A : Around} {E : Value → Shared → Prop} {s : Shared} {h₀ : Heap} {L r dx : Addr} {m : Str → Option Value} {news news' : List (Addr × Obj)} {P : Params} {its : Array Value} {n : Nat} {od : Obj} {name : Str} {i : String}
theorem wrap_init {q : Addr} {Q : Value → Shared → Prop} (F : Fr h₀ L s.heap m) (X₀ : (KK P).In h₀) (N : News h₀ L s.heap news) (I : InstAt s.heap r (rowO dx #[] 0) 100 (some od)) (hq : (q, wrapO "list.__init__" r) ∈ news)
    (U : Upd r (rowO dx #[] 0) (rowO dx #[] 0) news news')
    (h : ∀ h', Fr h₀ L h' m → News h₀ L h' news' → Q .none { s with heap := h' }) : wpAny (model prog w) A (call (.ref q) []) Q E s := by
  have X := X₀.keeps F.keep
  obtain ⟨pre, post, rfl, rfl, a, b⟩ := U.split
  have z := N (r, rowO dx #[] 0) (List.mem_append.mpr (.inr (.head _)))
  have hI := inst_list (prog := prog) (w := w) X I
  have hq := (N _ hq).1
  have hx := I.at_
  have U' := news_upd (f := Obj.mapSeq fun _ => #[]) F N a b rfl rfl
  obtain ⟨hh, g, d, t, os⟩ := s
  refine wpAny_call (codeAny_of_tree ?_)
  show wpAny _ A.in1 (callAny (.ref q) _) _ _ _
  unfold callAny
  refine wpAny_bind (wpAny_load hq ?_)
  dsimp only
  rw [if_pos (by decide +kernel)]
  repeat lk
  refine ⟨Code.quiet_builtin _ (by decide +kernel), codeAny_builtin (show entryFor table "list.__init__" = some Builtin.«list.__init__» from entryFor_of_tree (by kernel_rfl)) ?_⟩
  unfold Builtin.«list.__init__»
  repeat lk
  refine wpAny_updatePart (part := none) z.1 (wpAny_lookBehind (U'.2 (r, rowO dx #[] 0) (List.mem_append.mpr (.inr (.head _)))).1 (by kernel_rfl) ?_)
  exact wpAny_pure (h _ U'.1 U'.2)
theorem wrap_len {q : Addr} {Q : Value → Shared → Prop} (F : Fr h₀ L s.heap m) (X₀ : (KK P).In h₀) (N : News h₀ L s.heap news) (I : InstAt s.heap r (rowO dx its n) 100 (some od)) (hq : (q, wrapO "list.__len__" r) ∈ news)
    (h : Q (.int its.size s.toks) { s with toks := s.toks + 1 }) : wpAny (model prog w) A (call (.ref q) []) Q E s := by
  have hq := (N _ hq).1
  have hx := I.at_
  obtain ⟨hh, g, d, t, os⟩ := s
  refine wpAny_call (codeAny_of_tree ?_)
  show wpAny _ A.in1 (callAny (.ref q) _) _ _ _
  unfold callAny
  refine wpAny_bind (wpAny_load hq ?_)
  dsimp only
  rw [if_pos (by decide +kernel)]
  repeat lk
  refine ⟨Code.quiet_builtin _ (by decide +kernel), codeAny_builtin (show entryFor table "list.__len__" = some Builtin.«list.__len__» from entryFor_of_tree (by kernel_rfl)) ?_⟩
  unfold Builtin.«list.__len__»
  repeat lk
  exact h
theorem keeps_W {M : Model} {q : Addr} {i : String} (h : Heap) (X : h.get? q = some (wrapO i r)) : ∃ k, (k = Keeper.frame ∨ k = Keeper.machine ∨ k = Keeper.boundFrame) ∧ Looks M h (keeperOf (.ref q)) k := by
  refine ⟨.machine, .inr (.inl rfl), (Looks.ld (part := none) X).andThen ?_⟩
  dsimp only
  rw [if_pos (by decide +kernel), if_pos (by decide +kernel)]
  exact .now
theorem callWith_W0 {M : Model} {q : Addr} {i : String} {pos : Pos} {env : Env} {Q : Value → Shared → Prop} (N : News h₀ L s.heap news) (hq : (q, wrapO i r) ∈ news) (h : wpAny M A (call (.ref q) []) Q E s) :
    wpAny M A (callWith pos (.ref q) [] (backTo pos (starEach [] env)) []) Q E s :=
  callWith_of rfl keeps_W (evalArgs_nil3 ⟨(N _ hq).1, h⟩)
end
end Mine
end
noncomputable section
-- WR6
open PySem PySem.W PyProof.Rows
set_option maxRecDepth 100000
set_option maxHeartbeats 0
namespace Mine
open PySem.Calls Builtin
section
variable {prog : Program} {w : World} {A : Around} {E : Value → Shared → Prop} {s : Shared} {h₀ : Heap} {L r dx : Addr} {m : Str → Option Value} {news news' : List (Addr × Obj)} {P : Params} {its : Array Value} {n : Nat} {od : Obj} {name : Str} {i : String}
theorem row_key {k : Value} {nm : Str} {Q : Value → Shared → Prop} (X : (KK P).In s.heap) (I : InstAt s.heap r (rowO dx its n) 100 (some od)) (h : Q k s) : wpAny (model prog w) A (sequenceKey (.ref r) k nm) Q E s := by
  obtain ⟨hh, g, d, t, os⟩ := s
  have L0 := I.type (M := model prog w)
  have L1 := mro100 (M := model prog w) X
  unfold sequenceKey
  repeat lk
  exact h
noncomputable abbrev sliceO (a b c : Value) : Obj := { cls := .type "slice", data := .fields #[a, b, c] }
theorem row_getB {k : Value} {Q : Value → Shared → Prop} (X : (KK P).In s.heap) (I : InstAt s.heap r (rowO dx its n) 100 (some od))
    (ha : argsOk "list.__getitem__" ⟨[.ref r, k], []⟩)
    (h : wpAny (model prog w) A.in1 (Builtin.«list.__getitem__» ⟨[.ref r, k], []⟩) (fun fin s' => ∃ v, fin = .done (.ret v) ∧ Q v s') E s) :
    wpAny (model prog w) A (getItem (.ref r) k) Q E s := by
  unfold getItem
  refine wpAny_holding (wpAny_bind (row_key X I (wpAny_bind ?_)))
  refine row_special X I (i := "list.__getitem__") (by kernel_rfl) (fun x => PySem.slot_list_getitem.bind (.ref x)) ?_
  refine wpAny_call (codeAny_call_builtin PySem.slot_list_getitem.plain PySem.entry_list_getitem (check_meth (i := "list.__getitem__") (o := "list") (nm := "__getitem__") (by decide +kernel) (by decide +kernel) (inst_list X I) ha ?_))
  exact wpAny_mono h (fun fin s' z => by obtain ⟨v, rfl, z⟩ := z; exact wpAny_pure z) fun _ _ z => z
theorem row_item {u : Tok} {v : Value} {Q : Value → Shared → Prop} (X : (KK P).In s.heap) (I : InstAt s.heap r (rowO dx its n) 100 (some od)) (hv : its[0]? = some v) (h : Q v s) : wpAny (model prog w) A (getItem (.ref r) (.int 0 u)) Q E s := by
  refine row_getB X I (args_list_getitem _ _) ?_
  have hx := I.at_
  obtain ⟨hh, g, d, t, os⟩ := s
  unfold Builtin.«list.__getitem__»
  repeat lk
  rw [hv]
  repeat lk
  exact ⟨_, rfl, h⟩
theorem row_slice {so : Addr} {k : Nat} {u : Tok} {Q : Value → Shared → Prop} (X : (KK P).In s.heap) (I : InstAt s.heap r (rowO dx its n) 100 (some od)) (hsz : its.size ≤ 1000) (hs : s.heap.get? so = some (sliceO (.int (k : Int) u) .none .none))
    (h : Q (.ref s.heap.objs.size) { s with heap := s.heap.push (listOf (its.toList.drop k).toArray 0) }) : wpAny (model prog w) A (getItem (.ref r) (.ref so)) Q E s := by
  refine row_getB X I (args_list_getitem _ _) ?_
  have hx := I.at_
  obtain ⟨hh, g, d, t, os⟩ := s
  unfold Builtin.«list.__getitem__»
  repeat lk
  have e : (List.filterMap (fun x => its[x]?) (sliceRange (max 0 (min (if (k : Int) < 0 then (k : Int) + its.size else k) its.size)) (if (1 : Int) > 0 then (its.size : Int) else -1) 1)).toArray = (its.toList.drop k).toArray := slicePick_from' its k
  rw [e, if_neg (by rw [List.size_toArray, List.length_drop, Array.length_toList, sizeLine_eq]; omega)]
  repeat lk
  exact ⟨_, rfl, h⟩
theorem row_setB {k v : Value} {Q : Unit → Shared → Prop} (X : (KK P).In s.heap) (I : InstAt s.heap r (rowO dx its n) 100 (some od))
    (h : wpAny (model prog w) A.in1 (Builtin.«list.__setitem__» ⟨[.ref r, k, v], []⟩) (fun fin s' => ∃ v, fin = .done (.ret v) ∧ Q () s') E s) :
    wpAny (model prog w) A (setItem (.ref r) k v) Q E s := by
  unfold setItem
  refine wpAny_holding (wpAny_bind (row_key X I (wpAny_bind ?_)))
  refine row_special X I (i := "list.__setitem__") (by kernel_rfl) (fun x => PySem.F.slot_list_setitem.bind (.ref x)) ?_
  refine wpAny_call (codeAny_call_builtin PySem.F.slot_list_setitem.plain PySem.F.entry_list_setitem (check_slot (i := "list.__setitem__") (owner := "list") (n := "__setitem__") (by decide +kernel) (by decide +kernel) (inst_list X I) (by unfold argsOk; kernel_rfl) ?_))
  exact wpAny_mono h (fun fin s' z => by obtain ⟨v, rfl, z⟩ := z; exact wpAny_pure z) fun _ _ z => z
noncomputable def rowN (its new : Array Value) (k n : Nat) : Nat := if (its.extract 0 k ++ new).size == its.size then n else n + 1
/-- self[k:] = [..] -/
theorem row_setslice {so l : Addr} {k : Nat} {u : Tok} {new : Array Value} {c : Nat} {Q : Unit → Shared → Prop} (F : Fr h₀ L s.heap m) (N : News h₀ L s.heap news) (X : (KK P).In s.heap) (I : InstAt s.heap r (rowO dx its n) 100 (some od)) (hsz : its.size ≤ 1000) (hnz : new.size ≤ 1000) (hk : k ≤ its.size)
    (hs : s.heap.get? so = some (sliceO (.int (k : Int) u) .none .none)) (hl : (l, listOf new c) ∈ news) (U : Upd r (rowO dx its n) (rowO dx (its.extract 0 k ++ new) (rowN its new k n)) news news')
    (h : ∀ h', Fr h₀ L h' m → News h₀ L h' news' → Q () { s with heap := h' }) : wpAny (model prog w) A (setItem (.ref r) (.ref so) (.ref l)) Q E s := by
  refine row_setB X I ?_
  have hx := I.at_
  have hl := (N _ hl).1
  have hne : l ≠ r := by
    rintro rfl
    rw [hx] at hl
    simp only [Option.some.injEq, Obj.mk.injEq] at hl
    exact absurd hl.1 (by decide)
  obtain ⟨pre, post, rfl, rfl, a, b⟩ := U.split
  have z := N (r, rowO dx its n) (List.mem_append.mpr (.inr (.head _)))
  have hr : List.listSameRef (.ref r) (.ref l) = false := by simp [List.listSameRef, Ne.symm hne]
  obtain ⟨hh, g, d, t, os⟩ := s
  unfold Builtin.«list.__setitem__»
  repeat lk
  rw [hr]
  repeat lk
  have hlong : List.listTooLong (its.size + new.size) = false := by simp only [List.listTooLong, decide_eq_false_iff_not, sizeLine_eq]; omega
  rw [hlong, if_neg (by decide)]
  refine wpAny_bind ?_
  have e1 : ((max 0 (min (if (k : Int) < 0 then (k : Int) + its.size else k) (its.size : Int))).toNat) = k := by (simp only [show ¬ ((k : Int) < 0) by omega, if_false, show (1 : Int) > 0 by decide, if_true]; omega)
  have e2 : ((max (max 0 (min (if (k : Int) < 0 then (k : Int) + its.size else k) (its.size : Int))) (if (1 : Int) > 0 then (its.size : Int) else -1)).toNat) = its.size := by (simp only [show ¬ ((k : Int) < 0) by omega, if_false, show (1 : Int) > 0 by decide, if_true]; omega)
  rw [e1, e2]
  show wpAny _ _ (updateSeq r (fun xs => xs.extract 0 k ++ new ++ xs.extract its.size)) _ _ _
  have e3 : Obj.mapSeq (fun xs => xs.extract 0 k ++ new ++ xs.extract its.size) (rowO dx its n) = rowO dx (its.extract 0 k ++ new) (rowN its new k n) := by
    simp [Obj.mapSeq, rowN]
  have U' := news_upd (f := Obj.mapSeq fun xs => xs.extract 0 k ++ new ++ xs.extract its.size) F N a b e3 rfl
  refine wpAny_updateSeq z.1 rfl (wpAny_bind (wpAny_letGo (wpAny_pure ⟨_, rfl, h _ U'.1 U'.2⟩))) ?_
  simp only [sizeLine_eq, Array.size_append, Array.size_extract]; omega
theorem row_setall {so l : Addr} {new : Array Value} {c : Nat} {Q : Unit → Shared → Prop} (F : Fr h₀ L s.heap m) (N : News h₀ L s.heap news) (X : (KK P).In s.heap) (I : InstAt s.heap r (rowO dx its n) 100 (some od)) (hsz : its.size ≤ 1000) (hnz : new.size ≤ 1000)
    (hs : s.heap.get? so = some (sliceO .none .none .none)) (hl : (l, listOf new c) ∈ news) (U : Upd r (rowO dx its n) (rowO dx (its.extract 0 0 ++ new) (rowN its new 0 n)) news news')
    (h : ∀ h', Fr h₀ L h' m → News h₀ L h' news' → Q () { s with heap := h' }) : wpAny (model prog w) A (setItem (.ref r) (.ref so) (.ref l)) Q E s := by
  refine row_setB X I ?_
  have hx := I.at_
  have hl := (N _ hl).1
  have hne : l ≠ r := by
    rintro rfl
    rw [hx] at hl
    simp only [Option.some.injEq, Obj.mk.injEq] at hl
    exact absurd hl.1 (by decide)
  obtain ⟨pre, post, rfl, rfl, a, b⟩ := U.split
  have z := N (r, rowO dx its n) (List.mem_append.mpr (.inr (.head _)))
  have hr : List.listSameRef (.ref r) (.ref l) = false := by simp [List.listSameRef, Ne.symm hne]
  obtain ⟨hh, g, d, t, os⟩ := s
  unfold Builtin.«list.__setitem__»
  repeat lk
  rw [hr]
  repeat lk
  have hlong : List.listTooLong (its.size + new.size) = false := by simp only [List.listTooLong, decide_eq_false_iff_not, sizeLine_eq]; omega
  rw [hlong, if_neg (by decide)]
  refine wpAny_bind ?_
  have e1 : (if (1 : Int) > 0 then (0 : Int) else (its.size : Int) - 1).toNat = 0 := by simp
  have e2 : (max (if (1 : Int) > 0 then (0 : Int) else (its.size : Int) - 1) (if (1 : Int) > 0 then (its.size : Int) else -1)).toNat = its.size := by simp
  rw [e1, e2]
  show wpAny _ _ (updateSeq r (fun xs => xs.extract 0 0 ++ new ++ xs.extract its.size)) _ _ _
  have e3 : Obj.mapSeq (fun xs => xs.extract 0 0 ++ new ++ xs.extract its.size) (rowO dx its n) = rowO dx (its.extract 0 0 ++ new) (rowN its new 0 n) := by
    simp [Obj.mapSeq, rowN]
  have U' := news_upd (f := Obj.mapSeq fun xs => xs.extract 0 0 ++ new ++ xs.extract its.size) F N a b e3 rfl
  refine wpAny_updateSeq z.1 rfl (wpAny_bind (wpAny_letGo (wpAny_pure ⟨_, rfl, h _ U'.1 U'.2⟩))) ?_
  simp only [sizeLine_eq, Array.size_append, Array.size_extract]; omega
theorem row_tail {value slice : Expr} {i : Value} {ops : List Value} {Q : Value → Shared → Prop} (X : (KK P).In s.heap) (I : InstAt s.heap r (rowO dx its n) 100 (some od)) (h : wpAny (model prog w) A (getItem (.ref r) i) Q E s)
    (hs : subscripted slice false (.ref r) i = operate ops (getItem (.ref r) i)) : wpAny (model prog w) A (subscriptTail value slice (.ref r) i) Q E s := by
  have L0 := I.type (M := model prog w)
  have L1 := mro100 (M := model prog w) X
  have L2 := looks_findIn (M := model prog w) X (t := .ref 100) (name := "__getitem__") (r := some (.builtin "list.__getitem__")) (by kernel_rfl)
  have L3 : Looks (model prog w) s.heap (getitemInPython (.ref r)) false := by
    unfold getitemInPython specialOf
    exact (L0.andThen L2).andThen .now
  unfold subscriptTail
  refine wpAny_bind (L3.here (wpAny_bind ?_))
  rw [hs]
  exact wpAny_operating (wpAny_mono h (fun r s₃ h₃ => wpAny_bind (wpAny_letTemporaryGo (wpAny_pure h₃))) fun _ _ x => x)
end
end Mine
end
noncomputable section
-- WR7
open PySem PySem.W PyProof.Rows
set_option maxRecDepth 100000
set_option maxHeartbeats 0
namespace Mine
open PySem.Calls Builtin
section
variable {prog : Program} {w : World} {A : Around} {E : Value → Shared → Prop} {s : Shared} {h₀ : Heap} {L r dx : Addr} {m : Str → Option Value} {news news' : List (Addr × Obj)} {P : Params} {its : Array Value} {n : Nat} {od : Obj} {name : Str} {i : String}
theorem instPush {o : Obj} (I : InstAt s.heap r (rowO dx its n) 100 (some od)) : InstAt (s.heap.push o) r (rowO dx its n) 100 (some od) :=
  ⟨Heap.get?_push_of_some _ I.at_, rfl, rfl, Heap.get?_push_of_some _ I.dict⟩
theorem row_subslice {value : Expr} {e : Option Expr} {p : Pos} {k : Nat} {z : Int} {u : Tok} {Q : Value → Shared → Prop} (F : Fr h₀ L s.heap m) (N : News h₀ L s.heap news) (X₀ : (KK P).In h₀) (I : InstAt s.heap r (rowO dx its n) 100 (some od)) (hsz : its.size ≤ 1000) (hz : z = (k : Int))
    (h : ∀ l h', Fr h₀ L h' m → News h₀ L h' ((l, listOf (its.toList.drop k).toArray 0) :: news) → (∀ p ∈ news, p.1 < l) → Q (.ref l) { s with heap := h' }) :
    wpAny (model prog w) A (subscriptTail value (.Slice e none none p) (.ref r) (.ref s.heap.objs.size)) Q E { s with heap := s.heap.push (sliceO (.int z u) .none .none) } := by
  subst hz
  refine row_tail ((X₀.keeps F.keep).keeps fun b o e => Heap.get?_push_of_some _ e) (instPush I) ?_ (ops := [.ref s.heap.objs.size, .ref r]) rfl
  refine row_slice ((X₀.keeps F.keep).keeps fun b o e => Heap.get?_push_of_some _ e) (instPush I) hsz (Heap.get?_push_size _ rfl) ?_
  have N1 : News h₀ L (s.heap.push (sliceO (.int (k : Int) u) .none .none)) news := fun p hp => ⟨Heap.get?_push_of_some _ (N p hp).1, (N p hp).2⟩
  exact h _ _ ((F.push _).push _) (N1.push (F.push _) _) fun p hp => by have := Heap.lt_size (N p hp).1; rw [Heap.size_push]; exact Nat.lt_succ_of_lt this
theorem row_subitem {value slice : Expr} {u : Tok} {v : Value} {Q : Value → Shared → Prop} (F : Fr h₀ L s.heap m) (X₀ : (KK P).In h₀) (I : InstAt s.heap r (rowO dx its n) 100 (some od)) (hv : its[0]? = some v) (h : Q v s)
    (hs : subscripted slice false (.ref r) (.int 0 u) = operate [.ref r, .int 0 u] (getItem (.ref r) (.int 0 u)) := by rfl) : wpAny (model prog w) A (subscriptTail value slice (.ref r) (.int 0 u)) Q E s :=
  row_tail (X₀.keeps F.keep) I (row_item (X₀.keeps F.keep) I hv h) hs
theorem row_storeslice {l : Addr} {k : Nat} {z : Int} {u : Tok} {new : Array Value} {c : Nat} {Q : Unit → Shared → Prop} (F : Fr h₀ L s.heap m) (N : News h₀ L s.heap news) (X₀ : (KK P).In h₀) (I : InstAt s.heap r (rowO dx its n) 100 (some od)) (hsz : its.size ≤ 1000) (hnz : new.size ≤ 1000) (hz : z = (k : Int)) (hk : k ≤ its.size)
    (hl : (l, listOf new c) ∈ news) (U : Upd r (rowO dx its n) (rowO dx (its.extract 0 k ++ new) (rowN its new k n)) news news')
    (h : ∀ h', Fr h₀ L h' m → News h₀ L h' news' → Q () { s with heap := h' }) : wpAny (model prog w) A (setItem (.ref r) (.ref s.heap.objs.size) (.ref l)) Q E { s with heap := s.heap.push (sliceO (.int z u) .none .none) } := by
  subst hz
  have N1 : News h₀ L (s.heap.push (sliceO (.int (k : Int) u) .none .none)) news := fun p hp => ⟨Heap.get?_push_of_some _ (N p hp).1, (N p hp).2⟩
  exact row_setslice (s := { s with heap := s.heap.push (sliceO (.int (k : Int) u) .none .none) }) (F.push _) N1 ((X₀.keeps F.keep).keeps fun b o e => Heap.get?_push_of_some _ e) (instPush I) hsz hnz hk (Heap.get?_push_size _ rfl) hl U h
theorem row_storeall {l : Addr} {new : Array Value} {c : Nat} {Q : Unit → Shared → Prop} (F : Fr h₀ L s.heap m) (N : News h₀ L s.heap news) (X₀ : (KK P).In h₀) (I : InstAt s.heap r (rowO dx its n) 100 (some od)) (hsz : its.size ≤ 1000) (hnz : new.size ≤ 1000)
    (hl : (l, listOf new c) ∈ news) (U : Upd r (rowO dx its n) (rowO dx (its.extract 0 0 ++ new) (rowN its new 0 n)) news news')
    (h : ∀ h', Fr h₀ L h' m → News h₀ L h' news' → Q () { s with heap := h' }) : wpAny (model prog w) A (setItem (.ref r) (.ref s.heap.objs.size) (.ref l)) Q E { s with heap := s.heap.push (sliceO .none .none .none) } := by
  have N1 : News h₀ L (s.heap.push (sliceO .none .none .none)) news := fun p hp => ⟨Heap.get?_push_of_some _ (N p hp).1, (N p hp).2⟩
  exact row_setall (s := { s with heap := s.heap.push (sliceO .none .none .none) }) (F.push _) N1 ((X₀.keeps F.keep).keeps fun b o e => Heap.get?_push_of_some _ e) (instPush I) hsz hnz (Heap.get?_push_size _ rfl) hl U h
end
end Mine
end
noncomputable section
-- WM0
open PySem PySem.W PyProof.Rows
set_option maxRecDepth 100000
set_option maxHeartbeats 0
namespace Mine
open PySem.Calls PyProof.V PySem.Spec Builtin
noncomputable def Claim (w : World) (mean : ExcName → Option Value) (mg mb : Str → Option Value) (f : Addr) (news : List (Addr × Obj)) (pre : Prop) (vs : List Value) (Post : Value → List (Addr × Obj) → Prop) : Prop :=
  ∀ (p : Program) (loose : List Str) (dp un : Nat) (gd : Option (List Code)) (cn : Str) (cs : Scope) (a : Addr) (ccd : Value) (cl : List (Str × Addr)) (outer : List Env) (A₀ : Around) (base h₀ : Heap) (L : Addr) (m : Str → Option Value) (s : Shared) (Q E : Value → Shared → Prop),
    Below A₀ base outer h₀ → Fr h₀ L s.heap m → (KK w.params).In h₀ → News h₀ L s.heap news → Top p loose mean mg mb h₀ → cs.kind = .function →
    pre → dp + 1 < recursionLimit → un + 8 < cLine → (∀ v news' h' tk', Post v news' → Fr h₀ L h' m → News h₀ L h' news' → Q v { s with heap := h', toks := tk' }) →
      wpAny (model PySem.Challenge.rw_xo0036_01.row.prog w) (ktrTop dp un gd cn cs L a ccd cl outer) (call (.ref f) vs) Q E s
noncomputable abbrev tupO (vs : Array Value) : Obj := { cls := .type "tuple", data := .seq vs }
noncomputable abbrev isD (P : Params) (tk : Tok) (v : Int) (t : Tok) : Obj := dictOf [⟨PyData.keyHash P "_initial_size", .str "_initial_size" tk, .int v t⟩] 1
theorem newTuple_L {M : Model} {A : Around} {E : Value → Shared → Prop} {s : Shared} {h₀ : Heap} {L : Addr} {m : Str → Option Value} {news : List (Addr × Obj)} {vs : List Value} {Q : Value → Shared → Prop} (F : Fr h₀ L s.heap m) (N : News h₀ L s.heap news)
    (h : ∀ l h', Fr h₀ L h' m → News h₀ L h' ((l, tupO vs.toArray) :: news) → (∀ p ∈ news, p.1 < l) → Q (.ref l) { s with heap := h' }) (hsz : vs.length ≤ sizeLine := by size_fits) : wpAny M A (newTuple vs) Q E s :=
  newTuple_N F N (fun h' F' N' => h _ h' F' N' fun p hp => Heap.lt_size (N p hp).1) hsz
end Mine
end
noncomputable section
-- WE1
open PySem PySem.W PyProof.Rows
set_option maxRecDepth 100000
set_option maxHeartbeats 0
namespace Mine
open PySem.Calls PyProof.V PySem.Spec Builtin
noncomputable def rep1 (x c y : Str) : Str := if (Builtin.Str.occurrences x c 0 x.length 1).isEmpty = true then x else Txt.replace x c y
theorem esc_if {prog : Program} {w : World} {A : Around} {E : Value → Shared → Prop} {s : Shared} {name : Str} {scope : Scope} {L a : Addr} {cd : Value} {h₀ : Heap} {m : Str → Option Value} {news : List (Addr × Obj)} {x c y : Str} {t : Tok} {Q : Flow → Shared → Prop} {k1 k2 k3 : Nat} {q1 q2 q3 q4 q5 q6 q7 q8 q9 q10 q11 : Pos} {pl : Sem Bool}
    (F : Fr h₀ L s.heap m) (N : News h₀ L s.heap news) (hv : m "text" = some (.str x t)) (hk : scope.kind = .function) (hl : (envOf name scope L a cd).kindOf "text" = some .local) (hcy : (c == y) = false) (hx : x.length ≤ 1048576) (hy : y.length ≤ 14)
    (h : ∀ h' t' tk, Fr h₀ L h' (fun z => if z = "text" then some (.str (rep1 x c y) t') else m z) → News h₀ L h' news → Q .next { s with heap := h', toks := tk })
    (he : eval (.Call (.Attribute (.Name "text" q5) "replace" q6) [.Constant (.str c) k2 q7, .Constant (.str y) k3 q8] [] q9) (envOf name scope L a cd) = (do
      let ov ← eval (.Name "text" q5) (envOf name scope L a cd)
      standAt q6.atName
      let (f, first) ← holding [ov] (getMethod ov "replace" pl)
      callWith q9 f first (backTo q9 (starEach [.Constant (.str c) k2 q7, .Constant (.str y) k3 q8] (envOf name scope L a cd))) [])) :
    wpAny (model prog w) A (exec (.If (.Compare (.Constant (.str c) k1 q1) [.In] [.Name "text" q2] q3)
      [.Assign [.Name "text" q4] (.Call (.Attribute (.Name "text" q5) "replace" q6) [.Constant (.str c) k2 q7, .Constant (.str y) k3 q8] [] q9) q10] [] q11) (envOf name scope L a cd)) Q E s := by
  refine wpAny_If (wpAny_isTrue_Compare1 (Constant_str (ld F hv (in_str (wpAny_truthy_bool ?_)) hk hl)))
  unfold rep1 at h
  cases hc : (Builtin.Str.occurrences x c 0 x.length 1).isEmpty with
  | true =>
    rw [hc, if_pos rfl] at h
    simp only [Bool.not_true, Bool.false_eq_true, if_false]
    refine wpAny_execs_nil (h _ t _ ?_ N)
    have e : (fun z : Str => if z = "text" then some (Value.str x t) else m z) = m := by
      funext z; split
      · rename_i e; rw [e, hv]
      · rfl
    rw [e]; exact F
  | false =>
    rw [hc, if_neg (by decide)] at h
    simp only [Bool.not_false, if_true]
    refine wpAny_execs_cons (wpAny_Assign_Name (MethodCall_ (ld (s := { s with toks := s.toks + 1 }) F hv (GM.replace (callWith_method1 (args_cons (Constant_str (args_cons (Constant_str (args_nil ?_))))))) hk hl) (he := he)))
    refine SC.replaceW (by show s.toks + 1 ≠ 0; omega) (by show s.toks + 1 + 1 ≠ 0; omega) (by show s.toks + 1 ≠ s.toks + 1 + 1; omega) hcy hx hy fun t' k => ?_
    refine stN (s := { s with toks := k }) F N (fun h' F' N' => ?_) hk hl
    exact wpAny_execs_nil (h _ t' _ F' N')
end Mine
end
noncomputable section
-- WE3
open PySem PySem.W PyProof.Rows
set_option maxRecDepth 100000
set_option maxHeartbeats 0
namespace Mine
open PySem.Calls PyProof.V PySem.Spec Builtin
section
variable {w : World} {mean : ExcName → Option Value} {mg mb : Str → Option Value} {news : List (Addr × Obj)} {x : Str} {t : Tok}
noncomputable def esc_cdata (x : Str) : Str := rep1 (rep1 (rep1 (x) (Str.ofString "&") (Str.ofString "&amp;")) (Str.ofString "<") (Str.ofString "&lt;")) (Str.ofString ">") (Str.ofString "&gt;")
noncomputable def fit_cdata (x : Str) : Prop := (x).length ≤ 1048576 ∧ (rep1 (x) (Str.ofString "&") (Str.ofString "&amp;")).length ≤ 1048576 ∧ (rep1 (rep1 (x) (Str.ofString "&") (Str.ofString "&amp;")) (Str.ofString "<") (Str.ofString "&lt;")).length ≤ 1048576
theorem esc_cdata_claim : Claim w mean mg mb 182 news (fit_cdata x) [.str x t] (fun v new => ∃ t', v = .str (esc_cdata x) t' ∧ new = news) := by
  unfold Claim
  k_fill
  intros
  rename_i hp _ _ hret
  obtain ⟨g0, g1, g2⟩ := hp
  refine wpAny_call ?_
  (k_dflt (refine' code_def ?k1 ?k2 ?k3 ?k4 ?k5 ?kA ?kF ?kK ?k6 ?k7 ?k8 ?k9 ?kB ?_ ?c2 ?c3 ?c4 ?c5; (case kA => exact rfl); (case kF => exact rfl); (case kK => assumption); (case k1 => k_asm); (case k2 => k_asm); (case k3 => k_asm); (case k4 => k_asm); (case k5 => k_asm); (case k6 => k_is); (case k7 => k_is); (case k8 => ktr_room); (case k9 => exact BindsTo.of_eq rfl); (case c5 => decide); (case kB => exact locs rfl); (case c2 => exact rfl); (case c3 => exact rfl); (case c4 => exact rfl); k_whole; intro g' L' h' FG' F' N' B' X' T'; (try dsimp only); (try k_fold)))
  refine wpAny_execs_cons ?_
  refine wpAny_Try_except ?_
  refine wpAny_execs_cons ?_
  k_dflt (refine' esc_if ?k1 ?k2 ?k3 ?k4 ?k5 ?k6 ?k7 ?k8 ?_ ?k10; (case k1 => k_asm); (case k2 => k_asm); (case k3 => rfl); (case k4 => rfl); (case k5 => rfl); (case k6 => decide); (case k7 => assumption); (case k8 => decide); (case k10 => rfl); k_whole)
  intro h0 t0 tk0 F0 N0
  dsimp only
  refine wpAny_execs_cons ?_
  k_dflt (refine' esc_if ?k1 ?k2 ?k3 ?k4 ?k5 ?k6 ?k7 ?k8 ?_ ?k10; (case k1 => k_asm); (case k2 => k_asm); (case k3 => rfl); (case k4 => rfl); (case k5 => rfl); (case k6 => decide); (case k7 => assumption); (case k8 => decide); (case k10 => rfl); k_whole)
  intro h1 t1 tk1 F1 N1
  dsimp only
  refine wpAny_execs_cons ?_
  k_dflt (refine' esc_if ?k1 ?k2 ?k3 ?k4 ?k5 ?k6 ?k7 ?k8 ?_ ?k10; (case k1 => k_asm); (case k2 => k_asm); (case k3 => rfl); (case k4 => rfl); (case k5 => rfl); (case k6 => decide); (case k7 => assumption); (case k8 => decide); (case k10 => rfl); k_whole)
  intro h2 t2 tk2 F2 N2
  dsimp only
  k_steps
  all_goals exact hret _ _ _ _ ⟨_, rfl, rfl⟩ (by assumption) (by assumption)
noncomputable def esc_attrib (x : Str) : Str := rep1 (rep1 (rep1 (rep1 (rep1 (rep1 (rep1 (x) (Str.ofString "&") (Str.ofString "&amp;")) (Str.ofString "<") (Str.ofString "&lt;")) (Str.ofString ">") (Str.ofString "&gt;")) (Str.ofString "\"") (Str.ofString "&quot;")) (Str.ofString "\r") (Str.ofString "&#13;")) (Str.ofString "\n") (Str.ofString "&#10;")) (Str.ofString "\t") (Str.ofString "&#09;")
noncomputable def fit_attrib (x : Str) : Prop := (x).length ≤ 1048576 ∧ (rep1 (x) (Str.ofString "&") (Str.ofString "&amp;")).length ≤ 1048576 ∧ (rep1 (rep1 (x) (Str.ofString "&") (Str.ofString "&amp;")) (Str.ofString "<") (Str.ofString "&lt;")).length ≤ 1048576 ∧ (rep1 (rep1 (rep1 (x) (Str.ofString "&") (Str.ofString "&amp;")) (Str.ofString "<") (Str.ofString "&lt;")) (Str.ofString ">") (Str.ofString "&gt;")).length ≤ 1048576 ∧ (rep1 (rep1 (rep1 (rep1 (x) (Str.ofString "&") (Str.ofString "&amp;")) (Str.ofString "<") (Str.ofString "&lt;")) (Str.ofString ">") (Str.ofString "&gt;")) (Str.ofString "\"") (Str.ofString "&quot;")).length ≤ 1048576 ∧ (rep1 (rep1 (rep1 (rep1 (rep1 (x) (Str.ofString "&") (Str.ofString "&amp;")) (Str.ofString "<") (Str.ofString "&lt;")) (Str.ofString ">") (Str.ofString "&gt;")) (Str.ofString "\"") (Str.ofString "&quot;")) (Str.ofString "\r") (Str.ofString "&#13;")).length ≤ 1048576 ∧ (rep1 (rep1 (rep1 (rep1 (rep1 (rep1 (x) (Str.ofString "&") (Str.ofString "&amp;")) (Str.ofString "<") (Str.ofString "&lt;")) (Str.ofString ">") (Str.ofString "&gt;")) (Str.ofString "\"") (Str.ofString "&quot;")) (Str.ofString "\r") (Str.ofString "&#13;")) (Str.ofString "\n") (Str.ofString "&#10;")).length ≤ 1048576
theorem esc_attrib_claim : Claim w mean mg mb 189 news (fit_attrib x) [.str x t] (fun v new => ∃ t', v = .str (esc_attrib x) t' ∧ new = news) := by
  unfold Claim
  k_fill
  intros
  rename_i hp _ _ hret
  obtain ⟨g0, g1, g2, g3, g4, g5, g6⟩ := hp
  refine wpAny_call ?_
  (k_dflt (refine' code_def ?k1 ?k2 ?k3 ?k4 ?k5 ?kA ?kF ?kK ?k6 ?k7 ?k8 ?k9 ?kB ?_ ?c2 ?c3 ?c4 ?c5; (case kA => exact rfl); (case kF => exact rfl); (case kK => assumption); (case k1 => k_asm); (case k2 => k_asm); (case k3 => k_asm); (case k4 => k_asm); (case k5 => k_asm); (case k6 => k_is); (case k7 => k_is); (case k8 => ktr_room); (case k9 => exact BindsTo.of_eq rfl); (case c5 => decide); (case kB => exact locs rfl); (case c2 => exact rfl); (case c3 => exact rfl); (case c4 => exact rfl); k_whole; intro g' L' h' FG' F' N' B' X' T'; (try dsimp only); (try k_fold)))
  refine wpAny_execs_cons ?_
  refine wpAny_Try_except ?_
  refine wpAny_execs_cons ?_
  k_dflt (refine' esc_if ?k1 ?k2 ?k3 ?k4 ?k5 ?k6 ?k7 ?k8 ?_ ?k10; (case k1 => k_asm); (case k2 => k_asm); (case k3 => rfl); (case k4 => rfl); (case k5 => rfl); (case k6 => decide); (case k7 => assumption); (case k8 => decide); (case k10 => rfl); k_whole)
  intro h0 t0 tk0 F0 N0
  dsimp only
  refine wpAny_execs_cons ?_
  k_dflt (refine' esc_if ?k1 ?k2 ?k3 ?k4 ?k5 ?k6 ?k7 ?k8 ?_ ?k10; (case k1 => k_asm); (case k2 => k_asm); (case k3 => rfl); (case k4 => rfl); (case k5 => rfl); (case k6 => decide); (case k7 => assumption); (case k8 => decide); (case k10 => rfl); k_whole)
  intro h1 t1 tk1 F1 N1
  dsimp only
  refine wpAny_execs_cons ?_
  k_dflt (refine' esc_if ?k1 ?k2 ?k3 ?k4 ?k5 ?k6 ?k7 ?k8 ?_ ?k10; (case k1 => k_asm); (case k2 => k_asm); (case k3 => rfl); (case k4 => rfl); (case k5 => rfl); (case k6 => decide); (case k7 => assumption); (case k8 => decide); (case k10 => rfl); k_whole)
  intro h2 t2 tk2 F2 N2
  dsimp only
  refine wpAny_execs_cons ?_
  k_dflt (refine' esc_if ?k1 ?k2 ?k3 ?k4 ?k5 ?k6 ?k7 ?k8 ?_ ?k10; (case k1 => k_asm); (case k2 => k_asm); (case k3 => rfl); (case k4 => rfl); (case k5 => rfl); (case k6 => decide); (case k7 => assumption); (case k8 => decide); (case k10 => rfl); k_whole)
  intro h3 t3 tk3 F3 N3
  dsimp only
  refine wpAny_execs_cons ?_
  k_dflt (refine' esc_if ?k1 ?k2 ?k3 ?k4 ?k5 ?k6 ?k7 ?k8 ?_ ?k10; (case k1 => k_asm); (case k2 => k_asm); (case k3 => rfl); (case k4 => rfl); (case k5 => rfl); (case k6 => decide); (case k7 => assumption); (case k8 => decide); (case k10 => rfl); k_whole)
  intro h4 t4 tk4 F4 N4
  dsimp only
  refine wpAny_execs_cons ?_
  k_dflt (refine' esc_if ?k1 ?k2 ?k3 ?k4 ?k5 ?k6 ?k7 ?k8 ?_ ?k10; (case k1 => k_asm); (case k2 => k_asm); (case k3 => rfl); (case k4 => rfl); (case k5 => rfl); (case k6 => decide); (case k7 => assumption); (case k8 => decide); (case k10 => rfl); k_whole)
  intro h5 t5 tk5 F5 N5
  dsimp only
  refine wpAny_execs_cons ?_
  k_dflt (refine' esc_if ?k1 ?k2 ?k3 ?k4 ?k5 ?k6 ?k7 ?k8 ?_ ?k10; (case k1 => k_asm); (case k2 => k_asm); (case k3 => rfl); (case k4 => rfl); (case k5 => rfl); (case k6 => decide); (case k7 => assumption); (case k8 => decide); (case k10 => rfl); k_whole)
  intro h6 t6 tk6 F6 N6
  dsimp only
  k_steps
  all_goals exact hret _ _ _ _ ⟨_, rfl, rfl⟩ (by assumption) (by assumption)
noncomputable def esc_html (x : Str) : Str := rep1 (rep1 (rep1 (x) (Str.ofString "&") (Str.ofString "&amp;")) (Str.ofString ">") (Str.ofString "&gt;")) (Str.ofString "\"") (Str.ofString "&quot;")
noncomputable def fit_html (x : Str) : Prop := (x).length ≤ 1048576 ∧ (rep1 (x) (Str.ofString "&") (Str.ofString "&amp;")).length ≤ 1048576 ∧ (rep1 (rep1 (x) (Str.ofString "&") (Str.ofString "&amp;")) (Str.ofString ">") (Str.ofString "&gt;")).length ≤ 1048576
theorem esc_html_claim : Claim w mean mg mb 196 news (fit_html x) [.str x t] (fun v new => ∃ t', v = .str (esc_html x) t' ∧ new = news) := by
  unfold Claim
  k_fill
  intros
  rename_i hp _ _ hret
  obtain ⟨g0, g1, g2⟩ := hp
  refine wpAny_call ?_
  (k_dflt (refine' code_def ?k1 ?k2 ?k3 ?k4 ?k5 ?kA ?kF ?kK ?k6 ?k7 ?k8 ?k9 ?kB ?_ ?c2 ?c3 ?c4 ?c5; (case kA => exact rfl); (case kF => exact rfl); (case kK => assumption); (case k1 => k_asm); (case k2 => k_asm); (case k3 => k_asm); (case k4 => k_asm); (case k5 => k_asm); (case k6 => k_is); (case k7 => k_is); (case k8 => ktr_room); (case k9 => exact BindsTo.of_eq rfl); (case c5 => decide); (case kB => exact locs rfl); (case c2 => exact rfl); (case c3 => exact rfl); (case c4 => exact rfl); k_whole; intro g' L' h' FG' F' N' B' X' T'; (try dsimp only); (try k_fold)))
  refine wpAny_execs_cons ?_
  refine wpAny_Try_except ?_
  refine wpAny_execs_cons ?_
  k_dflt (refine' esc_if ?k1 ?k2 ?k3 ?k4 ?k5 ?k6 ?k7 ?k8 ?_ ?k10; (case k1 => k_asm); (case k2 => k_asm); (case k3 => rfl); (case k4 => rfl); (case k5 => rfl); (case k6 => decide); (case k7 => assumption); (case k8 => decide); (case k10 => rfl); k_whole)
  intro h0 t0 tk0 F0 N0
  dsimp only
  refine wpAny_execs_cons ?_
  k_dflt (refine' esc_if ?k1 ?k2 ?k3 ?k4 ?k5 ?k6 ?k7 ?k8 ?_ ?k10; (case k1 => k_asm); (case k2 => k_asm); (case k3 => rfl); (case k4 => rfl); (case k5 => rfl); (case k6 => decide); (case k7 => assumption); (case k8 => decide); (case k10 => rfl); k_whole)
  intro h1 t1 tk1 F1 N1
  dsimp only
  refine wpAny_execs_cons ?_
  k_dflt (refine' esc_if ?k1 ?k2 ?k3 ?k4 ?k5 ?k6 ?k7 ?k8 ?_ ?k10; (case k1 => k_asm); (case k2 => k_asm); (case k3 => rfl); (case k4 => rfl); (case k5 => rfl); (case k6 => decide); (case k7 => assumption); (case k8 => decide); (case k10 => rfl); k_whole)
  intro h2 t2 tk2 F2 N2
  dsimp only
  k_steps
  all_goals exact hret _ _ _ _ ⟨_, rfl, rfl⟩ (by assumption) (by assumption)
noncomputable def esc_cdata_c14n (x : Str) : Str := rep1 (rep1 (rep1 (rep1 (x) (Str.ofString "&") (Str.ofString "&amp;")) (Str.ofString "<") (Str.ofString "&lt;")) (Str.ofString ">") (Str.ofString "&gt;")) (Str.ofString "\r") (Str.ofString "&#xD;")
noncomputable def fit_cdata_c14n (x : Str) : Prop := (x).length ≤ 1048576 ∧ (rep1 (x) (Str.ofString "&") (Str.ofString "&amp;")).length ≤ 1048576 ∧ (rep1 (rep1 (x) (Str.ofString "&") (Str.ofString "&amp;")) (Str.ofString "<") (Str.ofString "&lt;")).length ≤ 1048576 ∧ (rep1 (rep1 (rep1 (x) (Str.ofString "&") (Str.ofString "&amp;")) (Str.ofString "<") (Str.ofString "&lt;")) (Str.ofString ">") (Str.ofString "&gt;")).length ≤ 1048576
theorem esc_cdata_c14n_claim : Claim w mean mg mb 203 news (fit_cdata_c14n x) [.str x t] (fun v new => ∃ t', v = .str (esc_cdata_c14n x) t' ∧ new = news) := by
  unfold Claim
  k_fill
  intros
  rename_i hp _ _ hret
  obtain ⟨g0, g1, g2, g3⟩ := hp
  refine wpAny_call ?_
  (k_dflt (refine' code_def ?k1 ?k2 ?k3 ?k4 ?k5 ?kA ?kF ?kK ?k6 ?k7 ?k8 ?k9 ?kB ?_ ?c2 ?c3 ?c4 ?c5; (case kA => exact rfl); (case kF => exact rfl); (case kK => assumption); (case k1 => k_asm); (case k2 => k_asm); (case k3 => k_asm); (case k4 => k_asm); (case k5 => k_asm); (case k6 => k_is); (case k7 => k_is); (case k8 => ktr_room); (case k9 => exact BindsTo.of_eq rfl); (case c5 => decide); (case kB => exact locs rfl); (case c2 => exact rfl); (case c3 => exact rfl); (case c4 => exact rfl); k_whole; intro g' L' h' FG' F' N' B' X' T'; (try dsimp only); (try k_fold)))
  refine wpAny_execs_cons ?_
  refine wpAny_Try_except ?_
  refine wpAny_execs_cons ?_
  k_dflt (refine' esc_if ?k1 ?k2 ?k3 ?k4 ?k5 ?k6 ?k7 ?k8 ?_ ?k10; (case k1 => k_asm); (case k2 => k_asm); (case k3 => rfl); (case k4 => rfl); (case k5 => rfl); (case k6 => decide); (case k7 => assumption); (case k8 => decide); (case k10 => rfl); k_whole)
  intro h0 t0 tk0 F0 N0
  dsimp only
  refine wpAny_execs_cons ?_
  k_dflt (refine' esc_if ?k1 ?k2 ?k3 ?k4 ?k5 ?k6 ?k7 ?k8 ?_ ?k10; (case k1 => k_asm); (case k2 => k_asm); (case k3 => rfl); (case k4 => rfl); (case k5 => rfl); (case k6 => decide); (case k7 => assumption); (case k8 => decide); (case k10 => rfl); k_whole)
  intro h1 t1 tk1 F1 N1
  dsimp only
  refine wpAny_execs_cons ?_
  k_dflt (refine' esc_if ?k1 ?k2 ?k3 ?k4 ?k5 ?k6 ?k7 ?k8 ?_ ?k10; (case k1 => k_asm); (case k2 => k_asm); (case k3 => rfl); (case k4 => rfl); (case k5 => rfl); (case k6 => decide); (case k7 => assumption); (case k8 => decide); (case k10 => rfl); k_whole)
  intro h2 t2 tk2 F2 N2
  dsimp only
  refine wpAny_execs_cons ?_
  k_dflt (refine' esc_if ?k1 ?k2 ?k3 ?k4 ?k5 ?k6 ?k7 ?k8 ?_ ?k10; (case k1 => k_asm); (case k2 => k_asm); (case k3 => rfl); (case k4 => rfl); (case k5 => rfl); (case k6 => decide); (case k7 => assumption); (case k8 => decide); (case k10 => rfl); k_whole)
  intro h3 t3 tk3 F3 N3
  dsimp only
  k_steps
  all_goals exact hret _ _ _ _ ⟨_, rfl, rfl⟩ (by assumption) (by assumption)
noncomputable def esc_attrib_c14n (x : Str) : Str := rep1 (rep1 (rep1 (rep1 (rep1 (rep1 (x) (Str.ofString "&") (Str.ofString "&amp;")) (Str.ofString "<") (Str.ofString "&lt;")) (Str.ofString "\"") (Str.ofString "&quot;")) (Str.ofString "\t") (Str.ofString "&#x9;")) (Str.ofString "\n") (Str.ofString "&#xA;")) (Str.ofString "\r") (Str.ofString "&#xD;")
noncomputable def fit_attrib_c14n (x : Str) : Prop := (x).length ≤ 1048576 ∧ (rep1 (x) (Str.ofString "&") (Str.ofString "&amp;")).length ≤ 1048576 ∧ (rep1 (rep1 (x) (Str.ofString "&") (Str.ofString "&amp;")) (Str.ofString "<") (Str.ofString "&lt;")).length ≤ 1048576 ∧ (rep1 (rep1 (rep1 (x) (Str.ofString "&") (Str.ofString "&amp;")) (Str.ofString "<") (Str.ofString "&lt;")) (Str.ofString "\"") (Str.ofString "&quot;")).length ≤ 1048576 ∧ (rep1 (rep1 (rep1 (rep1 (x) (Str.ofString "&") (Str.ofString "&amp;")) (Str.ofString "<") (Str.ofString "&lt;")) (Str.ofString "\"") (Str.ofString "&quot;")) (Str.ofString "\t") (Str.ofString "&#x9;")).length ≤ 1048576 ∧ (rep1 (rep1 (rep1 (rep1 (rep1 (x) (Str.ofString "&") (Str.ofString "&amp;")) (Str.ofString "<") (Str.ofString "&lt;")) (Str.ofString "\"") (Str.ofString "&quot;")) (Str.ofString "\t") (Str.ofString "&#x9;")) (Str.ofString "\n") (Str.ofString "&#xA;")).length ≤ 1048576
theorem esc_attrib_c14n_claim : Claim w mean mg mb 210 news (fit_attrib_c14n x) [.str x t] (fun v new => ∃ t', v = .str (esc_attrib_c14n x) t' ∧ new = news) := by
  unfold Claim
  k_fill
  intros
  rename_i hp _ _ hret
  obtain ⟨g0, g1, g2, g3, g4, g5⟩ := hp
  refine wpAny_call ?_
  (k_dflt (refine' code_def ?k1 ?k2 ?k3 ?k4 ?k5 ?kA ?kF ?kK ?k6 ?k7 ?k8 ?k9 ?kB ?_ ?c2 ?c3 ?c4 ?c5; (case kA => exact rfl); (case kF => exact rfl); (case kK => assumption); (case k1 => k_asm); (case k2 => k_asm); (case k3 => k_asm); (case k4 => k_asm); (case k5 => k_asm); (case k6 => k_is); (case k7 => k_is); (case k8 => ktr_room); (case k9 => exact BindsTo.of_eq rfl); (case c5 => decide); (case kB => exact locs rfl); (case c2 => exact rfl); (case c3 => exact rfl); (case c4 => exact rfl); k_whole; intro g' L' h' FG' F' N' B' X' T'; (try dsimp only); (try k_fold)))
  refine wpAny_execs_cons ?_
  refine wpAny_Try_except ?_
  refine wpAny_execs_cons ?_
  k_dflt (refine' esc_if ?k1 ?k2 ?k3 ?k4 ?k5 ?k6 ?k7 ?k8 ?_ ?k10; (case k1 => k_asm); (case k2 => k_asm); (case k3 => rfl); (case k4 => rfl); (case k5 => rfl); (case k6 => decide); (case k7 => assumption); (case k8 => decide); (case k10 => rfl); k_whole)
  intro h0 t0 tk0 F0 N0
  dsimp only
  refine wpAny_execs_cons ?_
  k_dflt (refine' esc_if ?k1 ?k2 ?k3 ?k4 ?k5 ?k6 ?k7 ?k8 ?_ ?k10; (case k1 => k_asm); (case k2 => k_asm); (case k3 => rfl); (case k4 => rfl); (case k5 => rfl); (case k6 => decide); (case k7 => assumption); (case k8 => decide); (case k10 => rfl); k_whole)
  intro h1 t1 tk1 F1 N1
  dsimp only
  refine wpAny_execs_cons ?_
  k_dflt (refine' esc_if ?k1 ?k2 ?k3 ?k4 ?k5 ?k6 ?k7 ?k8 ?_ ?k10; (case k1 => k_asm); (case k2 => k_asm); (case k3 => rfl); (case k4 => rfl); (case k5 => rfl); (case k6 => decide); (case k7 => assumption); (case k8 => decide); (case k10 => rfl); k_whole)
  intro h2 t2 tk2 F2 N2
  dsimp only
  refine wpAny_execs_cons ?_
  k_dflt (refine' esc_if ?k1 ?k2 ?k3 ?k4 ?k5 ?k6 ?k7 ?k8 ?_ ?k10; (case k1 => k_asm); (case k2 => k_asm); (case k3 => rfl); (case k4 => rfl); (case k5 => rfl); (case k6 => decide); (case k7 => assumption); (case k8 => decide); (case k10 => rfl); k_whole)
  intro h3 t3 tk3 F3 N3
  dsimp only
  refine wpAny_execs_cons ?_
  k_dflt (refine' esc_if ?k1 ?k2 ?k3 ?k4 ?k5 ?k6 ?k7 ?k8 ?_ ?k10; (case k1 => k_asm); (case k2 => k_asm); (case k3 => rfl); (case k4 => rfl); (case k5 => rfl); (case k6 => decide); (case k7 => assumption); (case k8 => decide); (case k10 => rfl); k_whole)
  intro h4 t4 tk4 F4 N4
  dsimp only
  refine wpAny_execs_cons ?_
  k_dflt (refine' esc_if ?k1 ?k2 ?k3 ?k4 ?k5 ?k6 ?k7 ?k8 ?_ ?k10; (case k1 => k_asm); (case k2 => k_asm); (case k3 => rfl); (case k4 => rfl); (case k5 => rfl); (case k6 => decide); (case k7 => assumption); (case k8 => decide); (case k10 => rfl); k_whole)
  intro h5 t5 tk5 F5 N5
  dsimp only
  k_steps
  all_goals exact hret _ _ _ _ ⟨_, rfl, rfl⟩ (by assumption) (by assumption)
end
end Mine
end
noncomputable section
-- WA1
open PySem PySem.W PyProof.Rows
set_option maxRecDepth 100000
set_option maxHeartbeats 0
namespace Mine
open PySem.Calls PyProof.V PySem.Spec Builtin
local macro_rules | `(tactic| walk_at "newTuple") => `(tactic| (k_here; k_dflt (refine' newTuple_L ?k1 ?k2 ?_; (case k1 => k_asm); (case k2 => k_asm); k_whole); intro l' h' F' N' l1; (have l0 := l1; try k_lt l1); (try k_sweep)))
noncomputable def lettersF (k : Int) : Str := if k = 0 then Str.ofString "fil" else if k = 1 then Str.ofString "stvm" else if k = 2 then Str.ofString "mabv" else if k = 3 then Str.ofString "kabv" else if k = 4 then Str.ofString "nafv" else Str.ofString "pafv"
noncomputable def doublesF (k : Int) : Str := if k = 0 then Str.ofString "ﬁﬂ" else if k = 1 then Str.ofString "ﬆ㏜℠" else if k = 2 then Str.ofString "㎃㎆㎷" else if k = 3 then Str.ofString "㎄㎅㎸" else if k = 4 then Str.ofString "㎁㎋㎵" else Str.ofString "㎀㎊㎴"
section
variable {w : World} {mean : ExcName → Option Value} {mg mb : Str → Option Value} {news : List (Addr × Obj)} {k : Int} {t : Tok}
theorem alphabet_claim : Claim w mean mg mb 217 news True [.int k t] (fun v new => ∃ p t1 t2, v = .ref p ∧ new = (p, tupO #[.str (lettersF k) t1, .str (doublesF k) t2]) :: news ∧ ∀ q ∈ news, q.1 < p) := by
  unfold Claim
  k_fill
  intros
  rename_i hret
  refine wpAny_call ?_
  (k_dflt (refine' code_def ?k1 ?k2 ?k3 ?k4 ?k5 ?kA ?kF ?kK ?k6 ?k7 ?k8 ?k9 ?kB ?_ ?c2 ?c3 ?c4 ?c5; (case kA => exact rfl); (case kF => exact rfl); (case kK => assumption); (case k1 => k_asm); (case k2 => k_asm); (case k3 => k_asm); (case k4 => k_asm); (case k5 => k_asm); (case k6 => k_is); (case k7 => k_is); (case k8 => ktr_room); (case k9 => exact BindsTo.of_eq rfl); (case c5 => decide); (case kB => exact locs rfl); (case c2 => exact rfl); (case c3 => exact rfl); (case c4 => exact rfl); k_whole; intro g' L' h' FG' F' N' B' X' T'; (try dsimp only); (try k_lift B'); (try k_fold)))
  k_steps
  any_goals (subst_vars; exact hret _ _ _ _ ⟨_, _, _, rfl, rfl, (by assumption)⟩ (by assumption) (by assumption))
  all_goals (
    have e0 : ¬ k = 0 := by assumption
    have e1 : ¬ k = 1 := by assumption
    have e2 : ¬ k = 2 := by assumption
    have e3 : ¬ k = 3 := by assumption
    have e4 : ¬ k = 4 := by assumption
    exact hret _ _ _ _ ⟨_, _, _, rfl, (by unfold lettersF doublesF; rw [if_neg e0, if_neg e1, if_neg e2, if_neg e3, if_neg e4, if_neg e0, if_neg e1, if_neg e2, if_neg e3, if_neg e4]), (by assumption)⟩ (by assumption) (by assumption))
end
end Mine
end
noncomputable section
-- WA2
open PySem PySem.W PyProof.Rows
set_option maxRecDepth 100000
set_option maxHeartbeats 0
namespace Mine
open PySem.Calls PyProof.V PySem.Spec Builtin
noncomputable def whBodyOf : List Stmt → List Stmt
  | [_, .While _ b _ _, _] => b
  | _ => []
@[reducible] noncomputable def gl29 {x : List Stmt} (a b : Stmt) (_ : x = [a, b]) : List Stmt := [a, b]
@[reducible] noncomputable def wB : List Stmt := gl29 _ _ (rfl : whBodyOf b19 = [_, _])
noncomputable def whTestOf : List Stmt → Expr
  | [_, .While t _ _ _, _] => t
  | _ => .Constant .none 0 default
@[reducible] noncomputable def exCmp9 {x : Expr} (l : Expr) (o : List CmpOp) (r : List Expr) (p : Pos) (_ : x = .Compare l o r p) : Expr := .Compare l o r p
@[reducible] noncomputable def wT : Expr := exCmp9 _ _ _ _ (rfl : whTestOf b19 = .Compare _ _ _ _)
noncomputable def wgo (k : Int) : Nat → List Int → List Int
  | 0, zs => zs
  | n + 1, zs => wgo k n (zs ++ [(zs.drop (zs.length - k.toNat)).sum + (if (zs.length : Int) < k then 1 else 0)])
theorem append2_K {prog : Program} {w : World} {A : Around} {E : Value → Shared → Prop} {s : Shared} {h₀ : Heap} {L D : Addr} {m : Str → Option Value} {news news' : List (Addr × Obj)} {l : List Value} {n : Nat} {x : Value} {Q : Value → Shared → Prop} (F : Fr h₀ L s.heap m) (N : News h₀ L s.heap news) (U : Upd D (listOf l.toArray n) (listOf (l ++ [x]).toArray (n + 1)) news news')
    (h : ∀ h', Fr h₀ L h' m → News h₀ L h' news' → Q .none { s with heap := h' }) (hsz : l.length ≤ 900) : wpAny (model prog w) A (call (.builtin "list.append") [.ref D, x]) Q E s :=
  append_K F N (by rw [List.push_toArray]; exact U) h (by rw [sizeLine_eq]; simp; omega)
theorem ints_snoc {its : List Value} {zs : List Int} {z : Int} {t : Tok} (h : IntsAre its zs) : IntsAre (its ++ [.int z t]) (zs ++ [z]) := by
  induction h with
  | nil => exact .cons _ _ .nil
  | cons z t _ ih => exact .cons _ _ ih
local macro_rules | `(tactic| walk_at "eval Name") => `(tactic| (k_here; name_kind "local"; k_dflt (first | (refine' ld ?k1 ?k2 ?_ ?k3 ?k4; (case k1 => k_asm); (case k2 => assumption); (case k3 => rfl); (case k4 => rfl); k_whole) | fail "no")))
local macro_rules | `(tactic| k_all) => `(tactic| assumption)
local macro_rules | `(tactic| walk_at "call builtin:len") => `(tactic| (k_here; k_dflt (refine' kun_lenL ?k1 ?k2 ?k3 ?_; (case k1 => exact News.isList (by k_asm) (by k_mem)); (case k2 => rfl); (case k3 => simp; omega); k_whole)))
local macro_rules | `(tactic| walk_at "call builtin:list.append") => `(tactic| (k_here; k_dflt (refine' append2_K ?k1 ?k2 ?k3 ?_ ?z; (case k1 => k_asm); (case k2 => k_asm); (case k3 => k_upd); (case z => omega); k_whole); intro h' F' N'))
local macro_rules | `(tactic| walk_at "subscriptTail Name Slice ref ref") => `(tactic| (k_here; k_dflt (refine' kmk_slice_ints ?F ?N ?l ?p ?q ?i ?m ?c ?_ ?s ?t ?z; (case F => k_asm); (case N => k_asm); (case l => exact News.isList (by k_asm) (by k_mem)); (case p => exact IsPart.int _ _); (case q => exact IsPart.none); (case i => assumption); (case m => exact kmk_from_neg (by assumption) (by omega)); (case c => exact List.length_drop ..); (case s => with_unfolding_all rfl); (case t => kmk_pure); (case z => rw [List.size_toArray, sizeLine_eq]; omega)); intro D' ws' h' F' N' l1 hI' hC' hL'; (try simp only [Int.neg_neg] at hI'); (try k_lt l1)))
section
variable {w : World} {mean : ExcName → Option Value} {mg mb : Str → Option Value} {p : Program} {loose : List Str} {dp un : Nat} {gd : Option (List Code)} {cn : Str} {cs : Scope} {L0 a0 : Addr} {ccd : Value} {cl : List (Str × Addr)} {outer outer2 : List Env} {base h₀ : Heap} {s : Shared} {L l : Addr} {cd : Value} {m : Str → Option Value} {Q : Flow → Shared → Prop} {E : Value → Shared → Prop} {its : List Value} {zs : List Int} {c : Nat} {k : Int} {t : Tok} {news : List (Addr × Obj)}
theorem wbody (K : Below (ktrTop dp un gd cn cs L0 a0 ccd cl outer) base outer2 h₀) (X : (KK w.params).In h₀) (T : Top p loose mean mg mb h₀) (F : Fr h₀ L s.heap m) (N : News h₀ L s.heap ((l, listOf its.toArray c) :: news)) (mw : m "weights" = some (.ref l)) (mm : m "most" = some (.int k t)) (hI : IntsAre its zs) (h1 : 1 ≤ its.length) (h2 : its.length ≤ 6) (hk : 2 ≤ k) (hk2 : k ≤ 4) (hl : ∀ p ∈ news, p.1 ≠ l)
    (hQ : ∀ h' tk' m' t' c' D ob, m' "weights" = some (.ref l) → m' "most" = some (.int k t) → Fr h₀ L h' m' → News h₀ L h' ((D, ob) :: (l, listOf (its ++ [Value.int ((zs.drop (zs.length - k.toNat)).sum + (if (zs.length : Int) < k then 1 else 0)) t']).toArray c') :: news) → @LT.lt Nat _ l D → Q .next { s with heap := h', toks := tk' }) :
    wpAny (model PySem.Challenge.rw_xo0036_01.row.prog w) ((ktrTop dp un gd cn cs L0 a0 ccd cl outer).deeper (envOf (Str.ofString "_law_weights") s19 L 229 cd)) (execs wB (envOf (Str.ofString "_law_weights") s19 L 229 cd)) Q E s := by
  have hzl := hI.length
  have hsz : ((its.toArray.size : Nat) : Int) = (zs.length : Int) := by rw [List.size_toArray, hzl]
  revert X
  k_fill
  intro X
  k_steps
  · have e9 : (if (zs.length : Int) < k then (1 : Int) else 0) = 1 := if_pos (by omega)
    rw [e9] at hQ
    refine hQ _ _ _ _ _ _ _ ?_ ?_ (by assumption) (by assumption) (by omega)
    · exact (if_neg (by decide)).trans mw
    · exact (if_neg (by decide)).trans mm
  · have e9 : (if (zs.length : Int) < k then (1 : Int) else 0) = 0 := if_neg (by omega)
    rw [e9] at hQ
    refine hQ _ _ _ _ _ _ _ ?_ ?_ (by assumption) (by assumption) (by omega)
    · exact (if_neg (by decide)).trans mw
    · exact (if_neg (by decide)).trans mm
theorem wtest (K : Below (ktrTop dp un gd cn cs L0 a0 ccd cl outer) base outer2 h₀) (X : (KK w.params).In h₀) (T : Top p loose mean mg mb h₀) (F : Fr h₀ L s.heap m) (N : News h₀ L s.heap ((l, listOf its.toArray c) :: news)) (mw : m "weights" = some (.ref l)) (h2 : its.length ≤ 7) {R : Bool → Shared → Prop}
    (hQ : ∀ tk', R (decide ((its.length : Int) < 7)) { s with toks := tk' }) :
    wpAny (model PySem.Challenge.rw_xo0036_01.row.prog w) ((ktrTop dp un gd cn cs L0 a0 ccd cl outer).deeper (envOf (Str.ofString "_law_weights") s19 L 229 cd)) (isTrue wT (envOf (Str.ofString "_law_weights") s19 L 229 cd) (eval wT (envOf (Str.ofString "_law_weights") s19 L 229 cd))) R E s := by
  have hsz : ((its.toArray.size : Nat) : Int) = (its.length : Int) := by rw [List.size_toArray]
  revert X
  k_fill
  intro X
  k_steps
  rw [hsz]
  exact hQ _
theorem wloop (K : Below (ktrTop dp un gd cn cs L0 a0 ccd cl outer) base outer2 h₀) (X : (KK w.params).In h₀) (T : Top p loose mean mg mb h₀) (hk : 2 ≤ k) (hk2 : k ≤ 4) (hE : PassesOwn (model PySem.Challenge.rw_xo0036_01.row.prog w) ((ktrTop dp un gd cn cs L0 a0 ccd cl outer).deeper (envOf (Str.ofString "_law_weights") s19 L 229 cd)) (envOf (Str.ofString "_law_weights") s19 L 229 cd) E) :
    ∀ (n : Nat) (its : List Value) (zs : List Int) (c : Nat) (news : List (Addr × Obj)) (m : Str → Option Value) (s : Shared), Fr h₀ L s.heap m → News h₀ L s.heap ((l, listOf its.toArray c) :: news) → m "weights" = some (.ref l) → m "most" = some (.int k t) → IntsAre its zs → its.length + n = 7 → 1 ≤ its.length → (∀ p ∈ news, p.1 ≠ l) →
      (∀ h' tk' m' its' c' news', m' "weights" = some (.ref l) → Fr h₀ L h' m' → News h₀ L h' ((l, listOf its'.toArray c') :: news') → IntsAre its' (wgo k n zs) → (∀ p ∈ news, p ∈ news') → Q .next { s with heap := h', toks := tk' }) →
      PySem.W.WhlRest PySem.Challenge.rw_xo0036_01.row.prog w ((ktrTop dp un gd cn cs L0 a0 ccd cl outer).deeper (envOf (Str.ofString "_law_weights") s19 L 229 cd)) E (envOf (Str.ofString "_law_weights") s19 L 229 cd) wT wB [] Q (n + 1) s
  | 0, its, zs, c, news, m, s, F, N, mw, mm, hI, hn, h1, hl, cont => by
    refine PySem.W.whl_turn hE (wtest K X T F N mw (by omega) fun tk => ?_)
    rw [show decide ((its.length : Int) < 7) = false from decide_eq_false (by omega)]
    exact PySem.W.WhlIf.no rfl (wpAny_execs_nil (cont _ _ _ _ _ _ mw F N hI fun _ h => h))
  | n + 1, its, zs, c, news, m, s, F, N, mw, mm, hI, hn, h1, hl, cont => by
    refine PySem.W.whl_turn hE (wtest K X T F N mw (by omega) fun tk => ?_)
    rw [show decide ((its.length : Int) < 7) = true from decide_eq_true (by omega)]
    refine PySem.W.WhlIf.yes rfl (wbody K X T F N mw mm hI h1 (by omega) hk hk2 hl fun h' tk' m' t' c' D ob mw' mm' F' N' hD => ?_)
    refine wloop K X T hk hk2 hE n _ _ c' ((D, ob) :: news) m' _ F' (cb_drop N' (List.forall_mem_cons.mpr ⟨.tail _ (.head _), List.forall_mem_cons.mpr ⟨.head _, fun p hp => .tail _ (.tail _ hp)⟩⟩)) mw' mm' (ints_snoc hI) (by rw [List.length_append, List.length_singleton]; omega) (by rw [List.length_append]; omega) (List.forall_mem_cons.mpr ⟨Nat.ne_of_gt hD, hl⟩) fun h'' tk'' m'' its' c'' news' a1 a2 a3 a4 a5 => ?_
    exact cont h'' tk'' m'' its' c'' news' a1 a2 a3 a4 fun p hp => a5 p (.tail _ hp)
end
noncomputable def weightsF (k : Int) : List Int := if k = 2 then [1, 2, 3, 5, 8, 13, 21] else if k = 3 then [1, 2, 4, 7, 13, 24, 44] else [1, 2, 4, 8, 15, 29, 56]
section
variable {w : World} {mean : ExcName → Option Value} {mg mb : Str → Option Value} {news : List (Addr × Obj)} {k : Int} {t : Tok}
theorem weights_claimG (hk : 2 ≤ k) (hk2 : k ≤ 4) : Claim w mean mg mb 229 news True [.int k t] (fun v new => ∃ p c its, v = .ref p ∧ IntsAre its (wgo k 6 [1]) ∧ new = (p, listOf its.toArray c) :: news ∧ ∀ q ∈ news, q.1 < p) := by
  unfold Claim
  k_fill
  intros
  rename_i hret
  refine wpAny_call ?_
  (k_dflt (refine' code_def ?k1 ?k2 ?k3 ?k4 ?k5 ?kA ?kF ?kK ?k6 ?k7 ?k8 ?k9 ?kB ?_ ?c2 ?c3 ?c4 ?c5; (case kA => exact rfl); (case kF => exact rfl); (case kK => assumption); (case k1 => k_asm); (case k2 => k_asm); (case k3 => k_asm); (case k4 => k_asm); (case k5 => k_asm); (case k6 => k_is); (case k7 => k_is); (case k8 => ktr_room); (case k9 => exact BindsTo.of_eq rfl); (case c5 => decide); (case kB => exact locs rfl); (case c2 => exact rfl); (case c3 => exact rfl); (case c4 => exact rfl); k_whole; intro g' L' h' FG' F' N' B' X' T'; (try dsimp only); (try k_lift B'); (try k_fold)))
  iterate 12 (first | walk1 | (dsimp only; walk1))
  rename Fr _ _ _ _ => F9
  rename News _ _ _ _ => N9
  refine PySem.W.whl_start 7 ?_
  refine wloop (k := k) (t := t) B' X' T' hk hk2 (by passes_own) 6 [.int 1 _] [1] _ news _ _ F9 N9 ?_ ?_ (.cons _ _ .nil) rfl (Nat.le_refl 1) ?_ fun h9 tk9 m9 its9 c9 news9 mw9 F10 N10 hI10 hs10 => ?_
  · exact if_pos rfl
  · exact (if_neg (by decide)).trans (by first | rfl | kernel_rfl)
  · exact fun p hp => Nat.ne_of_lt (by have := (by assumption : ∀ p ∈ news, p.1 < _); exact this p hp)
  · k_steps
    exact hret _ _ _ _ ⟨_, c9, its9, rfl, hI10, rfl, (by assumption)⟩ (by assumption) (cb_drop (by assumption) (List.forall_mem_cons.mpr ⟨.head _, fun p hp => .tail _ (hs10 p hp)⟩))
theorem weights_claim (h : k = 2 ∨ k = 3 ∨ k = 4) : Claim w mean mg mb 229 news True [.int k t] (fun v new => ∃ p c its, v = .ref p ∧ IntsAre its (weightsF k) ∧ new = (p, listOf its.toArray c) :: news ∧ ∀ q ∈ news, q.1 < p) := by
  have e : wgo k 6 [1] = weightsF k := by rcases h with rfl | rfl | rfl <;> decide +kernel
  rw [← e]
  exact weights_claimG (by omega) (by omega)
end
end Mine
end
noncomputable section
-- WL0
open PySem PySem.W PyProof.Rows
set_option maxRecDepth 100000
set_option maxHeartbeats 0
namespace Mine
open PySem.Calls PyProof.V PySem.Spec Builtin
section
variable {prog : Program} {w : World} {A : Around} {E : Value → Shared → Prop} {s : Shared} {env : Env} {h₀ : Heap} {target : Expr} {body : List Stmt} {Q : Flow → Shared → Prop}
noncomputable def TurnPost (h₀ : Heap) (L : Addr) (its keep : List (Addr × Obj)) (J : (Str → Option Value) → List (Addr × Obj) → Prop) (s : Shared) (Q : Flow → Shared → Prop) (f : Flow) (s' : Shared) : Prop := match f with
  | .ret v => Q (.ret v) s'
  | .brk => Q .next s'
  | _ => ∃ h' tk m' news', s' = { s with heap := h', toks := tk } ∧ Fr h₀ L h' m' ∧ News h₀ L h' (its ++ news') ∧ (∀ p ∈ news', ∀ q ∈ its, p.1 ≠ q.1) ∧ (∀ p ∈ keep, p ∈ news') ∧ J m' news'
theorem SubL.of_mem : ∀ {k news : List (Addr × Obj)}, (∀ p ∈ k, p ∈ news) → SubL k news
  | [], _, _ => trivial
  | _ :: _, _, h => ⟨h _ (.head _), SubL.of_mem fun p hp => h p (.tail _ hp)⟩
theorem TurnPost.toW {L : Addr} {its keep : List (Addr × Obj)} {J : (Str → Option Value) → List (Addr × Obj) → Prop} {K : (Str → Option Value) → List (Addr × Obj) → Prop} {h : Heap} {tk0 : Nat} {f : Flow} {s' : Shared}
    (hJ : ∀ m' news', (∀ p ∈ news', ∀ q ∈ its, p.1 ≠ q.1) → (∀ p ∈ keep, p ∈ news') → J m' news' → SubL keep news' ∧ K m' news') (x : TurnPost h₀ L its keep J s Q f s') : UnrPostW h₀ L { s with heap := h, toks := tk0 } its (fun m' n' => SubL keep n' ∧ K m' n') Q f s' := by
  cases f with
  | ret v => exact x
  | brk => exact x
  | next => obtain ⟨h', tk, m', news', e, F, N, ho, hk, hj⟩ := x; exact ⟨h', tk, m', news', e, F, N, ho, hJ m' news' ho hk hj⟩
  | cont => obtain ⟨h', tk, m', news', e, F, N, ho, hk, hj⟩ := x; exact ⟨h', tk, m', news', e, F, N, ho, hJ m' news' ho hk hj⟩
theorem TurnPost.nextI {L : Addr} {its keep : List (Addr × Obj)} {J : (Str → Option Value) → List (Addr × Obj) → Prop} {h' : Heap} {tk : Nat} {m' : Str → Option Value} {news' : List (Addr × Obj)} (F : Fr h₀ L h' m') (N : News h₀ L h' (its ++ news'))
    (ho : ∀ p ∈ news', ∀ q ∈ its, p.1 ≠ q.1) (hk : ∀ p ∈ keep, p ∈ news') (hj : J m' news') : TurnPost h₀ L its keep J s Q .next { s with heap := h', toks := tk } := ⟨h', tk, m', news', rfl, F, N, ho, hk, hj⟩
/-- a loop over the values of a list, by an invariant of what is left -/
theorem items_ind {I : Addr} {T : String} {keep : List (Addr × Obj)} (J : List Value → (Str → Option Value) → List (Addr × Obj) → Prop)
    (hcons : ∀ v r m news, J (v :: r) m news → (∀ p ∈ keep, p ∈ news) → (∀ p ∈ news, p.1 ≠ I) → ∀ h tk o, Fr h₀ env.locals h m → o.cls = .type T → News h₀ env.locals h ((I, o) :: news) →
      wpAny (model prog w) A (assign target env v) (fun _ s₂ => wpAny (model prog w) A (execs body env) (TurnPost h₀ env.locals [(I, o)] keep (J r) s Q) E s₂) E { s with heap := h, toks := tk })
    (hnil : ∀ m news, J [] m news → (∀ p ∈ keep, p ∈ news) → ∀ h tk, Fr h₀ env.locals h m → News h₀ env.locals h news → Q .next { s with heap := h, toks := tk }) :
    ∀ (vs : List Value) (m : Str → Option Value) (news : List (Addr × Obj)), J vs m news → (∀ p ∈ keep, p ∈ news) → (∀ p ∈ news, p.1 ≠ I) → ItemsRest prog w A E h₀ env target body Q s [(I, T)] keep (vs.map .val) m news
  | [], m, news, hj, hk, _ => fun h tk F N => hnil m news hj hk h tk F N
  | v :: r, m, news, hj, hk, hI => by
    rintro v' h tk rfl F
    intro o ho N
    refine wpAny_mono (hcons v' r m news hj hk hI h tk o F ho N) (fun _ s₂ h₂ => wpAny_mono h₂ (fun f s₃ h₃ => ?_) fun _ _ e => e) fun _ _ e => e
    refine TurnPost.toW (fun m' news' ho' hk' hj' => ⟨SubL.of_mem hk', ?_⟩) h₃
    exact items_ind J hcons hnil r m' news' hj' hk' fun p hp => ho' p hp _ (.head _)
theorem items_ind0 {I : Addr} {T : String} {keep news : List (Addr × Obj)} (J : List Value → (Str → Option Value) → Prop) (hk : ∀ p ∈ keep, p ∈ news) (hI : ∀ p ∈ news, p.1 ≠ I)
    (hcons : ∀ v r m, J (v :: r) m → ∀ h tk o, Fr h₀ env.locals h m → o.cls = .type T → News h₀ env.locals h ((I, o) :: news) →
      wpAny (model prog w) A (assign target env v) (fun _ s₂ => wpAny (model prog w) A (execs body env) (TurnPost h₀ env.locals [(I, o)] keep (fun m' n' => J r m' ∧ n' = news) s Q) E s₂) E { s with heap := h, toks := tk })
    (hnil : ∀ m, J [] m → ∀ h tk, Fr h₀ env.locals h m → News h₀ env.locals h news → Q .next { s with heap := h, toks := tk }) (vs : List Value) (m : Str → Option Value) (h : J vs m) : ItemsRest prog w A E h₀ env target body Q s [(I, T)] keep (vs.map .val) m news :=
  items_ind (fun r m' n' => J r m' ∧ n' = news) (fun v r m n' j _ _ => by obtain ⟨j, rfl⟩ := j; exact hcons v r m j) (fun m n' j _ => by obtain ⟨j, rfl⟩ := j; exact hnil m j) vs m news ⟨h, rfl⟩ hk hI
end
end Mine
end
noncomputable section
-- WA3
open PySem PySem.W PyProof.Rows
set_option maxRecDepth 100000
set_option maxHeartbeats 0
namespace Mine
local macro_rules | `(tactic| walk_at "zz") => `(tactic| fail "no")
open PySem.Calls PyProof.V PySem.Spec Builtin
local macro_rules | `(tactic| walk_at "exec For") => `(tactic| (k_here; (rename Fr _ _ _ _ => lF'); (with_unfolding_all refine' For_turns lF' ?_; k_whole)))
local macro_rules | `(tactic| walk_at "pyIter ref") => `(tactic| (k_here; (with_reducible show wpAny _ _ (pyIter (Value.ref _)) (fun it s₂ => TurnsAt _ _ _ _ _ _ _ _ _ it s₂) _ _); k_dflt (first | (refine' iter_listTurns ?k1 ?k2 ?k3 ?k4 ?k5 ?k6 ?_; (case k1 => rfl); (case k2 => k_asm); (case k3 => k_asm); (case k4 => k_mem); (case k5 => rfl); (case k6 => rfl); intro I' hI') | fail "no")))
local macro_rules | `(tactic| walk_at "eval Name") => `(tactic| (k_here; name_kind "local"; k_dflt (first | (refine' ld ?k1 ?k2 ?_ ?k3 ?k4; (case k1 => k_asm); (case k2 => assumption); (case k3 => rfl); (case k4 => rfl); k_whole) | fail "no")))
local macro_rules | `(tactic| walk_at "loadName") => `(tactic| (k_here; k_dflt (first | (refine' ldn ?k1 ?k2 ?_ ?k3 ?k4; (case k1 => k_asm); (case k2 => assumption); (case k3 => rfl); (case k4 => rfl); k_whole) | fail "no")))
noncomputable def digGo : List Int → Str → Int → Str
  | [], d, _ => d
  | w :: r, d, n => if w ≤ n then digGo r (d ++ Str.ofString "1") (n - w) else if (d != Str.ofString "") = true then digGo r (d ++ Str.ofString "0") n else digGo r d n
theorem dg1 {z : Int} {zs : List Int} {d X : Str} {n : Int} (h : z ≤ n) (hg : digGo (z :: zs) d n = X) : digGo zs (d ++ Str.ofString "1") (n - z) = X := by rw [← hg, digGo, if_pos h]
theorem dg2 {z : Int} {zs : List Int} {d X : Str} {n : Int} (h : ¬ z ≤ n) (h2 : (d != Str.ofString "") = true) (hg : digGo (z :: zs) d n = X) : digGo zs (d ++ Str.ofString "0") n = X := by rw [← hg, digGo, if_neg h, if_pos h2]
theorem dg3 {z : Int} {zs : List Int} {d X : Str} {n : Int} (h : ¬ z ≤ n) (h2 : (d != Str.ofString "") = false) (hg : digGo (z :: zs) d n = X) : digGo zs d n = X := by rw [← hg, digGo, if_neg h, if_neg (by rw [h2]; decide)]
noncomputable def digitsF (n : Int) (ws : List Int) : Str := digGo ws.reverse (Str.ofString "") n
noncomputable def digJ (X : Str) (vs : List Value) (m : Str → Option Value) : Prop :=
  ∃ d n td tn zs, IntsAre vs zs ∧ m "digits" = some (.str d td) ∧ m "n" = some (.int n tn) ∧ digGo zs d n = X ∧ d.length + vs.length ≤ 100
section
variable {w : World} {mean : ExcName → Option Value} {mg mb : Str → Option Value} {news : List (Addr × Obj)} {k : Int} {t : Tok} {l : Addr} {its : List Value} {ws : List Int} {c : Nat}
theorem digits_claim : Claim w mean mg mb 236 ((l, listOf its.toArray c) :: news) (IntsAre its ws ∧ its.length ≤ 100) [.int k t, .ref l] (fun v new => ∃ t', v = .str (digitsF k ws) t' ∧ new = (l, listOf its.toArray c) :: news) := by
  unfold Claim
  k_fill
  intros
  rename_i hret
  refine wpAny_call ?_
  (k_dflt (refine' code_def ?k1 ?k2 ?k3 ?k4 ?k5 ?kA ?kF ?kK ?k6 ?k7 ?k8 ?k9 ?kB ?_ ?c2 ?c3 ?c4 ?c5; (case kA => exact rfl); (case kF => exact rfl); (case kK => assumption); (case k1 => k_asm); (case k2 => k_asm); (case k3 => k_asm); (case k4 => k_asm); (case k5 => k_asm); (case k6 => k_is); (case k7 => k_is); (case k8 => ktr_room); (case k9 => exact BindsTo.of_eq rfl); (case c5 => decide); (case kB => exact locs rfl); (case c2 => exact rfl); (case c3 => exact rfl); (case c4 => exact rfl); k_whole; intro g' L' h' FG' F' N' B' X' T'; (try dsimp only); (try k_lift B'); (try k_fold)))
  rename_i hp _ _
  obtain ⟨hI, hlen⟩ := hp
  k_steps
  rename_i hI'
  dsimp only
  refine items_ind0 (digJ (digitsF k ws)) ?hk ?hi ?hc ?hn _ _ ?h0
  case hi => exact fun p hp => Nat.ne_of_lt (hI' p hp)
  case hk => exact fun p hp => by rw [List.mem_singleton.mp hp]; exact .head _
  case h0 =>
    refine ⟨_, _, _, _, _, by assumption, rfl, rfl, rfl, ?_⟩
    rename_i hI2 hC2 _ _
    have e1 := hI.length
    have e2 := hI2.length
    have e3 : (Str.ofString "").length = 0 := rfl
    omega
  case hn =>
    rintro m₁ ⟨d, n, td, tn, zs, hz, hm1, hm2, hg, hl⟩ h tk F N
    cases hz
    k_steps
    subst hg
    exact hret _ _ _ _ ⟨_, rfl, rfl⟩ (by assumption) (cb_drop (by assumption) (by repeat (first | exact fun _ h => h | exact fun _ h => .tail _ h | exact fun _ h => .tail _ (.tail _ h))))
  case hc =>
    rintro v r m₁ ⟨d, n, td, tn, zs, hz, hm1, hm2, hg, hl⟩ h tk o F ho N
    cases hz
    have e3 : (Str.ofString "1").length = 1 := rfl
    have e4 : (Str.ofString "0").length = 1 := rfl
    have hl2 : d.length + 1 + r.length ≤ 100 := by rw [List.length_cons] at hl; omega
    k_steps
    · refine' TurnPost.nextI ?eF1 ?eN1 ?eo1 ?ek1 ?ej1
      case eF1 => assumption
      case ej1 => exact ⟨⟨_, _, _, _, _, (by assumption), rfl, rfl, dg1 (by assumption) hg, (by rw [PySem.Str.length_append]; omega)⟩, rfl⟩
      case eN1 => exact cb_drop (by assumption) (by repeat (first | exact fun _ h => h | exact fun _ h => .tail _ h | exact fun _ h => .tail _ (.tail _ h)))
      case eo1 => exact fun p hp q hq => by rw [List.mem_singleton.mp hq]; exact Nat.ne_of_lt (hI' p hp)
      case ek1 => exact fun p hp => by rw [List.mem_singleton.mp hp]; exact .head _
    · refine' TurnPost.nextI ?eF2 ?eN2 ?eo2 ?ek2 ?ej2
      case eF2 => assumption
      case ej2 => exact ⟨⟨_, _, _, _, _, (by assumption), rfl, hm2, dg2 (by assumption) (by assumption) hg, (by rw [PySem.Str.length_append]; omega)⟩, rfl⟩
      case eN2 => exact cb_drop (by assumption) (by repeat (first | exact fun _ h => h | exact fun _ h => .tail _ h | exact fun _ h => .tail _ (.tail _ h)))
      case eo2 => exact fun p hp q hq => by rw [List.mem_singleton.mp hq]; exact Nat.ne_of_lt (hI' p hp)
      case ek2 => exact fun p hp => by rw [List.mem_singleton.mp hp]; exact .head _
    · refine' TurnPost.nextI ?eF3 ?eN3 ?eo3 ?ek3 ?ej3
      case eF3 => assumption
      case ej3 => exact ⟨⟨_, _, _, _, _, (by assumption), hm1, hm2, dg3 (by assumption) (by assumption) hg, (by omega)⟩, rfl⟩
      case eN3 => exact cb_drop (by assumption) (by repeat (first | exact fun _ h => h | exact fun _ h => .tail _ h | exact fun _ h => .tail _ (.tail _ h)))
      case eo3 => exact fun p hp q hq => by rw [List.mem_singleton.mp hq]; exact Nat.ne_of_lt (hI' p hp)
      case ek3 => exact fun p hp => by rw [List.mem_singleton.mp hp]; exact .head _
end
end Mine
end
noncomputable section
-- WT3
open PySem PySem.W PyProof.Rows
set_option maxRecDepth 100000
set_option maxHeartbeats 0
namespace Mine
open PySem.Calls PyProof.V PySem.Spec Builtin
noncomputable def b1keys : List Int := [65024, 65025, 65026, 65027, 65028, 65029, 6150, 65030, 65031, 65032, 65033, 6155, 6156, 6157, 8203, 8204, 8205, 65034, 65035, 65036, 65037, 65038, 65039, 173, 847, 8288, 65279]
noncomputable def ekeys : List (Int × Value) → Option (List Int)
  | [] => some []
  | (h, .int k _) :: r => if h == hashInt k then (ekeys r).map (k :: ·) else none
  | _ :: _ => none
theorem ekeys_elems {prog : Program} {w : World} : ∀ {l : List (Int × Value)} {ks : List Int}, ekeys l = some ks → ElemsOf (intKind prog w) l ∧ ∀ k, (∃ e ∈ l, (intKind prog w).is k e.2 = true) ↔ k ∈ ks
  | [], ks, e => by cases e; exact ⟨(fun _ h => nomatch h), fun k => by simp⟩
  | (h, v) :: r, ks, e => by
    cases v <;> first | (simp [ekeys] at e; done) | skip
    rename_i k t
    simp only [ekeys] at e
    split at e
    · rename_i hh
      obtain ⟨ks', e', rfl⟩ := Option.map_eq_some_iff.mp e
      obtain ⟨a, b⟩ := ekeys_elems (prog := prog) (w := w) e'
      refine ⟨fun x hx => ?_, fun x => ?_⟩
      · rcases List.mem_cons.mp hx with rfl | hx
        · exact ⟨⟨k, intKind_is _ _ _ _, eq_of_beq hh⟩, rfl⟩
        · exact a x hx
      · rw [List.mem_cons, ← b x]
        constructor
        · rintro ⟨y, hy, hz⟩
          rcases List.mem_cons.mp hy with rfl | hy
          · left; have : (k == x) = true := hz; exact (eq_of_beq this).symm
          · exact .inr ⟨y, hy, hz⟩
        · rintro (rfl | ⟨y, hy, hz⟩)
          · exact ⟨_, .head _, intKind_is _ _ _ _⟩
          · exact ⟨y, .tail _ hy, hz⟩
    · cases e
theorem b1_set (P : Params) (prog : Program) (w : World) : (o112 P).SetObjOf (intKind prog w) (fun k => b1keys.contains k) 27 := by
  refine ⟨⟨rfl, rfl, rfl⟩, _, _, _, rfl, ?_, ?_, rfl, rfl⟩
  · exact (ekeys_elems (ks := b1keys) (by kernel_rfl)).1
  · intro k
    rw [(ekeys_elems (prog := prog) (w := w) (ks := b1keys) (by kernel_rfl)).2 k, List.contains_iff_mem]
noncomputable def isB1 (c : Str) : Bool := b1keys.contains ((c.cps.getD 0 0 : Nat) : Int)
theorem in_b1_row {w : World} {prog : Program} {A : Around} {E : Value → Shared → Prop} {s : Shared} {k : Int} {t : Tok} {Q : Value → Shared → Prop} {P : Params} (X : (KK P).In s.heap) (h : Q (.bool (b1keys.contains k)) { s with toks := s.toks + 1 }) :
    wpAny (model prog w) A (compareOp .In (.int k t) (.ref 112)) Q E s :=
  wpAny_inSet_of (intKind_is prog w k t) rfl ((b1_set P prog w).setOf (X 112 _ rfl) (by decide)) h
theorem b3_hash : kvs.all (fun kv => hashInt kv.1 == kv.1) = true := by decide +kernel
noncomputable def b3Of (k : Int) : Option Str := (kvs.find? (fun kv => kv.1 == k)).map (·.2)
theorem ent_all {prog : Program} {w : World} : ∀ (l : List (Int × Str)) (b : Nat), l.all (fun kv => hashInt kv.1 == kv.1) = true → (∀ e ∈ entL b l, ∃ k, (intKind prog w).is k e.key = true ∧ e.hash = (intKind prog w).hash k) ∧ (∀ e ∈ entS b l, ∃ k, (intKind prog w).is k e.key = true ∧ e.hash = (intKind prog w).hash k)
  | [], _, _ => ⟨(fun _ h => nomatch h), (fun _ h => nomatch h)⟩
  | (k, x) :: r, b, e => by
    rw [List.all_cons, Bool.and_eq_true] at e
    have hk : k = hashInt k := (eq_of_beq e.1).symm
    refine ⟨fun y hy => ?_, fun y hy => ?_⟩
    · rcases List.mem_cons.mp hy with rfl | hy
      · exact ⟨k, intKind_is _ _ _ _, hk⟩
      · exact (ent_all r _ e.2).1 y hy
    · rcases List.mem_cons.mp hy with rfl | hy
      · exact ⟨k, intKind_is _ _ _ _, hk⟩
      · exact (ent_all r _ e.2).2 y hy
noncomputable def FindsAs (o : Option Str) : Option DictEntry → Prop
  | none => o = none
  | some e => ∃ x t, e.val = .str x t ∧ o = some x
theorem ent_find (k : Int) : ∀ (l : List (Int × Str)) (b : Nat), FindsAs ((l.find? (fun kv => kv.1 == k)).map (·.2)) ((entL b l).find? fun e => Value.isInt k e.key) ∧ FindsAs ((l.find? (fun kv => kv.1 == k)).map (·.2)) ((entS b l).find? fun e => Value.isInt k e.key)
  | [], _ => ⟨rfl, rfl⟩
  | (i, x) :: r, b => by
    simp only [entL, entS, List.find?_cons, Value.isInt]
    cases h : (i == k) with
    | true => exact ⟨⟨x, _, rfl, rfl⟩, ⟨x, _, rfl, rfl⟩⟩
    | false => exact ⟨(ent_find k r _).1, (ent_find k r _).2⟩
theorem b3_find (k : Int) : FindsAs (b3Of k) (b3Es.find? fun e => Value.isInt k e.key) := by
  have e : kvs = kvs.take 646 ++ kvs.drop 646 := (List.take_append_drop 646 kvs).symm
  unfold b3Of b3Es
  rw [List.find?_append]
  conv => arg 1; rw [e, List.find?_append]
  have h1 := (ent_find k (kvs.take 646) 362).1
  have h2 := (ent_find k (kvs.drop 646) 2300).2
  cases h : (kvs.take 646).find? (fun kv => kv.1 == k) with
  | some v =>
    rw [h] at h1
    cases g : (entL 362 (kvs.take 646)).find? (fun e => Value.isInt k e.key) with
    | none => rw [g] at h1; cases h1
    | some e => rw [g] at h1; exact h1
  | none =>
    rw [h] at h1
    cases g : (entL 362 (kvs.take 646)).find? (fun e => Value.isInt k e.key) with
    | none => exact h2
    | some e => rw [g] at h1; obtain ⟨_, _, _, q⟩ := h1; cases q
theorem b3_map {P : Params} {h : Heap} {prog : Program} {w : World} (X : (KK P).In h) : h.MapOf (intKind prog w) 123 (fun k => findBy Value.isInt b3Es.toArray k) := by
  refine ⟨_, _, _, X 123 _ rfl, ⟨rfl, rfl, rfl⟩, rfl, fun e he => ?_, fun _ => rfl⟩
  have he : e ∈ b3Es := by simpa using he
  have ha := b3_hash
  rw [← List.take_append_drop 646 kvs, List.all_append, Bool.and_eq_true] at ha
  unfold b3Es at he
  rcases List.mem_append.mp he with he | he
  · exact (ent_all _ _ ha.1).1 e he
  · exact (ent_all _ _ ha.2).2 e he
theorem b3_get {P : Params} {w : World} {prog : Program} {A : Around} {E : Value → Shared → Prop} {s : Shared} {k : Int} {t : Tok} {Q : Value → Shared → Prop} (X : (KK P).In s.heap)
    (h1 : b3Of k = none → Q .none { s with toks := s.toks + 1 }) (h2 : ∀ x t', b3Of k = some x → Q (.str x t') { s with toks := s.toks + 1 }) : wpAny (model prog w) A (call (.builtin "dict.get") [.ref 123, .int k t]) Q E s := by
  have hm := b3_map (prog := prog) (w := w) X
  refine call_meetsIn PySem.F.slot_dict_get hm.typeIs PySem.F.entry_dict_get (PySem.F.args_dict_get_2 _ _) (meets_dict_get (intKind prog w) 123 (intKind_is prog w k t) (by decide)) ⟨_, hm, ?_⟩
  have hf := b3_find k
  show Q ((findBy Value.isInt b3Es.toArray k).getD .none) _
  unfold findBy
  rw [List.find?_toArray]
  cases g : b3Es.find? (fun e => Value.isInt k e.key) with
  | none => rw [g] at hf; exact h1 hf
  | some e => rw [g] at hf; obtain ⟨x, t', hv, hx⟩ := hf; simp only [Option.map_some, Option.getD_some, hv]; exact h2 x t' hx
theorem b3_meth {P : Params} {w : World} {prog : Program} {A : Around} {E : Value → Shared → Prop} {s : Shared} {pl : Sem Bool} {Q : Value × List Value → Shared → Prop} (X : (KK P).In s.heap) (h : Q (.builtin "dict.get", [.ref 123]) s) :
    wpAny (model prog w) A (getMethod (.ref 123) "get" pl) Q E s := by
  have hm := b3_map (prog := prog) (w := w) X
  exact getMethod_builtin hm.typeIs PySem.F.plainAttrs_dict PySem.F.slot_dict_get PySem.F.type_dict_get hm.noDict h
end Mine
end
noncomputable section
-- WT4
open PySem PySem.W PyProof.Rows
set_option maxRecDepth 100000
set_option maxHeartbeats 0
namespace Mine
open PySem.Calls PyProof.V PySem.Spec Builtin
section
variable {w : World} {mean : ExcName → Option Value} {mg mb : Str → Option Value} {news : List (Addr × Obj)} {c : Str} {t : Tok}
theorem in_b1_claim : Claim w mean mg mb 122 news (c.length = 1) [.str c t] (fun v new => v = .bool (isB1 c) ∧ new = news) := by
  unfold Claim
  k_fill
  intros
  rename_i hret
  refine wpAny_call ?_
  (k_dflt (refine' code_def ?k1 ?k2 ?k3 ?k4 ?k5 ?kA ?kF ?kK ?k6 ?k7 ?k8 ?k9 ?kB ?_ ?c2 ?c3 ?c4 ?c5; (case kA => exact rfl); (case kF => exact rfl); (case kK => assumption); (case k1 => k_asm); (case k2 => k_asm); (case k3 => k_asm); (case k4 => k_asm); (case k5 => k_asm); (case k6 => k_is); (case k7 => k_is); (case k8 => ktr_room); (case k9 => exact BindsTo.of_eq rfl); (case c5 => decide); (case kB => exact locs rfl); (case c2 => exact rfl); (case c3 => exact rfl); (case c4 => exact rfl); k_whole; intro g' L' h' FG' F' N' B' X' T'; (try dsimp only); (try k_lift B'); (try k_fold)))
  iterate 12 (first | walk1 | (dsimp only; walk1))
  (try dsimp only)
  k_dflt (first | (refine' in_b1_row ?ak1 ?_; (case ak1 => k_in); k_whole) | fail "no")
  k_steps
  all_goals exact hret _ _ _ _ ⟨rfl, rfl⟩ (by assumption) (by assumption)
noncomputable def mapB3 (c : Str) : Str := match b3Of ((c.cps.getD 0 0 : Nat) : Int) with | some x => x | none => Txt.lower c
theorem mapB3_none (h : b3Of ((c.cps.getD 0 0 : Nat) : Int) = none) : Txt.lower c = mapB3 c := by unfold mapB3; rw [h]
theorem mapB3_some {x : Str} (h : b3Of ((c.cps.getD 0 0 : Nat) : Int) = some x) : x = mapB3 c := by unfold mapB3; rw [h]
theorem map_b3_claim : Claim w mean mg mb 168 news (c.length = 1) [.str c t] (fun v new => ∃ t, v = .str (mapB3 c) t ∧ new = news) := by
  unfold Claim
  k_fill
  intros
  rename_i hret
  refine wpAny_call ?_
  (k_dflt (refine' code_def ?k1 ?k2 ?k3 ?k4 ?k5 ?kA ?kF ?kK ?k6 ?k7 ?k8 ?k9 ?kB ?_ ?c2 ?c3 ?c4 ?c5; (case kA => exact rfl); (case kF => exact rfl); (case kK => assumption); (case k1 => k_asm); (case k2 => k_asm); (case k3 => k_asm); (case k4 => k_asm); (case k5 => k_asm); (case k6 => k_is); (case k7 => k_is); (case k8 => ktr_room); (case k9 => exact BindsTo.of_eq rfl); (case c5 => decide); (case kB => exact locs rfl); (case c2 => exact rfl); (case c3 => exact rfl); (case c4 => exact rfl); k_whole; intro g' L' h' FG' F' N' B' X' T'; (try dsimp only); (try k_lift B'); (try k_fold)))
  iterate 5 (first | walk1 | (dsimp only; walk1))
  (try dsimp only)
  k_dflt (first | (refine' b3_meth ?bk1 ?_; (case bk1 => k_in); k_whole) | fail "no")
  iterate 10 (first | walk1 | (dsimp only; walk1))
  (try dsimp only)
  k_dflt (first | (refine' b3_get ?ck1 ?_ ?_; (case ck1 => k_in); k_whole) | fail "no"); (first | (intro hb3) | (intro x' t' hb3))
  k_steps
  · exact hret _ _ _ _ ⟨_, congrArg (Value.str · _) (mapB3_none (by assumption)), rfl⟩ (by assumption) (by assumption)
  · exact hret _ _ _ _ ⟨_, congrArg (Value.str · _) (mapB3_some (by assumption)), rfl⟩ (by assumption) (by assumption)
end
end Mine
end
noncomputable section
-- WC1
open PySem PySem.W PyProof.Rows PyProof.Rows.LCg PyProof.Rows.LCt
set_option maxRecDepth 100000
set_option maxHeartbeats 0
namespace Mine
open PySem.Calls PyProof.V PySem.Spec Builtin
section
variable {prog : Program} {w : World} {A : Around} {E : Value → Shared → Prop} {s : Shared} {h₀ : Heap} {L : Addr} {m : Str → Option Value} {env : Env}
theorem striter_st {h₀ : Heap} {L I : Addr} {T : String} {x : Str} {t : Tok} {S : List (Addr × Obj) → Prop} : ∀ i (h h' : Heap) o nw, h.IsStrIter I T x t i → h.get? I = some o → h'.get? I = some o → (∀ b o, h₀.get? b = some o → h'.get? b = some o) → News h₀ L h' nw → S nw → h'.IsStrIter I T x t i :=
  fun _ _ _ _ _ st e e' _ _ _ => let ⟨o', ho', r⟩ := st; ⟨o', by rw [e'] ; rw [e] at ho'; exact ho', r⟩
noncomputable def TxtSrcT (prog : Program) (w : World) (A : Around) (h₀ : Heap) (L : Addr) (m : Str → Option Value) (env : Env) (ct elt : Expr) (x : Str) (scope : Scope) (cl : List (Str × Addr)) (Q : Value → Shared → Prop) (xv : Value) (s₁ : Shared) : Prop :=
  ∃ y t news, xv = .str y t ∧ A.handled = none ∧ Fr h₀ L s₁.heap m ∧ News h₀ L s₁.heap news ∧ y.cps.size ≤ sizeLine ∧
      ∀ g, CompRestT prog w A h₀ L m env ct elt x scope cl { s₁ with heap := g } (fun _ => True) (SignAt y) (FinE h₀ L m { s₁ with heap := g } Q) y.cps.size 0 [] news
noncomputable def TxtSrcU (prog : Program) (w : World) (A : Around) (h₀ : Heap) (L : Addr) (m : Str → Option Value) (env : Env) (elt : Expr) (x : Str) (scope : Scope) (cl : List (Str × Addr)) (Q : Value → Shared → Prop) (xv : Value) (s₁ : Shared) : Prop :=
  ∃ y t news, xv = .str y t ∧ A.handled = none ∧ Fr h₀ L s₁.heap m ∧ News h₀ L s₁.heap news ∧ y.cps.size ≤ sizeLine ∧
      ∀ g, CompRest prog w A h₀ L m env elt x scope cl { s₁ with heap := g } (fun _ => True) (SignAt y) (FinE h₀ L m { s₁ with heap := g } Q) y.cps.size 0 [] news
/-- a comprehension over a text, with one test -/
theorem ListComp_ST {ct elt iter : Expr} {x : Str} {px : Pos} {scope : Scope} {cl : List (Str × Addr)} {pos : Pos} {Q : Value → Shared → Prop} (F₀ : Fr h₀ L s.heap m)
    (hclos : closureFor scope env = pure cl) (hcell : ∀ y ∈ scope.names, y.2 ≠ .cell) (hkind : scope.kind = .function)
    (hnames : ∀ y ∈ scope.names, y.2 = .local → scope.names.lookup y.1 = some .local) (hx : scope.names.lookup x = some .local)
    (h : wpAny (model prog w) A (eval iter env) (TxtSrcT prog w A h₀ L m env ct elt x scope cl Q) E s)
    (hs : ∀ x, foldedSetIterable iter env x = pure x := by intro _; rfl) :
    wpAny (model prog w) A (eval (.ListComp elt [⟨.Name x px, iter, [ct], 0⟩] scope pos) env) Q E s := by
  rw [eval_ListComp]
  refine wpAny_comprehension_free (use := none) rfl hs hclos hkind hnames (wpAny_mono h (fun xv s₁ h₁ => ?_) fun _ _ e => e)
  obtain ⟨y, t, news, rfl, hh, F, N, hsz, R⟩ := h₁
  cases ha : y.cps.all (· < 128)
  · refine wpAny_pyIter_wide ha ?_
    refine block_T (Walks.strWide hh s₁.heap.objs.size y t) hsz (fun i h st => by obtain ⟨o, e, _⟩ := st; exact ⟨o, e⟩) striter_st hcell hkind hx ⟨_, Heap.get?_push_size _ rfl, rfl, rfl⟩ (fun b hb => ?_)
      (F.keeps fun _ _ e => Heap.get?_push_of_some _ e) (N.grown fun _ _ e => Heap.get?_push_of_some _ e) (Nat.ne_of_lt F.ns.lt) (next_is_new F) (fun p hp => Nat.ne_of_lt (Heap.lt_size (N p hp).1)) trivial (R _) ?_
    · rw [List.mem_singleton.mp hb]
      show s₁.heap.objs.size < (s₁.heap.push _).objs.size
      rw [Heap.size_push]; exact Nat.lt_succ_self _
    · intro D C h tk m' ys news' F' N' o1 hn hC₀ hD₀ hCL hDL hCD offC fin
      refine ⟨m', hn, fun h'' hs'' => fin D h'' tk (F'.change hs'' hCL hC₀) (fun p hp => ?_) o1⟩
      refine ⟨hs''.extBut _ _ ?_ (N' p hp).1, (N' p hp).2⟩
      rcases List.mem_cons.mp hp with rfl | hp
      · exact Ne.symm hCD
      · exact offC p hp
  · refine wpAny_pyIter_ascii ha ?_
    refine block_T (Walks.strAscii hh s₁.heap.objs.size y t) hsz (fun i h st => by obtain ⟨o, e, _⟩ := st; exact ⟨o, e⟩) striter_st hcell hkind hx ⟨_, Heap.get?_push_size _ rfl, rfl, rfl⟩ (fun b hb => ?_)
      (F.keeps fun _ _ e => Heap.get?_push_of_some _ e) (N.grown fun _ _ e => Heap.get?_push_of_some _ e) (Nat.ne_of_lt F.ns.lt) (next_is_new F) (fun p hp => Nat.ne_of_lt (Heap.lt_size (N p hp).1)) trivial (R _) ?_
    · rw [List.mem_singleton.mp hb]
      show s₁.heap.objs.size < (s₁.heap.push _).objs.size
      rw [Heap.size_push]; exact Nat.lt_succ_self _
    · intro D C h tk m' ys news' F' N' o1 hn hC₀ hD₀ hCL hDL hCD offC fin
      refine ⟨m', hn, fun h'' hs'' => fin D h'' tk (F'.change hs'' hCL hC₀) (fun p hp => ?_) o1⟩
      refine ⟨hs''.extBut _ _ ?_ (N' p hp).1, (N' p hp).2⟩
      rcases List.mem_cons.mp hp with rfl | hp
      · exact Ne.symm hCD
      · exact offC p hp
/-- a comprehension over a text, with no test -/
theorem ListComp_SU {elt iter : Expr} {x : Str} {px : Pos} {scope : Scope} {cl : List (Str × Addr)} {pos : Pos} {Q : Value → Shared → Prop} (F₀ : Fr h₀ L s.heap m)
    (hclos : closureFor scope env = pure cl) (hcell : ∀ y ∈ scope.names, y.2 ≠ .cell) (hkind : scope.kind = .function)
    (hnames : ∀ y ∈ scope.names, y.2 = .local → scope.names.lookup y.1 = some .local) (hx : scope.names.lookup x = some .local)
    (h : wpAny (model prog w) A (eval iter env) (TxtSrcU prog w A h₀ L m env elt x scope cl Q) E s)
    (hs : ∀ x, foldedSetIterable iter env x = pure x := by intro _; rfl) :
    wpAny (model prog w) A (eval (.ListComp elt [⟨.Name x px, iter, [], 0⟩] scope pos) env) Q E s := by
  rw [eval_ListComp]
  refine wpAny_comprehension_free (use := none) rfl hs hclos hkind hnames (wpAny_mono h (fun xv s₁ h₁ => ?_) fun _ _ e => e)
  obtain ⟨y, t, news, rfl, hh, F, N, hsz, R⟩ := h₁
  cases ha : y.cps.all (· < 128)
  · refine wpAny_pyIter_wide ha ?_
    refine block_U (Walks.strWide hh s₁.heap.objs.size y t) hsz (fun i h st => by obtain ⟨o, e, _⟩ := st; exact ⟨o, e⟩) striter_st hcell hkind hx ⟨_, Heap.get?_push_size _ rfl, rfl, rfl⟩ (fun b hb => ?_)
      (F.keeps fun _ _ e => Heap.get?_push_of_some _ e) (N.grown fun _ _ e => Heap.get?_push_of_some _ e) (Nat.ne_of_lt F.ns.lt) (next_is_new F) (fun p hp => Nat.ne_of_lt (Heap.lt_size (N p hp).1)) trivial (R _) ?_
    · rw [List.mem_singleton.mp hb]
      show s₁.heap.objs.size < (s₁.heap.push _).objs.size
      rw [Heap.size_push]; exact Nat.lt_succ_self _
    · intro D C h tk m' ys news' F' N' o1 hn hC₀ hD₀ hCL hDL hCD offC fin
      refine ⟨m', hn, fun h'' hs'' => fin D h'' tk (F'.change hs'' hCL hC₀) (fun p hp => ?_) o1⟩
      refine ⟨hs''.extBut _ _ ?_ (N' p hp).1, (N' p hp).2⟩
      rcases List.mem_cons.mp hp with rfl | hp
      · exact Ne.symm hCD
      · exact offC p hp
  · refine wpAny_pyIter_ascii ha ?_
    refine block_U (Walks.strAscii hh s₁.heap.objs.size y t) hsz (fun i h st => by obtain ⟨o, e, _⟩ := st; exact ⟨o, e⟩) striter_st hcell hkind hx ⟨_, Heap.get?_push_size _ rfl, rfl, rfl⟩ (fun b hb => ?_)
      (F.keeps fun _ _ e => Heap.get?_push_of_some _ e) (N.grown fun _ _ e => Heap.get?_push_of_some _ e) (Nat.ne_of_lt F.ns.lt) (next_is_new F) (fun p hp => Nat.ne_of_lt (Heap.lt_size (N p hp).1)) trivial (R _) ?_
    · rw [List.mem_singleton.mp hb]
      show s₁.heap.objs.size < (s₁.heap.push _).objs.size
      rw [Heap.size_push]; exact Nat.lt_succ_self _
    · intro D C h tk m' ys news' F' N' o1 hn hC₀ hD₀ hCL hDL hCD offC fin
      refine ⟨m', hn, fun h'' hs'' => fin D h'' tk (F'.change hs'' hCL hC₀) (fun p hp => ?_) o1⟩
      refine ⟨hs''.extBut _ _ ?_ (N' p hp).1, (N' p hp).2⟩
      rcases List.mem_cons.mp hp with rfl | hp
      · exact Ne.symm hCD
      · exact offC p hp
theorem rest_ind {elt : Expr} {x : Str} {scope : Scope} {cl : List (Str × Addr)} {s : Shared} {S : List (Addr × Obj) → Prop} {P : Nat → Value → Prop} {Fin : List Value → List (Addr × Obj) → Prop} {n : Nat} {news : List (Addr × Obj)} (Ok : Nat → Value → Prop) (hS : S news)
    (hstep : ∀ i v I oI C oC D m₂ h tk ys (E' : Value → Shared → Prop) (Q : Value → Shared → Prop), i < n → P i v → NsObj oC m₂ → m₂ x = some v → Fr h₀ L h m → News h₀ L h ((I, oI) :: (C, oC) :: (D, lst ys) :: news) →
      (∀ yv h' tk', Ok i yv → Fr h₀ L h' m → News h₀ L h' ((I, oI) :: (C, oC) :: (D, lst ys) :: news) → Q yv { s with heap := h', toks := tk' }) → wpAny (model prog w) A (eval elt (compEnvC scope cl C env)) Q E' { s with heap := h, toks := tk })
    (hfin : ∀ ys : List Value, ys.length = n → (∀ i v, ys[i]? = some v → Ok i v) → Fin ys news) : CompRest prog w A h₀ L m env elt x scope cl s S P Fin n 0 [] news := by
  have go : ∀ k i (ys : List Value), i + k = n → ys.length = i → (∀ j v, ys[j]? = some v → Ok j v) → CompRest prog w A h₀ L m env elt x scope cl s S P Fin k i ys news := by
    intro k
    induction k with
    | zero => intro i ys hi hl ho; exact CompRest.zero (hfin ys (by omega) ho)
    | succ k ih =>
      intro i ys hi hl ho
      refine CompRest.succ fun v I oI C oC D m₂ h tk E' hP hC hm F N off hne => ?_
      refine hstep i v I oI C oC D m₂ h tk ys E' _ (by omega) hP hC hm F N fun yv h' tk' hok F' N' => ?_
      refine ⟨h', tk', news, rfl, F', N', off, hS, ih (i + 1) (ys ++ [yv]) (by omega) (by simp [hl]) fun j u hj => ?_⟩
      rcases Nat.lt_trichotomy j ys.length with hlt | heq | hgt
      · rw [List.getElem?_append_left hlt] at hj; exact ho j u hj
      · subst heq; rw [List.getElem?_append_right (Nat.le_refl _), Nat.sub_self] at hj; cases hj; rw [hl]; exact hok
      · rw [List.getElem?_append_right (by omega)] at hj
        rw [List.getElem?_eq_none (by simp; omega)] at hj; cases hj
  exact go n 0 [] (by omega) rfl (fun j v h => by simp at h)
end
end Mine
end
noncomputable section
-- WC3
open PySem PySem.W PyProof.Rows PyProof.Rows.LCg PyProof.Rows.LCt
set_option maxRecDepth 100000
set_option maxHeartbeats 0
namespace Mine
open PySem.Calls PyProof.V PySem.Spec Builtin
section
variable {w : World} {A : Around} {E : Value → Shared → Prop} {s : Shared} {h₀ : Heap} {L a : Addr} {m mg mb : Str → Option Value} {p : Program} {loose : List Str} {mean : ExcName → Option Value} {news : List (Addr × Obj)}
  {name : Str} {fs : Scope} {cd : Value} {k : Nat} {p1 p2 p3 p4 p5 p6 p7 : Pos} {ns : List (Str × NameKind)} {Q : Value → Shared → Prop} {y : Str} {t : Tok}
theorem strsAre_get : ∀ {ys : List Value} {l : List Str}, ys.length = l.length → (∀ (i : Nat) (v : Value), ys[i]? = some v → ∃ x t, l[i]? = some x ∧ v = .str x t) → StrsAre ys l
  | [], [], _, _ => .nil
  | v :: ys, x :: l, hl, h => by
    obtain ⟨x', t, e, rfl⟩ := h 0 v rfl
    cases e
    exact .cons x t (strsAre_get (by simpa using hl) fun i u hu => h (i + 1) u (by simpa using hu))
  | [], _ :: _, hl, _ => by simp at hl
  | _ :: _, [], hl, _ => by simp at hl
noncomputable def mathL (y : Str) : List Str := y.cps.toList.map fun c => ⟨#[119711 + c]⟩
noncomputable def MathOk (y : Str) (i : Nat) (v : Value) : Prop := ∃ c t, y.cps[i]? = some c ∧ v = .str ⟨#[119711 + c]⟩ t
theorem math_elt {scope : Scope} {C I D : Addr} {oI oC oD : Obj} {m₂ : Str → Option Value} {c : Nat} {u : Tok} (hsc : scope = { kind := .function, names := [(".0", .local), ("c", .local), ("chr", .globalImplicit), ("ord", .globalImplicit)], isGenerator := false, isCoroutine := false })
    (T : Top p loose mean mg mb h₀) (X : (KK w.params).In h₀) (F : Fr h₀ L s.heap m) (N : News h₀ L s.heap ((I, oI) :: (C, oC) :: (D, oD) :: news)) (hC : NsObj oC m₂) (hx : m₂ "c" = some (.str ⟨#[c]⟩ u)) (hc : c < 1000)
    (hret : ∀ t h' tk', Fr h₀ L h' m → News h₀ L h' ((I, oI) :: (C, oC) :: (D, oD) :: news) → Q (.str ⟨#[119711 + c]⟩ t) { s with heap := h', toks := tk' }) :
    wpAny (model PySem.Challenge.rw_xo0036_01.row.prog w) A (eval (.Call (.Name "chr" p1) [.BinOp (.Constant (.int 119711) k p2) .Add (.Call (.Name "ord" p3) [.Name "c" p4] [] p5) p6] [] p7) (compEnvC scope [] C (envOf (Str.ofString "_law_spelled") s18 L 222 (.ref 221)))) Q E s := by
  subst hsc
  revert X
  k_fill
  intro X
  k_steps
  have e : ((119711 : Int) + (c : Int)).toNat = 119711 + c := by omega
  rw [e]
  exact hret _ _ _ F N
noncomputable abbrev scMath : Scope := { kind := .function, names := [(".0", .local), ("c", .local), ("chr", .globalImplicit), ("ord", .globalImplicit)], isGenerator := false, isCoroutine := false }
theorem math_src (hh : A.handled = none) (T : Top p loose mean mg mb h₀) (X : (KK w.params).In h₀) (F : Fr h₀ L s.heap m) (N : News h₀ L s.heap news) (hy : y.cps.size ≤ 1000) (hc : ∀ c ∈ y.cps, c < 1000)
    (hQ : ∀ D h tk ys, Fr h₀ L h m → News h₀ L h ((D, lst ys) :: news) → StrsAre ys (mathL y) → Q (.ref D) { s with heap := h, toks := tk }) :
    TxtSrcU PySem.Challenge.rw_xo0036_01.row.prog w A h₀ L m (envOf (Str.ofString "_law_spelled") s18 L 222 (.ref 221)) (.Call (.Name "chr" p1) [.BinOp (.Constant (.int 119711) k p2) .Add (.Call (.Name "ord" p3) [.Name "c" p4] [] p5) p6] [] p7) "c" scMath [] Q (.str y t) s := by
  refine ⟨y, t, news, rfl, hh, F, N, by rw [sizeLine_eq]; omega, fun g => ?_⟩
  refine rest_ind (MathOk y) trivial (fun i v I oI C oC D m₂ h tk ys E' Q' hi hP hC hm F' N' hret => ?_) fun ys hl ho D h tk F' N' _ => hQ D h tk ys F' N' (strsAre_get (by simpa [mathL] using hl) fun i v hv => ?_)
  · obtain ⟨c, u, hcu, rfl⟩ := hP
    exact math_elt rfl T X F' N' hC hm (hc c (Array.mem_of_getElem? hcu)) fun t h' tk' F'' N'' => hret _ h' tk' ⟨c, t, hcu, rfl⟩ F'' N''
  · obtain ⟨c, t, hcu, rfl⟩ := ho i v hv
    exact ⟨_, t, by simp [mathL, hcu], rfl⟩
end
end Mine
end
noncomputable section
-- WT5
open PySem PySem.W PyProof.Rows
set_option maxRecDepth 100000
set_option maxHeartbeats 0
namespace Mine
open PySem.Calls PyProof.V PySem.Spec Builtin
open PyProof.Rows.LCg PyProof.Rows.LCt
theorem fm0 (y : Int) : 0 ≤ y.fmod 5 := by have := Int.fmod_eq_emod_of_nonneg y (b := 5) (by omega); rw [this]; omega
theorem fm1 (y : Int) : y.fmod 5 < 5 := by have := Int.fmod_eq_emod_of_nonneg y (b := 5) (by omega); rw [this]; omega
noncomputable def pickS (l : List Str) (k : Int) : Str := l.getD k.toNat ⟨#[]⟩
theorem pick5 {prog : Program} {w : World} {A : Around} {E : Value → Shared → Prop} {s : Shared} {h₀ : Heap} {L l : Addr} {news : List (Addr × Obj)} {value slice : Expr} {k : Int} {u : Tok} {a0 a1 a2 a3 a4 : Str} {t0 t1 t2 t3 t4 : Tok} {n : Nat} {Q : Value → Shared → Prop}
    (N : News h₀ L s.heap news) (hm : (l, listOf #[.str a0 t0, .str a1 t1, .str a2 t2, .str a3 t3, .str a4 t4] n) ∈ news) (h0 : 0 ≤ k) (h1 : k < 5) (h : ∀ t, Q (.str (pickS [a0, a1, a2, a3, a4] k) t) s)
    (hs : subscripted slice false (.ref l) (.int k u) = operate [.ref l, .int k u] (getItem (.ref l) (.int k u))) :
    wpAny (model prog w) A (subscriptTail value slice (.ref l) (.int k u)) Q E s := by
  have hl : s.heap.IsList l #[.str a0 t0, .str a1 t1, .str a2 t2, .str a3 t3, .str a4 t4] := ⟨_, (N _ hm).1, rfl, n, rfl⟩
  have e : k = 0 ∨ k = 1 ∨ k = 2 ∨ k = 3 ∨ k = 4 := by omega
  rcases e with rfl | rfl | rfl | rfl | rfl
  · exact tail_any hl.typeIs slot_list_getitem.lookup (wpAny_getItem_list hl (by omega) (by omega) (x := .str a0 t0) rfl (h t0)) hs
  · exact tail_any hl.typeIs slot_list_getitem.lookup (wpAny_getItem_list hl (by omega) (by omega) (x := .str a1 t1) rfl (h t1)) hs
  · exact tail_any hl.typeIs slot_list_getitem.lookup (wpAny_getItem_list hl (by omega) (by omega) (x := .str a2 t2) rfl (h t2)) hs
  · exact tail_any hl.typeIs slot_list_getitem.lookup (wpAny_getItem_list hl (by omega) (by omega) (x := .str a3 t3) rfl (h t3)) hs
  · exact tail_any hl.typeIs slot_list_getitem.lookup (wpAny_getItem_list hl (by omega) (by omega) (x := .str a4 t4) rfl (h t4)) hs
noncomputable def unseenF (x : Int) : Str := pickS [Str.ofString "", Str.ofString "­", Str.ofString "​", Str.ofString "⁠", Str.ofString "︀"] ((x.fdiv 4).fmod 5)
noncomputable def wordF (a : Str) (rank most : Int) : Str := if rank + 1 < most then Txt.item a 0 ++ Txt.item a (rank + 1) else Txt.item a 0
noncomputable def spelledF (a d : Str) (rank most x : Int) : Str := if x.fmod 4 = 0 ∧ rank + 1 < most then unseenF x ++ Txt.item d rank else if x.fmod 4 = 1 then Txt.upper (wordF a rank most) ++ unseenF x else if x.fmod 4 = 2 then Txt.join (unseenF x) (mathL (wordF a rank most)) else unseenF x ++ Txt.slice (wordF a rank most) none (some 1) ++ unseenF x ++ Txt.upper (Txt.slice (wordF a rank most) (some 1) none)
section
variable {w : World} {mean : ExcName → Option Value} {mg mb : Str → Option Value} {news : List (Addr × Obj)} {a d : Str} {rank most x : Int} {t1 t2 t3 t4 t5 : Tok}
structure SpB (a d : Str) (rank x : Int) : Prop where
  c9 : (Txt.item a 0 ++ Txt.item a (rank + 1)).length ≤ 9
  b8 : (unseenF x).length ≤ 9
  b9 : (Txt.item d rank).length ≤ 9
  b10 : (Txt.upper (Txt.item a 0)).length ≤ 99
  b11 : (Txt.slice (Txt.item a 0) none (some 1)).length ≤ 9
  b12 : (Txt.upper (Txt.slice (Txt.item a 0) (some 1) none)).length ≤ 99
  b13 : (Txt.item a 0).cps.size ≤ 1000
  b14 : (∀ c ∈ (Txt.item a 0).cps, c < 1000)
  b15 : ((mathL (Txt.item a 0)).map (·.length)).sum + (mathL (Txt.item a 0)).length * 64 ≤ 16777216
  b16 : (Txt.upper (Txt.item a 0 ++ Txt.item a (rank + 1))).length ≤ 99
  b17 : (Txt.slice (Txt.item a 0 ++ Txt.item a (rank + 1)) none (some 1)).length ≤ 9
  b18 : (Txt.upper (Txt.slice (Txt.item a 0 ++ Txt.item a (rank + 1)) (some 1) none)).length ≤ 99
  b19 : (Txt.item a 0 ++ Txt.item a (rank + 1)).cps.size ≤ 1000
  b20 : (∀ c ∈ (Txt.item a 0 ++ Txt.item a (rank + 1)).cps, c < 1000)
  b21 : ((mathL (Txt.item a 0 ++ Txt.item a (rank + 1))).map (·.length)).sum + (mathL (Txt.item a 0 ++ Txt.item a (rank + 1))).length * 64 ≤ 16777216
structure SpT (W U d : Str) (rank : Int) : Prop where
  c0 : W.length ≤ 9
  c1 : U.length ≤ 9
  c2 : (Txt.item d rank).length ≤ 9
  c3 : (Txt.upper W).length ≤ 99
  c4 : (Txt.slice W none (some 1)).length ≤ 9
  c5 : (Txt.upper (Txt.slice W (some 1) none)).length ≤ 99
  c6 : W.cps.size ≤ 1000
  c7 : ∀ c ∈ W.cps, c < 1000
  c8 : ((mathL W).map (·.length)).sum + (mathL W).length * 64 ≤ 16777216
theorem SpB.tail {a d : Str} {rank x most : Int} (h : SpB a d rank x) : SpT (wordF a rank most) (unseenF x) d rank := by
  unfold wordF
  split
  · exact ⟨h.c9, h.b8, h.b9, h.b16, h.b17, h.b18, h.b19, h.b20, h.b21⟩
  · exact ⟨Nat.le_trans (Nat.le_add_right _ _) (by have := h.c9; rwa [PySem.Str.length_append] at this), h.b8, h.b9, h.b10, h.b11, h.b12, h.b13, h.b14, h.b15⟩
noncomputable def spelledPre (a d : Str) (rank most x : Int) : Prop := a.length ≤ 4 ∧ 0 ≤ rank ∧ rank < a.length ∧ most ≤ a.length ∧ rank < most ∧ most ≤ d.length + 1 ∧ 2 ≤ most ∧ 0 ≤ x ∧ SpB a d rank x
@[reducible] noncomputable def gs3 {x : List Stmt} (a b c : Stmt) (_ : x = [a, b, c]) : List Stmt := [a, b, c]
@[reducible] noncomputable def gs4 {x : List Stmt} (a b c d : Stmt) (_ : x = [a, b, c, d]) : List Stmt := [a, b, c, d]
@[reducible] noncomputable def sH : List Stmt := gs3 _ _ _ (rfl : b18.take 3 = [_, _, _])
@[reducible] noncomputable def sT : List Stmt := gs4 _ _ _ _ (rfl : b18.drop 3 = [_, _, _, _])
noncomputable def spTF (W U d : Str) (rank most x : Int) : Str := if x.fmod 4 = 0 ∧ rank + 1 < most then U ++ Txt.item d rank else if x.fmod 4 = 1 then Txt.upper W ++ U else if x.fmod 4 = 2 then Txt.join U (mathL W) else U ++ Txt.slice W none (some 1) ++ U ++ Txt.upper (Txt.slice W (some 1) none)
theorem spt0 {W U d : Str} {rank most x : Int} (r : rank + 1 < most) (e : x.fmod 4 = 0) : U ++ Txt.item d rank = spTF W U d rank most x := by unfold spTF; rw [if_pos ⟨e, r⟩]
theorem spt1 {W U d : Str} {rank most x : Int} (e : x.fmod 4 = 1) : Txt.upper W ++ U = spTF W U d rank most x := by unfold spTF; rw [if_neg (fun h => (fun g : x.fmod 4 = 0 => absurd (g.symm.trans e) (by decide)) h.1), if_pos e]
theorem spt2 {W U d : Str} {rank most x : Int} (e : x.fmod 4 = 2) : Txt.join U (mathL W) = spTF W U d rank most x := by unfold spTF; rw [if_neg (fun h => (fun g : x.fmod 4 = 0 => absurd (g.symm.trans e) (by decide)) h.1), if_neg (fun g : x.fmod 4 = 1 => absurd (g.symm.trans e) (by decide)), if_pos e]
theorem spt3 {W U d : Str} {rank most x : Int} (h : x.fmod 4 ≠ 0 ∨ ¬ rank + 1 < most) (e1 : x.fmod 4 ≠ 1) (e2 : x.fmod 4 ≠ 2) : U ++ Txt.slice W none (some 1) ++ U ++ Txt.upper (Txt.slice W (some 1) none) = spTF W U d rank most x := by unfold spTF; rw [if_neg (fun g => h.elim (fun k => k g.1) fun k => k g.2), if_neg e1, if_neg e2]
theorem execs_app9 (l1 l2 : List Stmt) (env : Env) : execs (l1 ++ l2) env = (do match ← execs l1 env with | .next => execs l2 env | f => pure f) := by
  induction l1 with
  | nil => show execs l2 env = ((pure Flow.next : Sem Flow) >>= _); rw [pure_bind]
  | cons st r ih =>
    rw [List.cons_append, execs_cons, execs_cons, ih, bind_assoc]
    congr; funext f
    cases f <;> simp
theorem wpAny_app9 {M : Model} {A : Around} {E : Value → Shared → Prop} {s : Shared} {l1 l2 : List Stmt} {env : Env} {Q : Flow → Shared → Prop}
    (h : wpAny M A (execs l1 env) (fun fl s' => match fl with | .next => wpAny M A (execs l2 env) Q E s' | f => Q f s') E s) : wpAny M A (execs (l1 ++ l2) env) Q E s := by
  rw [execs_app9]
  refine wpAny_bind (wpAny_mono h (fun fl s' x => ?_) fun _ _ e => e)
  cases fl with
  | next => exact x
  | ret v => exact wpAny_pure x
  | brk => exact wpAny_pure x
  | cont => exact wpAny_pure x
section
variable {dp un : Nat} {gd : Option (List Code)} {cn : Str} {cs : Scope} {L0 a0 : Addr} {ccd : Value} {cl : List (Str × Addr)} {outer outer2 : List Env} {p : Program} {loose : List Str} {base h₀ : Heap} {s : Shared} {L : Addr} {m : Str → Option Value} {Q : Flow → Shared → Prop} {E : Value → Shared → Prop}
local macro_rules | `(tactic| walk_at "eval Name") => `(tactic| (k_here; name_kind "local"; k_dflt (first | (refine' ld ?k1 ?k2 ?_ ?k3 ?k4; (case k1 => k_asm); (case k2 => assumption); (case k3 => rfl); (case k4 => rfl); k_whole) | fail "no")))
section
local macro_rules | `(tactic| walk_at "eval ListComp") => `(tactic| (k_here; k_dflt (first | (refine' ListComp_SU ?k1 ?k2 ?k3 ?k4 ?k5 ?k6 ?_ ?k7; (case k1 => k_asm); (case k2 => rfl); (case k3 => decide); (case k4 => rfl); (case k5 => decide); (case k6 => rfl); (case k7 => intro _; rfl)) | fail "no")))
local macro_rules | `(tactic| walk_at "TxtSrcU") => `(tactic| (k_here; k_dflt (first | (refine' math_src ?k1 ?k2 ?k3 ?k4 ?k5 ?k6 ?k7 ?_; (case k1 => rfl); (case k2 => k_asm); (case k3 => k_asm); (case k4 => k_asm); (case k5 => k_asm); (case k6 => exact (‹SpT _ _ _ _›).c6); (case k7 => exact (‹SpT _ _ _ _›).c7); intro D' h' tk' ys' F' N' hs') | fail "no")))
local macro_rules | `(tactic| walk_at "call builtin:str.join") => `(tactic| (k_here; (with_reducible show wpAny _ _ (call (Value.builtin "str.join") [Value.str _ _, Value.ref _]) _ _ _); k_dflt (first | (refine' join_listC ?k1 ?k2 ?k3 ?k4 ?_; (case k1 => exact News.isList (by k_asm) (by k_mem)); (case k2 => assumption); (case k3 => exact Nat.le_trans (‹SpT _ _ _ _›).c1 (by decide)); (case k4 => exact (‹SpT _ _ _ _›).c8); intro t' k') | fail "no")))
local macro_rules | `(tactic| walk_at "binaryOp Add str str") => `(tactic| (k_here; (with_reducible show wpAny _ _ (binaryOp Operator.Add (Value.str _ _) (Value.str _ _)) _ _ _); k_dflt (first | (refine' add_str ?_ ?k2; (case k2 => (simp only [PySem.Str.length_append, sizeLine_eq]; obtain ⟨_, b1, b2, b3, b4, b5, _, _, _⟩ := (‹SpT _ _ _ _›); omega)); intro t' tk') | fail "no")))
theorem sp_tail {W U : Str} {tW tU : Tok} (K : Below (ktrTop dp un gd cn cs L0 a0 ccd cl outer) base outer2 h₀) (X : (KK w.params).In h₀) (T : Top p loose mean mg mb h₀) (F : Fr h₀ L s.heap m) (N : News h₀ L s.heap news) (mW : m "word" = some (.str W tW)) (mU : m "unseen" = some (.str U tU)) (md : m "doubles" = some (.str d t2)) (mr : m "rank" = some (.int rank t3)) (mm : m "most" = some (.int most t4)) (mx : m "x" = some (.int x t5)) (q1 : 0 ≤ rank) (q4 : rank < most) (q5 : most ≤ d.length + 1) (q6 : 2 ≤ most) (q7 : 0 ≤ x) (qm : most ≤ 4) (hb : SpT W U d rank) (hWl : W.length ≤ 9) (hUl : U.length ≤ 9)
    (hQ : ∀ h' tk' m' t, Fr h₀ L h' m' → News h₀ L h' news → Q (.ret (.str (spTF W U d rank most x) t)) { s with heap := h', toks := tk' }) :
    wpAny (model PySem.Challenge.rw_xo0036_01.row.prog w) ((ktrTop dp un gd cn cs L0 a0 ccd cl outer).deeper (envOf (Str.ofString "_law_spelled") s18 L 222 (.ref 221))) (execs sT (envOf (Str.ofString "_law_spelled") s18 L 222 (.ref 221))) Q E s := by
  revert X
  k_fill
  intro X
  k_steps
  all_goals (try dsimp only)
  all_goals first
    | (rw [spt0 (W := W) (by assumption) (by assumption)]; exact hQ _ _ _ _ (by assumption) (cb_drop (by assumption) (by repeat (first | exact fun _ h => h | exact fun _ h => .tail _ h | exact fun _ h => .tail _ (.tail _ h)))))
    | (rw [spt1 (d := d) (rank := rank) (most := most) (x := x) (by assumption)]; exact hQ _ _ _ _ (by assumption) (cb_drop (by assumption) (by repeat (first | exact fun _ h => h | exact fun _ h => .tail _ h | exact fun _ h => .tail _ (.tail _ h)))))
    | (rw [spt2 (d := d) (rank := rank) (most := most) (x := x) (by assumption)]; exact hQ _ _ _ _ (by assumption) (cb_drop (by assumption) (by repeat (first | exact fun _ h => h | exact fun _ h => .tail _ h | exact fun _ h => .tail _ (.tail _ h)))))
    | (rw [spt3 (d := d) (rank := rank) (most := most) (x := x) (by first | exact .inl (by assumption) | exact .inr (by assumption)) (by assumption) (by assumption)]; exact hQ _ _ _ _ (by assumption) (cb_drop (by assumption) (by repeat (first | exact fun _ h => h | exact fun _ h => .tail _ h | exact fun _ h => .tail _ (.tail _ h)))))
end
section
local macro_rules | `(tactic| walk_at "subscriptTail") => `(tactic| (k_here; (with_reducible show wpAny _ _ (subscriptTail _ _ (Value.ref _) (Value.int _ _)) _ _ _); k_dflt (first | (refine' pick5 ?k1 ?k2 ?k3 ?k4 ?_ ?k5; (case k1 => k_asm); (case k2 => k_mem); (case k3 => first | omega | exact fm0 _); (case k4 => first | omega | exact fm1 _); (case k5 => with_unfolding_all rfl); k_whole; intro pt) | fail "no")))
theorem sp_head (K : Below (ktrTop dp un gd cn cs L0 a0 ccd cl outer) base outer2 h₀) (X : (KK w.params).In h₀) (T : Top p loose mean mg mb h₀) (F : Fr h₀ L s.heap m) (N : News h₀ L s.heap news) (ma : m "letters" = some (.str a t1)) (md : m "doubles" = some (.str d t2)) (mr : m "rank" = some (.int rank t3)) (mm : m "most" = some (.int most t4)) (mx : m "x" = some (.int x t5)) (q0 : a.length ≤ 4) (q1 : 0 ≤ rank) (q2 : rank < a.length) (q3 : most ≤ a.length) (q4 : rank < most) (q6 : 2 ≤ most) (q7 : 0 ≤ x)
    (hQ : ∀ h' tk' m' tW tU news', m' "word" = some (.str (wordF a rank most) tW) → m' "unseen" = some (.str (unseenF x) tU) → m' "doubles" = some (.str d t2) → m' "rank" = some (.int rank t3) → m' "most" = some (.int most t4) → m' "x" = some (.int x t5) → Fr h₀ L h' m' → News h₀ L h' news' → (∀ p ∈ news, p ∈ news') → Q .next { s with heap := h', toks := tk' }) :
    wpAny (model PySem.Challenge.rw_xo0036_01.row.prog w) ((ktrTop dp un gd cn cs L0 a0 ccd cl outer).deeper (envOf (Str.ofString "_law_spelled") s18 L 222 (.ref 221))) (execs sH (envOf (Str.ofString "_law_spelled") s18 L 222 (.ref 221))) Q E s := by
  revert X
  k_fill
  intro X
  k_steps
  · have e9 : wordF a rank most = Txt.item a 0 ++ Txt.item a (rank + 1) := if_pos (by assumption)
    rw [e9] at hQ
    refine hQ _ _ _ ?_ ?_ _ ?_ ?_ ?_ ?_ ?_ ?_ (by assumption) (by assumption) (fun p hp => by repeat (first | exact hp | apply List.mem_cons_of_mem))
    all_goals (repeat (first | exact md | exact mr | exact mm | exact mx | exact if_pos rfl | refine (if_neg (by decide)).trans ?_))
  · have e9 : wordF a rank most = Txt.item a 0 := if_neg (by assumption)
    rw [e9] at hQ
    refine hQ _ _ _ ?_ ?_ _ ?_ ?_ ?_ ?_ ?_ ?_ (by assumption) (by assumption) (fun p hp => by repeat (first | exact hp | apply List.mem_cons_of_mem))
    all_goals (repeat (first | exact md | exact mr | exact mm | exact mx | exact if_pos rfl | refine (if_neg (by decide)).trans ?_))
end
end
theorem spelled_claim : Claim w mean mg mb 222 news (spelledPre a d rank most x) [.str a t1, .str d t2, .int rank t3, .int most t4, .int x t5] (fun v new => ∃ t, v = .str (spelledF a d rank most x) t ∧ new = news) := by
  unfold Claim
  k_fill
  intros
  rename_i hret
  refine wpAny_call ?_
  (k_dflt (refine' code_def ?k1 ?k2 ?k3 ?k4 ?k5 ?kA ?kF ?kK ?k6 ?k7 ?k8 ?k9 ?kB ?_ ?c2 ?c3 ?c4 ?c5; (case kA => exact rfl); (case kF => exact rfl); (case kK => assumption); (case k1 => k_asm); (case k2 => k_asm); (case k3 => k_asm); (case k4 => k_asm); (case k5 => k_asm); (case k6 => k_is); (case k7 => k_is); (case k8 => ktr_room); (case k9 => exact BindsTo.of_eq rfl); (case c5 => decide); (case kB => exact locs rfl); (case c2 => exact rfl); (case c3 => exact rfl); (case c4 => exact rfl); k_whole; intro g' L' h' FG' F' N' B' X' T'; (try dsimp only); (try k_lift B'); (try k_fold)))
  rename_i hp _ _
  unfold spelledPre at hp
  obtain ⟨q0, q1, q2, q3, q4, q5, q6, q7, hb⟩ := hp
  refine wpAny_app9 (l1 := sH) (l2 := sT) (sp_head B' X' T' F' N' (by first | rfl | kernel_rfl) (by first | rfl | kernel_rfl) (by first | rfl | kernel_rfl) (by first | rfl | kernel_rfl) (by first | rfl | kernel_rfl) q0 q1 q2 q3 q4 q6 q7 fun h1 tk1 m1 tW tU news1 e1 e2 e3 e4 e5 e6 F1 N1 hs1 => ?_)
  refine sp_tail B' X' T' F1 N1 e1 e2 e3 e4 e5 e6 q1 q4 q5 q6 q7 (by omega) (hb.tail (most := most)) (hb.tail (most := most)).c0 (hb.tail (most := most)).c1 fun h2 tk2 m2 t F2 N2 => ?_
  k_steps
  exact hret _ _ _ _ ⟨_, rfl, rfl⟩ (by assumption) (cb_drop (by assumption) hs1)
end
end Mine
end
noncomputable section
-- WA5
open PySem PySem.W PyProof.Rows
set_option maxRecDepth 100000
set_option maxHeartbeats 0
namespace Mine
open PySem.Calls PyProof.V PySem.Spec Builtin
open PyProof.V
noncomputable def Sign (x : Str) : Prop := x = Str.ofString "&" ∨ x = Str.ofString "<" ∨ x = Str.ofString ">" ∨ x = Str.ofString "\"" ∨ x = Str.ofString "\t" ∨ x = Str.ofString "\n" ∨ x = Str.ofString "\x0d"
noncomputable def nameF (x : Str) : Str := if x = Str.ofString "&" then Str.ofString "amp;" else if x = Str.ofString "<" then Str.ofString "lt;" else if x = Str.ofString ">" then Str.ofString "gt;" else if x = Str.ofString "\"" then Str.ofString "quot;" else if x = Str.ofString "\x0d" then Str.ofString "#xD;" else if x = Str.ofString "\n" then Str.ofString "#xA;" else Str.ofString "#x9;"
noncomputable def tensF (x : Str) : Str := if x = Str.ofString "\x0d" then Str.ofString "#13;" else if x = Str.ofString "\n" then Str.ofString "#10;" else if x = Str.ofString "\t" then Str.ofString "#09;" else nameF x
theorem kysV {x : Str} {R : Value → Prop} (h : ∀ t, R (.str x t)) : KysVal (.str x) R := fun v hv => by obtain ⟨t, rfl⟩ := Flat.str_inv hv; exact h t
theorem names_kys {sg : Str} {R : Value → Prop} {N : Prop} (hs : Sign sg) (h : ∀ t, R (.str (nameF sg) t)) : KysD PyData.str sg [(PyData.str (Str.ofString "&"), PyData.str (Str.ofString "amp;")), (PyData.str (Str.ofString "<"), PyData.str (Str.ofString "lt;")), (PyData.str (Str.ofString ">"), PyData.str (Str.ofString "gt;")), (PyData.str (Str.ofString "\""), PyData.str (Str.ofString "quot;")), (PyData.str (Str.ofString "\x0d"), PyData.str (Str.ofString "#xD;")), (PyData.str (Str.ofString "\n"), PyData.str (Str.ofString "#xA;")), (PyData.str (Str.ofString "\t"), PyData.str (Str.ofString "#x9;"))] (fun dv => KysVal dv R) N := by
  unfold Sign at hs
  rcases hs with rfl | rfl | rfl | rfl | rfl | rfl | rfl
  · show KysVal (.str (Str.ofString "amp;")) R; exact kysV h
  · show KysVal (.str (Str.ofString "lt;")) R; exact kysV h
  · show KysVal (.str (Str.ofString "gt;")) R; exact kysV h
  · show KysVal (.str (Str.ofString "quot;")) R; exact kysV h
  · show KysVal (.str (Str.ofString "#x9;")) R; exact kysV h
  · show KysVal (.str (Str.ofString "#xA;")) R; exact kysV h
  · show KysVal (.str (Str.ofString "#xD;")) R; exact kysV h
theorem tens_kys {sg : Str} {R : Value → Prop} (hs : Sign sg) (h : ∀ t, R (.str (tensF sg) t)) : KysD PyData.str sg [(PyData.str (Str.ofString "\x0d"), PyData.str (Str.ofString "#13;")), (PyData.str (Str.ofString "\n"), PyData.str (Str.ofString "#10;")), (PyData.str (Str.ofString "\t"), PyData.str (Str.ofString "#09;"))] (fun dv => KysVal dv R) (KysVal (.str (nameF sg)) R) := by
  unfold Sign at hs
  rcases hs with rfl | rfl | rfl | rfl | rfl | rfl | rfl
  · show KysVal (.str (nameF (Str.ofString "&"))) R; exact kysV h
  · show KysVal (.str (nameF (Str.ofString "<"))) R; exact kysV h
  · show KysVal (.str (nameF (Str.ofString ">"))) R; exact kysV h
  · show KysVal (.str (nameF (Str.ofString "\""))) R; exact kysV h
  · show KysVal (.str (Str.ofString "#09;")) R; exact kysV h
  · show KysVal (.str (Str.ofString "#10;")) R; exact kysV h
  · show KysVal (.str (Str.ofString "#13;")) R; exact kysV h
theorem flatS {x : Str} {t : Tok} : Flat (.str x t) (.str x) := fun _ => .str x t
theorem sign_len {sg : Str} (hs : Sign sg) : (nameF sg).length ≤ 9 ∧ (tensF sg).length ≤ 9 := by
  unfold Sign at hs
  rcases hs with rfl | rfl | rfl | rfl | rfl | rfl | rfl <;> decide
theorem addB {n : Int} {y : Str} (hn : n ≤ 40) (hy : y.length ≤ 9) : (Str.ofString "&" ++ Txt.mul (Str.ofString "amp;") n).length + y.length ≤ sizeLine := by
  have e1 : (Str.ofString "&").length = 1 := rfl
  have e2 := len_mul_leN (x := Str.ofString "amp;") (n := n) (L := 4) (N := 40) (by decide) (by omega)
  rw [PySem.Str.length_append, sizeLine_eq, e1]; omega
@[reducible] noncomputable def notIn (k : Int) (sg : Str) : Bool := (Str.occurrences (pickS [Str.ofString "&<>", Str.ofString "&<>\"\x0d\n\t", Str.ofString "&>\"", Str.ofString "&<>\x0d", Str.ofString "&<\"\t\n\x0d"] k) sg 0 (pickS [Str.ofString "&<>", Str.ofString "&<>\"\x0d\n\t", Str.ofString "&>\"", Str.ofString "&<>\x0d", Str.ofString "&<\"\t\n\x0d"] k).length 1).isEmpty
noncomputable def letterF (a d : Str) : Str := Txt.item a (↑d.length - ↑(Txt.rstripChars d (Str.ofString "1")).length)
noncomputable def layF (n : Int) (k : Int) (sg : Str) : Str := if n = 0 then sg else if k = 1 then Str.ofString "&" ++ Txt.mul (Str.ofString "amp;") (n - 1) ++ tensF sg else Str.ofString "&" ++ Txt.mul (Str.ofString "amp;") (n - 1) ++ nameF sg
noncomputable def writeF (d sg : Str) (i j : Int) : Str := if notIn j sg = true then (if notIn i sg = true then sg else layF (↑(Txt.lstripChars d (Str.ofString "1")).length : Int) i sg) else layF (↑d.length : Int) j sg
theorem lt_drop {l : Addr} {news news' : List (Addr × Obj)} (h : ∀ p ∈ news', p.1 < l) (hs : ∀ p ∈ news, p ∈ news') : ∀ p ∈ news, p.1 < l := fun p hp => h p (hs p hp)
theorem tup_mem {p : Addr} {x y z : Str} {t u : Tok} {l : List (Addr × Obj)} (e : x = z) (h : ((p, tupO #[.str x t, .str y u]) : Addr × Obj) ∈ l) : ((p, tupO #[.str z t, .str y u]) : Addr × Obj) ∈ l := e ▸ h
@[reducible] noncomputable def qs3 {x : List Stmt} (a b c : Stmt) (_ : x = [a, b, c]) : List Stmt := [a, b, c]
@[reducible] noncomputable def qA : List Stmt := qs3 _ _ _ (rfl : b21.take 3 = [_, _, _])
@[reducible] noncomputable def qB : List Stmt := qs3 _ _ _ (rfl : (b21.drop 3).take 3 = [_, _, _])
@[reducible] noncomputable def qC : List Stmt := qs3 _ _ _ (rfl : b21.drop 6 = [_, _, _])
noncomputable def endF (n k : Int) (sg : Str) : Str := if notIn k sg = true then sg else layF n k sg
theorem writeB {d sg : Str} {i j : Int} (h : notIn j sg = true) : endF (↑(Txt.lstripChars d (Str.ofString "1")).length : Int) i sg = writeF d sg i j := by unfold writeF endF; rw [if_pos h]
theorem writeA {d sg : Str} {i j : Int} (h : notIn j sg = false) : endF (↑d.length : Int) j sg = writeF d sg i j := by unfold writeF endF; rw [if_neg (by rw [h]; decide), if_neg (by rw [h]; decide)]
section
variable {k n : Int} {sg : Str}
theorem pe1 (h : notIn k sg = true) : sg = endF n k sg := (if_pos h).symm
theorem pe2 (h : notIn k sg = false) (h3 : n = 0) : sg = endF n k sg := by unfold endF layF; rw [if_neg (by rw [h]; decide), if_pos h3]
theorem pe3 (h : notIn k sg = false) (h3 : n ≠ 0) (h4 : k = 1) : Str.ofString "&" ++ Txt.mul (Str.ofString "amp;") (n - 1) ++ tensF sg = endF n k sg := by unfold endF layF; rw [if_neg (by rw [h]; decide), if_neg h3, if_pos h4]
theorem pe4 (h : notIn k sg = false) (h3 : n ≠ 0) (h4 : k ≠ 1) : Str.ofString "&" ++ Txt.mul (Str.ofString "amp;") (n - 1) ++ nameF sg = endF n k sg := by unfold endF layF; rw [if_neg (by rw [h]; decide), if_neg h3, if_neg h4]
end
section
variable {w : World} {mean : ExcName → Option Value} {mg mb : Str → Option Value} {news : List (Addr × Obj)} {d a sg : Str} {i j : Int} {t1 t2 t3 t4 t5 : Tok}
section
variable {dp un : Nat} {gd : Option (List Code)} {cn : Str} {cs : Scope} {L0 a0 : Addr} {ccd : Value} {cl : List (Str × Addr)} {outer outer2 : List Env} {p : Program} {loose : List Str} {base h₀ : Heap} {s : Shared} {L : Addr} {m : Str → Option Value} {Q : Flow → Shared → Prop} {E : Value → Shared → Prop}
local macro_rules | `(tactic| walk_at "eval Name") => `(tactic| (k_here; name_kind "local"; k_dflt (first | (refine' ld ?k1 ?k2 ?_ ?k3 ?k4; (case k1 => k_asm); (case k2 => assumption); (case k3 => rfl); (case k4 => rfl); k_whole) | fail "no")))
theorem pqA (K : Below (ktrTop dp un gd cn cs L0 a0 ccd cl outer) base outer2 h₀) (X : (KK w.params).In h₀) (T : Top p loose mean mg mb h₀) (F : Fr h₀ L s.heap m) (N : News h₀ L s.heap news) (md : m "digits" = some (.str d t1)) (ma : m "letters" = some (.str a t2)) (ms : m "sign" = some (.str sg t3)) (mi : m "first" = some (.int i t4)) (mj : m "second" = some (.int j t5))
    (hQ : ∀ h' tk' m' (dt dn lw : Addr) (ot on : Obj) (kn kt : List (Str × Value)) (w0 w1 w2 w3 w4 : Tok), m' "digits" = some (.str d t1) → m' "letters" = some (.str a t2) → m' "sign" = some (.str sg t3) → m' "first" = some (.int i t4) → m' "second" = some (.int j t5) → m' "wrote" = some (.ref lw) → m' "names" = some (.ref dn) → m' "tens" = some (.ref dt) → Fr h₀ L h' m' → News h₀ L h' ((dt, ot) :: (dn, on) :: (lw, listOf #[.str (Str.ofString "&<>") w0, .str (Str.ofString "&<>\"\x0d\n\t") w1, .str (Str.ofString "&>\"") w2, .str (Str.ofString "&<>\x0d") w3, .str (Str.ofString "&<\"\t\n\x0d") w4] 0) :: news) → (dn == sysModules) = false → on.IsDictOf (strKind PySem.Challenge.rw_xo0036_01.row.prog w) kn → FlatPairs PyData.str kn [(PyData.str (Str.ofString "&"), PyData.str (Str.ofString "amp;")), (PyData.str (Str.ofString "<"), PyData.str (Str.ofString "lt;")), (PyData.str (Str.ofString ">"), PyData.str (Str.ofString "gt;")), (PyData.str (Str.ofString "\""), PyData.str (Str.ofString "quot;")), (PyData.str (Str.ofString "\x0d"), PyData.str (Str.ofString "#xD;")), (PyData.str (Str.ofString "\n"), PyData.str (Str.ofString "#xA;")), (PyData.str (Str.ofString "\t"), PyData.str (Str.ofString "#x9;"))] → (dt == sysModules) = false → ot.IsDictOf (strKind PySem.Challenge.rw_xo0036_01.row.prog w) kt → FlatPairs PyData.str kt [(PyData.str (Str.ofString "\x0d"), PyData.str (Str.ofString "#13;")), (PyData.str (Str.ofString "\n"), PyData.str (Str.ofString "#10;")), (PyData.str (Str.ofString "\t"), PyData.str (Str.ofString "#09;"))] → Q .next { s with heap := h', toks := tk' }) :
    wpAny (model PySem.Challenge.rw_xo0036_01.row.prog w) ((ktrTop dp un gd cn cs L0 a0 ccd cl outer).deeper (envOf (Str.ofString "_law_piece") s21 L 243 (.ref 242))) (execs qA (envOf (Str.ofString "_law_piece") s21 L 243 (.ref 242))) Q E s := by
  revert X
  k_fill
  intro X
  k_steps
  refine hQ _ _ _ _ _ _ _ _ _ _ _ _ _ _ _ ?_ ?_ ?_ ?_ ?_ ?_ ?_ ?_ (by assumption) (by assumption) (by assumption) (by assumption) (by assumption) (by assumption) (by assumption) (by assumption)
  all_goals (repeat (first | exact md | exact ma | exact ms | exact mi | exact mj | exact mw | exact mn | exact mt | exact if_pos rfl | refine (if_neg (by decide)).trans ?_))
section
local macro_rules | `(tactic| walk_at "newTuple") => `(tactic| (k_here; k_dflt (refine' newTuple_L ?k1 ?k2 ?_; (case k1 => k_asm); (case k2 => k_asm); k_whole); intro l' h' F' N' l1; (have l0 := l1; try k_lt l1); (try k_sweep)))
local macro_rules | `(tactic| walk_at "subscriptTail") => `(tactic| (k_here; (with_reducible show wpAny _ _ (subscriptTail _ _ (Value.ref _) (Value.int _ _)) _ _ _); k_dflt (first | (refine' pick5 ?k1 ?k2 ?k3 ?k4 ?_ ?k5; (case k1 => k_asm); (case k2 => k_mem); (case k3 => first | omega | exact fm0 _); (case k4 => first | omega | exact fm1 _); (case k5 => with_unfolding_all rfl); k_whole; intro pt) | fail "no")))
local macro_rules | `(tactic| walk_at "call builtin:dict.get") => `(tactic| (k_here; (with_reducible show wpAny _ _ (call (Value.builtin _) [Value.ref _, Value.str _ _, Value.str _ _]) _ _ _); k_dflt (first | (refine' kys_get2 (knd := PySem.strKind _ _) (enc := PyData.str) PyProof.V.same_str (strKind_is _ _ _ _) (by k_tabat) ?hx ?_; (case hx => exact flatS)) | fail "no")))
local macro_rules | `(tactic| walk_at "binaryOp Add str str") => `(tactic| (k_here; (with_reducible show wpAny _ _ (binaryOp Operator.Add (Value.str (_ ++ Txt.mul _ _) _) (Value.str _ _)) _ _ _); k_dflt (first | (refine' add_str ?_ ?k2; (case k2 => first | (exact addB (by omega) (sign_len (by assumption)).1) | (exact addB (by omega) (sign_len (by assumption)).2)); intro t' tk') | fail "no")))
local macro_rules | `(tactic| walk_at "KysD") => `(tactic| (k_here; k_dflt (first
  | (refine' names_kys ?k1 ?_; (case k1 => assumption); intro t')
  | (refine' tens_kys ?k1 ?_; (case k1 => assumption); intro t')
  | fail "no")))
theorem pqB {dt dn lw : Addr} {ot on : Obj} {kn kt : List (Str × Value)} {w0 w1 w2 w3 w4 : Tok} (K : Below (ktrTop dp un gd cn cs L0 a0 ccd cl outer) base outer2 h₀) (X : (KK w.params).In h₀) (T : Top p loose mean mg mb h₀) (F : Fr h₀ L s.heap m) (N : News h₀ L s.heap ((dt, ot) :: (dn, on) :: (lw, listOf #[.str (Str.ofString "&<>") w0, .str (Str.ofString "&<>\"\x0d\n\t") w1, .str (Str.ofString "&>\"") w2, .str (Str.ofString "&<>\x0d") w3, .str (Str.ofString "&<\"\t\n\x0d") w4] 0) :: news)) (md : m "digits" = some (.str d t1)) (ma : m "letters" = some (.str a t2)) (ms : m "sign" = some (.str sg t3)) (mi : m "first" = some (.int i t4)) (mj : m "second" = some (.int j t5)) (mw : m "wrote" = some (.ref lw)) (mn : m "names" = some (.ref dn)) (mt : m "tens" = some (.ref dt)) (lon : (dn == sysModules) = false) (hdn : on.IsDictOf (strKind PySem.Challenge.rw_xo0036_01.row.prog w) kn) (hfn : FlatPairs PyData.str kn [(PyData.str (Str.ofString "&"), PyData.str (Str.ofString "amp;")), (PyData.str (Str.ofString "<"), PyData.str (Str.ofString "lt;")), (PyData.str (Str.ofString ">"), PyData.str (Str.ofString "gt;")), (PyData.str (Str.ofString "\""), PyData.str (Str.ofString "quot;")), (PyData.str (Str.ofString "\x0d"), PyData.str (Str.ofString "#xD;")), (PyData.str (Str.ofString "\n"), PyData.str (Str.ofString "#xA;")), (PyData.str (Str.ofString "\t"), PyData.str (Str.ofString "#x9;"))]) (lot : (dt == sysModules) = false) (hdt : ot.IsDictOf (strKind PySem.Challenge.rw_xo0036_01.row.prog w) kt) (hft : FlatPairs PyData.str kt [(PyData.str (Str.ofString "\x0d"), PyData.str (Str.ofString "#13;")), (PyData.str (Str.ofString "\n"), PyData.str (Str.ofString "#10;")), (PyData.str (Str.ofString "\t"), PyData.str (Str.ofString "#09;"))]) (hs1 : sg.length = 1) (q1 : d.length ≤ 40) (q2 : a.length ≤ 4) (q3 : 0 ≤ i) (q4 : i < 5) (q5 : 0 ≤ j) (q6 : j < 5) (q7 : (0 : Int) ≤ ↑d.length - ↑(Txt.rstripChars d (Str.ofString "1")).length) (q8 : (↑d.length - ↑(Txt.rstripChars d (Str.ofString "1")).length : Int) < a.length) (q9 : (Txt.lstripChars d (Str.ofString "1")).length ≤ 40)
    (hQ : ∀ h' tk' m' k n u1 u2 u3, endF n k sg = writeF d sg i j → 0 ≤ k → k < 5 → 0 ≤ n → n ≤ 40 → m' "letter" = some (.str (letterF a d) u1) → m' "hand" = some (.int k u2) → m' "layers" = some (.int n u3) → m' "wrote" = some (.ref lw) → m' "names" = some (.ref dn) → m' "tens" = some (.ref dt) → m' "sign" = some (.str sg t3) → Fr h₀ L h' m' → News h₀ L h' ((dt, ot) :: (dn, on) :: (lw, listOf #[.str (Str.ofString "&<>") w0, .str (Str.ofString "&<>\"\x0d\n\t") w1, .str (Str.ofString "&>\"") w2, .str (Str.ofString "&<>\x0d") w3, .str (Str.ofString "&<\"\t\n\x0d") w4] 0) :: news) → Q .next { s with heap := h', toks := tk' }) :
    wpAny (model PySem.Challenge.rw_xo0036_01.row.prog w) ((ktrTop dp un gd cn cs L0 a0 ccd cl outer).deeper (envOf (Str.ofString "_law_piece") s21 L 243 (.ref 242))) (execs qB (envOf (Str.ofString "_law_piece") s21 L 243 (.ref 242))) Q E s := by
  revert X
  k_fill
  intro X
  k_steps
  · refine hQ _ _ _ _ _ ?_ ?_ ?_ (writeB (by assumption)) q3 q4 (by omega) (by omega) ?_ ?_ ?_ ?_ ?_ ?_ ?_ (by assumption) (cb_drop (by assumption) (fun p hp => by repeat (first | exact hp | apply List.mem_cons_of_mem)))
    all_goals (repeat (first | exact md | exact ma | exact ms | exact mi | exact mj | exact mw | exact mn | exact mt | exact if_pos rfl | refine (if_neg (by decide)).trans ?_))
  · refine hQ _ _ _ _ _ ?_ ?_ ?_ (writeA (by assumption)) q5 q6 (by omega) (by omega) ?_ ?_ ?_ ?_ ?_ ?_ ?_ (by assumption) (cb_drop (by assumption) (fun p hp => by repeat (first | exact hp | apply List.mem_cons_of_mem)))
    all_goals (repeat (first | exact md | exact ma | exact ms | exact mi | exact mj | exact mw | exact mn | exact mt | exact if_pos rfl | refine (if_neg (by decide)).trans ?_))
theorem pqC {dt dn lw : Addr} {ot on : Obj} {kn kt : List (Str × Value)} {w0 w1 w2 w3 w4 : Tok} {k n : Int} {x : Str} {u1 u2 u3 : Tok} (K : Below (ktrTop dp un gd cn cs L0 a0 ccd cl outer) base outer2 h₀) (X : (KK w.params).In h₀) (T : Top p loose mean mg mb h₀) (F : Fr h₀ L s.heap m) (N : News h₀ L s.heap ((dt, ot) :: (dn, on) :: (lw, listOf #[.str (Str.ofString "&<>") w0, .str (Str.ofString "&<>\"\x0d\n\t") w1, .str (Str.ofString "&>\"") w2, .str (Str.ofString "&<>\x0d") w3, .str (Str.ofString "&<\"\t\n\x0d") w4] 0) :: news)) (ml : m "letter" = some (.str x u1)) (mh : m "hand" = some (.int k u2)) (my : m "layers" = some (.int n u3)) (mw : m "wrote" = some (.ref lw)) (mn : m "names" = some (.ref dn)) (mt : m "tens" = some (.ref dt)) (ms : m "sign" = some (.str sg t3)) (lon : (dn == sysModules) = false) (hdn : on.IsDictOf (strKind PySem.Challenge.rw_xo0036_01.row.prog w) kn) (hfn : FlatPairs PyData.str kn [(PyData.str (Str.ofString "&"), PyData.str (Str.ofString "amp;")), (PyData.str (Str.ofString "<"), PyData.str (Str.ofString "lt;")), (PyData.str (Str.ofString ">"), PyData.str (Str.ofString "gt;")), (PyData.str (Str.ofString "\""), PyData.str (Str.ofString "quot;")), (PyData.str (Str.ofString "\x0d"), PyData.str (Str.ofString "#xD;")), (PyData.str (Str.ofString "\n"), PyData.str (Str.ofString "#xA;")), (PyData.str (Str.ofString "\t"), PyData.str (Str.ofString "#x9;"))]) (lot : (dt == sysModules) = false) (hdt : ot.IsDictOf (strKind PySem.Challenge.rw_xo0036_01.row.prog w) kt) (hft : FlatPairs PyData.str kt [(PyData.str (Str.ofString "\x0d"), PyData.str (Str.ofString "#13;")), (PyData.str (Str.ofString "\n"), PyData.str (Str.ofString "#10;")), (PyData.str (Str.ofString "\t"), PyData.str (Str.ofString "#09;"))]) (hs : Sign sg) (hs1 : sg.length = 1) (q3 : 0 ≤ k) (q4 : k < 5) (q5 : 0 ≤ n) (q6 : n ≤ 40)
    (hQ : ∀ h' tk' m' l u v, Fr h₀ L h' m' → News h₀ L h' ((l, tupO #[.str (endF n k sg) u, .str x v]) :: news) → (∀ p ∈ news, p.1 < l) → Q (.ret (.ref l)) { s with heap := h', toks := tk' }) :
    wpAny (model PySem.Challenge.rw_xo0036_01.row.prog w) ((ktrTop dp un gd cn cs L0 a0 ccd cl outer).deeper (envOf (Str.ofString "_law_piece") s21 L 243 (.ref 242))) (execs qC (envOf (Str.ofString "_law_piece") s21 L 243 (.ref 242))) Q E s := by
  revert X
  k_fill
  intro X
  k_steps
  all_goals (
    refine' hQ _ _ _ _ _ _ ?hF (cb_drop (by assumption) (List.forall_mem_cons.mpr ⟨tup_mem ?hE (.head _), fun p hp => by repeat (first | exact hp | apply List.mem_cons_of_mem)⟩)) (lt_drop ?hA ?hB)
    (case hF => assumption)
    (case hA => assumption)
    (case hB => exact fun p hp => by repeat (first | exact hp | apply List.mem_cons_of_mem))
    (case hE => first
      | with_reducible exact pe1 (by assumption)
      | with_reducible exact pe2 (by assumption) (by assumption)
      | with_reducible exact pe3 (by assumption) (by assumption) (by assumption)
      | with_reducible exact pe4 (by assumption) (by assumption) (by assumption)))
end
end
theorem piece_claim : Claim w mean mg mb 243 news (Sign sg ∧ sg.length = 1 ∧ d.length ≤ 40 ∧ a.length ≤ 4 ∧ 0 ≤ i ∧ i < 5 ∧ 0 ≤ j ∧ j < 5 ∧ (0 : Int) ≤ ↑d.length - ↑(Txt.rstripChars d (Str.ofString "1")).length ∧ (↑d.length - ↑(Txt.rstripChars d (Str.ofString "1")).length : Int) < a.length ∧ (Txt.lstripChars d (Str.ofString "1")).length ≤ 40) [.str d t1, .str a t2, .str sg t3, .int i t4, .int j t5] (fun v new => ∃ p t t', v = .ref p ∧ new = (p, tupO #[.str (writeF d sg i j) t, .str (letterF a d) t']) :: news ∧ ∀ q ∈ news, q.1 < p) := by
  unfold Claim
  k_fill
  intros
  rename_i hret
  refine wpAny_call ?_
  (k_dflt (refine' code_def ?k1 ?k2 ?k3 ?k4 ?k5 ?kA ?kF ?kK ?k6 ?k7 ?k8 ?k9 ?kB ?_ ?c2 ?c3 ?c4 ?c5; (case kA => exact rfl); (case kF => exact rfl); (case kK => assumption); (case k1 => k_asm); (case k2 => k_asm); (case k3 => k_asm); (case k4 => k_asm); (case k5 => k_asm); (case k6 => k_is); (case k7 => k_is); (case k8 => ktr_room); (case k9 => exact BindsTo.of_eq rfl); (case c5 => decide); (case kB => exact locs rfl); (case c2 => exact rfl); (case c3 => exact rfl); (case c4 => exact rfl); k_whole; intro g' L' h' FG' F' N' B' X' T'; (try dsimp only); (try k_lift B'); (try k_fold)))
  rename_i hp _ _
  obtain ⟨hs, hs1, q1, q2, q3, q4, q5, q6, q7, q8, q9⟩ := hp
  refine wpAny_app9 (l1 := qA) (l2 := qB ++ qC) (pqA B' X' T' F' N' (by first | rfl | kernel_rfl) (by first | rfl | kernel_rfl) (by first | rfl | kernel_rfl) (by first | rfl | kernel_rfl) (by first | rfl | kernel_rfl) fun h1 tk1 m1 dt dn lw ot on kn kt w0 w1 w2 w3 w4 e1 e2 e3 e4 e5 e6 e7 e8 F1 N1 g1 g2 g3 g4 g5 g6 => ?_)
  refine wpAny_app9 (l1 := qB) (l2 := qC) (pqB B' X' T' F1 N1 e1 e2 e3 e4 e5 e6 e7 e8 g1 g2 g3 g4 g5 g6 hs1 q1 q2 q3 q4 q5 q6 q7 q8 q9 fun h2 tk2 m2 k n u1 u2 u3 ee i1 i2 i3 i4 f1 f2 f3 f4 f5 f6 f7 F2 N2 => ?_)
  refine pqC B' X' T' F2 N2 f1 f2 f3 f4 f5 f6 f7 g1 g2 g3 g4 g5 g6 hs hs1 i1 i2 i3 i4 fun h3 tk3 m3 l u v F3 N3 lt3 => ?_
  rw [ee] at N3
  k_steps
  exact hret _ _ _ _ ⟨_, _, _, rfl, rfl, lt3⟩ (by assumption) (by assumption)
end
end Mine
end
noncomputable section
-- LW0
open PySem PySem.W PyProof.Rows
set_option maxRecDepth 100000
set_option maxHeartbeats 0
namespace Mine
open PySem.Calls PyProof.V PySem.Spec Builtin
theorem execs_append (l1 l2 : List Stmt) (env : Env) : execs (l1 ++ l2) env = (do match ← execs l1 env with | .next => execs l2 env | f => pure f) := by
  induction l1 with
  | nil => show execs l2 env = ((pure Flow.next : Sem Flow) >>= _); rw [pure_bind]
  | cons st r ih =>
    rw [List.cons_append, execs_cons, execs_cons, ih, bind_assoc]
    congr; funext f
    cases f <;> simp
theorem wpAny_execs_append {M : Model} {A : Around} {E : Value → Shared → Prop} {s : Shared} {l1 l2 : List Stmt} {env : Env} {Q : Flow → Shared → Prop}
    (h : wpAny M A (execs l1 env) (fun fl s' => match fl with | .next => wpAny M A (execs l2 env) Q E s' | f => Q f s') E s) : wpAny M A (execs (l1 ++ l2) env) Q E s := by
  rw [execs_append]
  refine wpAny_bind (wpAny_mono h (fun fl s' x => ?_) fun _ _ e => e)
  cases fl with
  | next => exact x
  | ret v => exact wpAny_pure x
  | brk => exact wpAny_pure x
  | cont => exact wpAny_pure x
@[reducible] noncomputable def gl1 {x : List Stmt} (a : Stmt) (_ : x = [a]) : List Stmt := [a]
@[reducible] noncomputable def gl2 {x : List Stmt} (a b : Stmt) (_ : x = [a, b]) : List Stmt := [a, b]
@[reducible] noncomputable def gl3 {x : List Stmt} (a b c : Stmt) (_ : x = [a, b, c]) : List Stmt := [a, b, c]
@[reducible] noncomputable def gl4 {x : List Stmt} (a b c d : Stmt) (_ : x = [a, b, c, d]) : List Stmt := [a, b, c, d]
@[reducible] noncomputable def gl5 {x : List Stmt} (a b c d e : Stmt) (_ : x = [a, b, c, d, e]) : List Stmt := [a, b, c, d, e]
@[reducible] noncomputable def g1 : List Stmt := lstOf _ _ (rfl : b22.take 3 = _ :: _)
@[reducible] noncomputable def g2 : List Stmt := gl1 _ (rfl : (b22.drop 3).take 1 = [_])
@[reducible] noncomputable def g3 : List Stmt := gl4 _ _ _ _ (rfl : (b22.drop 4).take 4 = [_, _, _, _])
@[reducible] noncomputable def g4 : List Stmt := gl2 _ _ (rfl : (b22.drop 8).take 2 = [_, _])
@[reducible] noncomputable def g5 : List Stmt := gl1 _ (rfl : (b22.drop 10).take 1 = [_])
@[reducible] noncomputable def g6 : List Stmt := gl1 _ (rfl : (b22.drop 11).take 1 = [_])
@[reducible] noncomputable def g7 : List Stmt := gl1 _ (rfl : (b22.drop 12).take 1 = [_])
@[reducible] noncomputable def g8 : List Stmt := gl1 _ (rfl : (b22.drop 13).take 1 = [_])
@[reducible] noncomputable def g9 : List Stmt := gl3 _ _ _ (rfl : (b22.drop 14).take 3 = [_, _, _])
@[reducible] noncomputable def g10 : List Stmt := gl1 _ (rfl : (b22.drop 17).take 1 = [_])
@[reducible] noncomputable def g11 : List Stmt := gl2 _ _ (rfl : (b22.drop 18).take 2 = [_, _])
theorem b22_eq : b22 = g1 ++ (g2 ++ (g3 ++ (g4 ++ (g5 ++ (g6 ++ (g7 ++ (g8 ++ (g9 ++ (g10 ++ g11))))))))) := by kernel_rfl
theorem Claim.use {w : World} {mean : ExcName → Option Value} {mg mb : Str → Option Value} {f : Addr} {news : List (Addr × Obj)} {pre : Prop} {vs : List Value} {Post : Value → List (Addr × Obj) → Prop} {p : Program} {loose : List Str} {dp un : Nat} {gd : Option (List Code)} {cn : Str} {cs : Scope} {a : Addr} {ccd : Value} {cl : List (Str × Addr)} {outer : List Env} {A₀ : Around} {base h₀ : Heap} {L : Addr} {m : Str → Option Value} {s : Shared} {Q E : Value → Shared → Prop}
    (C : Claim w mean mg mb f news pre vs Post) (B : Below A₀ base outer h₀) (F : Fr h₀ L s.heap m) (X : (KK w.params).In h₀) (N : News h₀ L s.heap news) (T : Top p loose mean mg mb h₀) (hk : cs.kind = .function) (hp : pre) (hd : dp + 1 < recursionLimit) (hu : un + 8 < cLine)
    (h : ∀ v news', Post v news' → ∀ h' tk', Fr h₀ L h' m → News h₀ L h' news' → Q v { s with heap := h', toks := tk' }) :
    wpAny (model PySem.Challenge.rw_xo0036_01.row.prog w) (ktrTop dp un gd cn cs L a ccd cl outer) (call (.ref f) vs) Q E s :=
  C p loose dp un gd cn cs a ccd cl outer A₀ base h₀ L m s Q E B F X N T hk hp hd hu fun v news' h' tk' hp' F' N' => h v news' hp' h' tk' F' N'
noncomputable def escA (k : Int) : Addr := if k = 0 then 182 else if k = 1 then 189 else if k = 2 then 196 else if k = 3 then 203 else 210
noncomputable def escF (k : Int) (x : Str) : Str := if k = 0 then esc_cdata x else if k = 1 then esc_attrib x else if k = 2 then esc_html x else if k = 3 then esc_cdata_c14n x else esc_attrib_c14n x
noncomputable def fitF (k : Int) (x : Str) : Prop := if k = 0 then fit_cdata x else if k = 1 then fit_attrib x else if k = 2 then fit_html x else if k = 3 then fit_cdata_c14n x else fit_attrib_c14n x
theorem esc_claim {w : World} {mean : ExcName → Option Value} {mg mb : Str → Option Value} {news : List (Addr × Obj)} {x : Str} {t : Tok} {k : Int} : Claim w mean mg mb (escA k) news (fitF k x) [.str x t] (fun v new => ∃ t', v = .str (escF k x) t' ∧ new = news) := by
  unfold escA fitF escF
  split
  · exact esc_cdata_claim
  split
  · exact esc_attrib_claim
  split
  · exact esc_html_claim
  split
  · exact esc_cdata_c14n_claim
  · exact esc_attrib_c14n_claim
theorem pickE {prog : Program} {w : World} {A : Around} {E : Value → Shared → Prop} {s : Shared} {h₀ : Heap} {L l : Addr} {news : List (Addr × Obj)} {value slice : Expr} {k : Int} {u : Tok} {n : Nat} {Q : Value → Shared → Prop}
    (N : News h₀ L s.heap news) (hm : (l, listOf #[.ref 182, .ref 189, .ref 196, .ref 203, .ref 210] n) ∈ news) (h0 : 0 ≤ k) (h1 : k < 5) (h : Q (.ref (escA k)) s)
    (hs : subscripted slice false (.ref l) (.int k u) = operate [.ref l, .int k u] (getItem (.ref l) (.int k u))) :
    wpAny (model prog w) A (subscriptTail value slice (.ref l) (.int k u)) Q E s := by
  have hl : s.heap.IsList l #[.ref 182, .ref 189, .ref 196, .ref 203, .ref 210] := ⟨_, (N _ hm).1, rfl, n, rfl⟩
  have e : k = 0 ∨ k = 1 ∨ k = 2 ∨ k = 3 ∨ k = 4 := by omega
  rcases e with rfl | rfl | rfl | rfl | rfl
  · exact tail_any hl.typeIs slot_list_getitem.lookup (wpAny_getItem_list hl (by omega) (by omega) (x := .ref 182) rfl h) hs
  · exact tail_any hl.typeIs slot_list_getitem.lookup (wpAny_getItem_list hl (by omega) (by omega) (x := .ref 189) rfl h) hs
  · exact tail_any hl.typeIs slot_list_getitem.lookup (wpAny_getItem_list hl (by omega) (by omega) (x := .ref 196) rfl h) hs
  · exact tail_any hl.typeIs slot_list_getitem.lookup (wpAny_getItem_list hl (by omega) (by omega) (x := .ref 203) rfl h) hs
  · exact tail_any hl.typeIs slot_list_getitem.lookup (wpAny_getItem_list hl (by omega) (by omega) (x := .ref 210) rfl h) hs
theorem escA_keep (P : Params) (k : Int) : keepIn (KK P) (.ref (escA k)) = true := by
  unfold escA
  split
  · kernel_rfl
  split
  · kernel_rfl
  split
  · kernel_rfl
  split
  · kernel_rfl
  · kernel_rfl
end Mine
end
noncomputable section
-- WC5
open PySem PySem.W PyProof.Rows
set_option maxRecDepth 100000
set_option maxHeartbeats 0
namespace Mine
open PyProof.Rows.LCg PyProof.Rows.LCt
open PySem.Calls PyProof.V PySem.Spec Builtin
local macro_rules | `(tactic| walk_at "call ref") => `(tactic| (k_here; (with_reducible show wpAny _ _ (call (Value.ref 168) [Value.str _ _]) _ _ _); k_dflt (first | (refine' Claim.use map_b3_claim ?kB ?kF ?kX ?kN ?kT ?kk ?kp ?kd ?ku ?_; (case kB => k_asm); (case kF => k_asm); (case kX => k_asm); (case kN => k_asm); (case kT => k_asm); (case kk => rfl); (case kp => exact rfl); (case kd => decide +kernel); (case ku => decide +kernel); (intro v0 n0 hp0; obtain ⟨t1', hv0, hn0⟩ := hp0; subst hv0; subst hn0; intro h' tk' F' N')) | fail "no")))
section
variable {prog : Program} {w : World} {A : Around} {E : Value → Shared → Prop} {h₀ : Heap} {L : Addr} {m : Str → Option Value} {env : Env}
theorem rest_indT {ct elt : Expr} {x : Str} {scope : Scope} {cl : List (Str × Addr)} {s : Shared} {S : List (Addr × Obj) → Prop} {P : Nat → Value → Prop} {Fin : List Value → List (Addr × Obj) → Prop} {n : Nat} {news : List (Addr × Obj)} (R : Nat → List Value → Prop) (hS : S news) (h0 : R 0 [])
    (hstep : ∀ i v I oI C oC D m₂ h tk ys (E' K1 : Value → Shared → Prop) (K2 : Shared → Prop), i < n → R i ys → P i v → NsObj oC m₂ → m₂ x = some v → Fr h₀ L h m → News h₀ L h ((I, oI) :: (C, oC) :: (D, lst ys) :: news) →
      (∀ yv h' tk', R (i + 1) (ys ++ [yv]) → Fr h₀ L h' m → News h₀ L h' ((I, oI) :: (C, oC) :: (D, lst ys) :: news) → K1 yv { s with heap := h', toks := tk' }) →
      (∀ h' tk', R (i + 1) ys → Fr h₀ L h' m → News h₀ L h' ((I, oI) :: (C, oC) :: (D, lst ys) :: news) → K2 { s with heap := h', toks := tk' }) →
      wpAny (model prog w) A (isTrue ct (compEnvC scope cl C env) (eval ct (compEnvC scope cl C env))) (fun ok s' => if ok = true then wpAny (model prog w) A (eval elt (compEnvC scope cl C env)) K1 E' s' else K2 s') E' { s with heap := h, toks := tk })
    (hfin : ∀ ys : List Value, R n ys → Fin ys news) : CompRestT prog w A h₀ L m env ct elt x scope cl s S P Fin n 0 [] news := by
  have go : ∀ k i (ys : List Value), i + k = n → R i ys → CompRestT prog w A h₀ L m env ct elt x scope cl s S P Fin k i ys news := by
    intro k
    induction k with
    | zero => intro i ys hi ho; exact CompRestT.zero (hfin ys (by have : i = n := by omega
                                                                  rw [← this]; exact ho))
    | succ k ih =>
      intro i ys hi ho
      refine CompRestT.succ fun v I oI C oC D m₂ h tk E' hP hC hm F N off hne => ?_
      refine hstep i v I oI C oC D m₂ h tk ys E' _ _ (by omega) ho hP hC hm F N (fun yv h' tk' hok F' N' => ?_) (fun h' tk' hok F' N' => ?_)
      · exact ⟨h', tk', news, rfl, F', N', off, hS, ih (i + 1) (ys ++ [yv]) (by omega) hok⟩
      · exact ⟨h', tk', news, rfl, F', N', off, hS, ih (i + 1) ys (by omega) hok⟩
  exact go n 0 [] (by omega) h0
end
noncomputable def foldB (l : List Nat) : List Str := (l.filter fun c => !isB1 ⟨#[c]⟩).map fun c => mapB3 ⟨#[c]⟩
theorem foldB_app (l : List Nat) (c : Nat) : foldB (l ++ [c]) = if isB1 ⟨#[c]⟩ = true then foldB l else foldB l ++ [mapB3 ⟨#[c]⟩] := by
  unfold foldB
  rw [List.filter_append, List.map_append]
  cases h : isB1 ⟨#[c]⟩ <;> simp [h]
theorem strsAre_app : ∀ {ys : List Value} {l : List Str} {x : Str} {t : Tok}, StrsAre ys l → StrsAre (ys ++ [.str x t]) (l ++ [x])
  | _, _, x, t, .nil => .cons x t .nil
  | _, _, x, t, .cons y u h => .cons y u (strsAre_app h)
section
variable {w : World} {E : Value → Shared → Prop} {s : Shared} {base h₀ : Heap} {L f : Addr} {cd : Value} {m mg mb : Str → Option Value} {p : Program} {loose : List Str} {mean : ExcName → Option Value} {news : List (Addr × Obj)}
  {p1 p2 p3 p4 p5 p6 p7 : Pos} {Q : Value → Shared → Prop} {y : Str} {t : Tok}
noncomputable abbrev scFold : Scope := { kind := .function, names := [(".0", .local), ("c", .local), ("in_table_b1", .globalImplicit), ("map_table_b3", .globalImplicit)], isGenerator := false, isCoroutine := false }
theorem fold_step {C I D : Addr} {oI oC oD : Obj} {m₂ : Str → Option Value} {c : Nat} {u : Tok} {scope : Scope} {K1 : Value → Shared → Prop} {K2 : Shared → Prop} (hsc : scope = { kind := .function, names := [(".0", .local), ("c", .local), ("in_table_b1", .globalImplicit), ("map_table_b3", .globalImplicit)], isGenerator := false, isCoroutine := false })
    (K : Below callerA base [] h₀) (T : Top p loose mean mg mb h₀) (X : (KK w.params).In h₀) (F : Fr h₀ L s.heap m) (N : News h₀ L s.heap ((I, oI) :: (C, oC) :: (D, oD) :: news)) (hC : NsObj oC m₂) (hx : m₂ "c" = some (.str ⟨#[c]⟩ u))
    (h1 : ∀ t h' tk', isB1 ⟨#[c]⟩ = false → Fr h₀ L h' m → News h₀ L h' ((I, oI) :: (C, oC) :: (D, oD) :: news) → K1 (.str (mapB3 ⟨#[c]⟩) t) { s with heap := h', toks := tk' })
    (h2 : ∀ h' tk', isB1 ⟨#[c]⟩ = true → Fr h₀ L h' m → News h₀ L h' ((I, oI) :: (C, oC) :: (D, oD) :: news) → K2 { s with heap := h', toks := tk' }) :
    wpAny (model PySem.Challenge.rw_xo0036_01.row.prog w) (callerA.deeper (envOfC (Str.ofString "law") s22 L f cd)) (isTrue (.UnaryOp .Not (.Call (.Name "in_table_b1" p1) [.Name "c" p2] [] p3) p4) (compEnvC scope [] C (envOfC (Str.ofString "law") s22 L f cd)) (eval (.UnaryOp .Not (.Call (.Name "in_table_b1" p1) [.Name "c" p2] [] p3) p4) (compEnvC scope [] C (envOfC (Str.ofString "law") s22 L f cd))))
      (fun ok s' => if ok = true then wpAny (model PySem.Challenge.rw_xo0036_01.row.prog w) (callerA.deeper (envOfC (Str.ofString "law") s22 L f cd)) (eval (.Call (.Name "map_table_b3" p5) [.Name "c" p6] [] p7) (compEnvC scope [] C (envOfC (Str.ofString "law") s22 L f cd))) K1 E s' else K2 s') E s := by
  subst hsc
  revert X
  k_fill
  intro X
  iterate 10 (first | walk1 | (dsimp only; walk1))
  (try dsimp only)
  k_dflt (first | (refine' Claim.use in_b1_claim ?akB ?akF ?akX ?akN ?akT ?akk ?akp ?akd ?aku ?_; (case akB => k_asm); (case akF => k_asm); (case akX => k_asm); (case akN => k_asm); (case akT => k_asm); (case akk => rfl); (case akp => exact rfl); (case akd => decide +kernel); (case aku => decide +kernel); (intro v0 n0 hp0; obtain ⟨hv0, hn0⟩ := hp0; subst hv0; subst hn0; intro h' tk' F' N')) | fail "no")
  k_steps
  · exact h2 _ _ (by assumption) (by assumption) (by assumption)
  · exact h1 _ _ _ (by assumption) (by assumption) (by assumption)
theorem fold_src (K : Below callerA base [] h₀) (T : Top p loose mean mg mb h₀) (X : (KK w.params).In h₀) (F : Fr h₀ L s.heap m) (N : News h₀ L s.heap news) (hy : y.cps.size ≤ 1000)
    (hQ : ∀ D h tk ys, Fr h₀ L h m → News h₀ L h ((D, lst ys) :: news) → LCg.Off1 D news → StrsAre ys (foldB y.cps.toList) → Q (.ref D) { s with heap := h, toks := tk }) :
    TxtSrcT PySem.Challenge.rw_xo0036_01.row.prog w (callerA.deeper (envOfC (Str.ofString "law") s22 L f cd)) h₀ L m (envOfC (Str.ofString "law") s22 L f cd) (.UnaryOp .Not (.Call (.Name "in_table_b1" p1) [.Name "c" p2] [] p3) p4) (.Call (.Name "map_table_b3" p5) [.Name "c" p6] [] p7) "c" scFold [] Q (.str y t) s := by
  refine ⟨y, t, news, rfl, rfl, F, N, by rw [sizeLine_eq]; omega, fun g => ?_⟩
  refine rest_indT (fun i ys => StrsAre ys (foldB (y.cps.toList.take i))) trivial .nil (fun i v I oI C oC D m₂ h tk ys E' K1 K2 hi hR hP hC hm F' N' k1 k2 => ?_) fun ys hR D h tk F' N' off => hQ D h tk ys F' N' off (by rw [List.take_of_length_le (by simp)] at hR; exact hR)
  obtain ⟨c, u, hcu, rfl⟩ := hP
  have e : y.cps.toList.take (i + 1) = y.cps.toList.take i ++ [c] := by
    rw [List.take_succ]
    have : y.cps.toList[i]? = some c := by simpa using hcu
    rw [this]; rfl
  refine fold_step rfl K T X F' N' hC hm (fun t' h' tk' hb F'' N'' => k1 _ h' tk' ?_ F'' N'') (fun h' tk' hb F'' N'' => k2 h' tk' ?_ F'' N'')
  · rw [e, foldB_app, hb]; exact strsAre_app hR
  · rw [e, foldB_app, hb]; exact hR
end
end Mine
end
noncomputable section
-- WZ1
open PySem PySem.W PyProof.Rows
set_option maxRecDepth 100000
set_option maxHeartbeats 0
namespace Mine
open PySem.Calls PyProof.V PySem.Spec
section
variable {prog : Program} {w : World} {A : Around} {E : Value → Shared → Prop} {s : Shared}
theorem nextOf_ascii_item {it : Addr} {x : Str} {t : Tok} {i c : Nat} {Q : Value → Shared → Prop} (hit : s.heap.IsStrIter it "str_ascii_iterator" x t i) (hx : x.cps[i]? = some c)
    (hQ : ∀ h', h'.IsStrIter it "str_ascii_iterator" x t (i + 1) → Heap.SameBut it s.heap h' → Q (.str ⟨#[c]⟩ s.toks) { s with heap := h', toks := s.toks + 1 }) :
    wpAny (model prog w) A (Builtin.SmallTypes.nextOf (.ref it)) Q E s := by
  obtain ⟨o, ho, hc, hd⟩ := id hit
  unfold Builtin.SmallTypes.nextOf
  refine wpAny_bind (wpAny_callSpecial?_slot (name := Str.ofString "__next__") hit.typeIs F.slot_str_ascii_iterator_next
    (wpAny_call_entry F.slot_str_ascii_iterator_next hit.typeIs F.entry_str_ascii_iterator_next ?_ (F.args_str_ascii_iterator_next_1 _)))
  show wpAny _ _ (field (.ref it) 0 >>= _) _ _ s
  refine wpAny_bind (wpAny_field ho hd (x := .str x t) rfl ?_)
  show wpAny _ _ (field (.ref it) 1 >>= _) _ _ s
  refine wpAny_bind (wpAny_field ho hd (x := .int i 0) rfl ?_)
  simp only [Int.toNat_natCast, hx]
  refine wpAny_bind (wpAny_setField ho hd (by simp) (wpAny_bind (wpAny_mkStr (wpAny_pure ⟨_, rfl, wpAny_pure (hQ _ ?_ (Heap.SameBut.update ..))⟩) (by show 1 ≤ sizeLine; decide))))
  exact ⟨_, Heap.get?_update_self _ ho (Obj.isFreed_of_fields (Obj.data_mapFields hd _)), (Obj.cls_mapFields ..).trans hc, by
    rw [Obj.data_mapFields hd]; simp [rawInt]⟩
theorem nextOf_ascii_end {it : Addr} {x : Str} {t : Tok} {i : Nat} {Q : Value → Shared → Prop} (hh : A.handled = none)
    (hit : s.heap.IsStrIter it "str_ascii_iterator" x t i) (hx : x.cps[i]? = none)
    (hE : ∀ h' e, Heap.ExtBut it s.heap h' → (∃ o, h'.get? e = some o ∧ o.cls = .type "StopIteration") → E (.ref e) { s with heap := h' }) : wpAny (model prog w) A (Builtin.SmallTypes.nextOf (.ref it)) Q E s := by
  obtain ⟨o, ho, hc, hd⟩ := id hit
  unfold Builtin.SmallTypes.nextOf
  refine wpAny_bind (wpAny_callSpecial?_slot (name := Str.ofString "__next__") hit.typeIs F.slot_str_ascii_iterator_next
    (wpAny_call_entry F.slot_str_ascii_iterator_next hit.typeIs F.entry_str_ascii_iterator_next ?_ (F.args_str_ascii_iterator_next_1 _)))
  show wpAny _ _ (field (.ref it) 0 >>= _) _ _ s
  refine wpAny_bind (wpAny_field ho hd (x := .str x t) rfl ?_)
  show wpAny _ _ (field (.ref it) 1 >>= _) _ _ s
  refine wpAny_bind (wpAny_field ho hd (x := .int i 0) rfl ?_)
  simp only [Int.toNat_natCast, hx]
  refine wpAny_bind (wpAny_rule (wpAny_bind (wpAny_setField ho hd (by simp) (wpAny_bind (wpAny_letGo ?_)))))
  show wpAny _ _ (newExc (.type "StopIteration") [] >>= _) _ _ _
  refine wpAny_bind ?_
  simp only [newExc, newTuple]
  refine wpAny_bind (wpAny_newObj_type ?_ (by size_fits))
  refine wpAny_bind (m := firstArgMember _ _) (wpAny_of_eq (a := Value.none) (by first | rfl | (simp only [firstArgMember]; rfl)) ?_)
  refine wpAny_newObj_type ?_ (by size_fits)
  simp only [raiseNew]
  refine wpAny_bind (wpAny_handled ?_)
  rw [show A.in1.handled = none from hh]
  refine wpAny_bind (wpAny_pure (wpAny_throw ?_))
  exact hE _ _ (((Heap.SameBut.update ..).extBut.push _).push _) ⟨_, Heap.get?_push_size _ rfl, rfl⟩
noncomputable abbrev AIt (h : Heap) (i1 : Addr) (x : Str) (t : Tok) (k : Nat) : Prop := h.IsStrIter i1 "str_ascii_iterator" x t k
theorem AIt.ext {h h' : Heap} {i1 b : Addr} {x : Str} {t : Tok} {k : Nat} (X : AIt h i1 x t k) (e : Heap.ExtBut b h h') (hn : i1 ≠ b) : AIt h' i1 x t k := let ⟨o, ho, r⟩ := X; ⟨o, e _ _ hn ho, r⟩
theorem AIt.at' {h h' : Heap} {i1 : Addr} {x : Str} {t : Tok} {k : Nat} (X : AIt h i1 x t k) (e : ∀ o, h.get? i1 = some o → h'.get? i1 = some o) : AIt h' i1 x t k := let ⟨o, ho, r⟩ := X; ⟨o, e _ ho, r⟩
structure ZAp (z TI TO i1 i2 l2 : Addr) : Prop where
  TIz : TI ≠ z
  TOz : TO ≠ z
  i1z : i1 ≠ z
  i2z : i2 ≠ z
  TITO : TI ≠ TO
  TIi1 : TI ≠ i1
  TIi2 : TI ≠ i2
  TOi1 : TO ≠ i1
  TOi2 : TO ≠ i2
  i12 : i1 ≠ i2
  l2z : l2 ≠ z
  l2TO : l2 ≠ TO
  l2i1 : l2 ≠ i1
  l2i2 : l2 ≠ i2
theorem zipS_next_item {z TI TO i1 i2 l2 : Addr} {k1 k2 c : Nat} {xs : Str} {tx : Tok} {ys : Array Value} {y a b : Value} {Q : Value → Shared → Prop} (D : ZAp z TI TO i1 i2 l2)
    (hz : IsZip s.heap z TI TO .none) (hTI : IsPair s.heap TI (.ref i1) (.ref i2)) (hTO : IsPair s.heap TO a b)
    (h1 : AIt s.heap i1 xs tx k1) (h2 : s.heap.IsListIter i2 l2 k2) (hl2 : s.heap.IsList l2 ys) (hx : xs.cps[k1]? = some c) (hy : ys[k2]? = some y)
    (hQ : ∀ h', IsZip h' z TI TO (rawInt s.heap.objs.size) → IsPair h' TO (.str ⟨#[c]⟩ s.toks) y → AIt h' i1 xs tx (k1 + 1) → h'.IsListIter i2 l2 (k2 + 1) → IsPair h' s.heap.objs.size (.str ⟨#[c]⟩ s.toks) y → h'.objs.size = s.heap.objs.size + 1 →
      (∀ c o, c ≠ z → c ≠ TO → c ≠ i1 → c ≠ i2 → s.heap.get? c = some o → h'.get? c = some o) → Q (.ref s.heap.objs.size) { s with heap := h', toks := s.toks + 1 }) :
    wpAny (model prog w) A (Builtin.«zip.__next__» ⟨[.ref z], []⟩) (fun fin s' => ∃ v, fin = .done (.ret v) ∧ Q v s') E s := by
  show wpAny _ _ (field (.ref z) 2 >>= _) _ _ _
  refine wpAny_bind (wpAny_field hz rfl (x := .bool false) rfl ?_)
  show wpAny _ _ (field (.ref z) 3 >>= _) _ _ _
  refine wpAny_bind (wpAny_field hz rfl (x := .ref TI) rfl ?_)
  refine wpAny_bind (wpAny_seqItems hTI rfl ?_)
  show wpAny _ _ (Builtin.SmallTypes.ownedTupleIsFree (.ref z) >>= _) _ _ _
  refine wpAny_bind ?_
  unfold Builtin.SmallTypes.ownedTupleIsFree
  refine wpAny_bind (wpAny_field hz rfl (x := .none) rfl (wpAny_pure ?_))
  simp only [if_true]
  refine wpAny_bind (wpAny_rule ?_)
  refine wpAny_bind (wpAny_field hz rfl (x := .ref TO) rfl ?_)
  refine wpAny_bind (wpAny_setField_rec hz (by simp) fun h₁ hz₁ hs₁ => ?_)
  replace hz₁ : IsZip h₁ z TI TO .ellipsis := hz₁
  refine wpAny_bind ?_
  simp only [List.zipIdx_cons, List.zipIdx_nil, List.forIn_cons, List.forIn_nil]
  refine wpAny_bind (wpAny_bind (wpAny_onRaise ?_))
  show wpAny _ _ (Builtin.SmallTypes.nextOf (.ref i1) >>= _) _ _ _
  refine wpAny_bind (nextOf_ascii_item (h1.ext hs₁.extBut D.i1z) hx fun h₂ h1₂ hs₂ => wpAny_pure ?_)
  have hTO₂ : IsPair h₂ TO a b := hs₂.extBut _ _ D.TOi1 (hs₁.extBut _ _ D.TOz hTO)
  refine wpAny_bind (wpAny_seqItems hTO₂ rfl ?_)
  refine wpAny_bind (wpAny_updateSeq_pair hTO₂ fun h₃ hTO₃ hs₃ => ?_)
  replace hTO₃ : IsPair h₃ TO (.str ⟨#[c]⟩ s.toks) b := hTO₃
  refine wpAny_bind (wpAny_letGo (wpAny_pure ?_))
  refine wpAny_bind (wpAny_bind (wpAny_onRaise ?_))
  show wpAny _ _ (Builtin.SmallTypes.nextOf (.ref i2) >>= _) _ _ _
  refine wpAny_bind (wpAny_nextOf_list_item (((h2.extBut hs₁.extBut D.i2z).extBut hs₂.extBut D.i12.symm).extBut hs₃.extBut D.TOi2.symm)
    (((hl2.extBut hs₁.extBut D.l2z).extBut hs₂.extBut D.l2i1).extBut hs₃.extBut D.l2TO) hy fun h₄ h2₄ hs₄ => wpAny_pure ?_)
  have hTO₄ : IsPair h₄ TO (.str ⟨#[c]⟩ s.toks) b := hs₄.extBut _ _ D.TOi2 hTO₃
  refine wpAny_bind (wpAny_seqItems hTO₄ rfl ?_)
  refine wpAny_bind (wpAny_updateSeq_pair hTO₄ fun h₅ hTO₅ hs₅ => ?_)
  replace hTO₅ : IsPair h₅ TO (.str ⟨#[c]⟩ s.toks) y := hTO₅
  refine wpAny_bind (wpAny_letGo (wpAny_pure (wpAny_pure ?_)))
  refine wpAny_bind (wpAny_seqItems hTO₅ rfl ?_)
  refine wpAny_bind (wpAny_newTuple ?_)
  have hsz : h₅.objs.size = s.heap.objs.size := by rw [hs₅.1, hs₄.1, hs₃.1, hs₂.1, hs₁.1]
  have hz₅ : IsZip h₅ z TI TO .ellipsis := hs₅.extBut _ _ D.TOz.symm (hs₄.extBut _ _ D.i2z.symm (hs₃.extBut _ _ D.TOz.symm (hs₂.extBut _ _ D.i1z.symm hz₁)))
  have hk₅ : ∀ c o, c ≠ z → c ≠ TO → c ≠ i1 → c ≠ i2 → s.heap.get? c = some o → h₅.get? c = some o := fun c o c1 c2 c3 c4 e =>
    hs₅.extBut _ _ c2 (hs₄.extBut _ _ c4 (hs₃.extBut _ _ c2 (hs₂.extBut _ _ c3 (hs₁.extBut _ _ c1 e))))
  have h1₅ : AIt h₅ i1 xs tx (k1 + 1) := ((AIt.ext h1₂ hs₃.extBut D.TOi1.symm).ext hs₄.extBut D.i12).ext hs₅.extBut D.TOi1.symm
  have h2₅ : h₅.IsListIter i2 l2 (k2 + 1) := h2₄.extBut hs₅.extBut D.TOi2.symm
  have hzlt : z < h₅.objs.size := Heap.lt_size hz₅
  have hTOlt : TO < h₅.objs.size := Heap.lt_size hTO₅
  show wpAny _ _ (Builtin.SmallTypes.ownedTupleHandOut (.ref z) (.ref h₅.objs.size) >>= _) _ _ _
  refine wpAny_bind ?_
  unfold Builtin.SmallTypes.ownedTupleHandOut
  have hz₆ : IsZip (h₅.push { cls := .type "tuple", data := .seq #[.str ⟨#[c]⟩ s.toks, y] }) z TI TO .ellipsis := Heap.get?_push_of_some _ hz₅
  refine wpAny_bind (wpAny_setField_rec hz₆ (by simp) fun h₇ hz₇ hs₇ => ?_)
  replace hz₇ : IsZip h₇ z TI TO (rawInt h₅.objs.size) := hz₇
  refine wpAny_setField_rec hz₇ (by simp) fun h₈ hz₈ hs₈ => ?_
  replace hz₈ : IsZip h₈ z TI TO (rawInt h₅.objs.size) := hz₈
  have up : ∀ c o, c ≠ z → h₅.get? c = some o → h₈.get? c = some o := fun c o c1 e => hs₈.extBut _ _ c1 (hs₇.extBut _ _ c1 (Heap.get?_push_of_some _ e))
  have hT₈ : IsPair h₈ h₅.objs.size (.str ⟨#[c]⟩ s.toks) y := hs₈.extBut _ _ (Nat.ne_of_gt hzlt) (hs₇.extBut _ _ (Nat.ne_of_gt hzlt) (Heap.get?_push_size _ rfl))
  have hz8 : h₈.objs.size = h₅.objs.size + 1 := by rw [hs₈.1, hs₇.1, Heap.size_push]
  rw [hsz] at hz₈ hT₈ hz8
  refine wpAny_pure ⟨_, rfl, ?_⟩
  show Q (.ref h₅.objs.size) _
  rw [hsz]
  exact hQ h₈ hz₈ (up _ _ D.TOz hTO₅) (AIt.at' h1₅ fun o e => up _ o D.i1z e) (h2₅.at fun o e => up _ o D.i2z e) hT₈ hz8 fun c o c1 c2 c3 c4 e => up c o c1 (hk₅ c o c1 c2 c3 c4 e)
theorem zipS_next_end {z TI TO i1 i2 l2 : Addr} {k1 k2 : Nat} {xs : Str} {tx : Tok} {ys : Array Value} {a b : Value} {Q : Fin → Shared → Prop} (hh : A.handled = none) (D : ZAp z TI TO i1 i2 l2)
    (hz : IsZip s.heap z TI TO .none) (hTI : IsPair s.heap TI (.ref i1) (.ref i2)) (hTO : IsPair s.heap TO a b)
    (h1 : AIt s.heap i1 xs tx k1) (h2 : s.heap.IsListIter i2 l2 k2) (hl2 : s.heap.IsList l2 ys) (hend : xs.cps[k1]? = none)
    (hE : ∀ h' e, (∀ c o, c ≠ z → c ≠ TO → c ≠ i1 → c ≠ i2 → s.heap.get? c = some o → h'.get? c = some o) → (∃ o, h'.get? e = some o ∧ o.cls = .type "StopIteration") → E (.ref e) { s with heap := h' }) :
    wpAny (model prog w) A (Builtin.«zip.__next__» ⟨[.ref z], []⟩) Q E s := by
  show wpAny _ _ (field (.ref z) 2 >>= _) _ _ _
  refine wpAny_bind (wpAny_field hz rfl (x := .bool false) rfl ?_)
  show wpAny _ _ (field (.ref z) 3 >>= _) _ _ _
  refine wpAny_bind (wpAny_field hz rfl (x := .ref TI) rfl ?_)
  refine wpAny_bind (wpAny_seqItems hTI rfl ?_)
  show wpAny _ _ (Builtin.SmallTypes.ownedTupleIsFree (.ref z) >>= _) _ _ _
  refine wpAny_bind ?_
  unfold Builtin.SmallTypes.ownedTupleIsFree
  refine wpAny_bind (wpAny_field hz rfl (x := .none) rfl (wpAny_pure ?_))
  simp only [if_true]
  refine wpAny_bind (wpAny_rule ?_)
  refine wpAny_bind (wpAny_field hz rfl (x := .ref TO) rfl ?_)
  refine wpAny_bind (wpAny_setField_rec hz (by simp) fun h₁ hz₁ hs₁ => ?_)
  replace hz₁ : IsZip h₁ z TI TO .ellipsis := hz₁
  refine wpAny_bind ?_
  simp only [List.zipIdx_cons, List.zipIdx_nil, List.forIn_cons, List.forIn_nil]
  refine wpAny_bind (wpAny_bind (wpAny_onRaise ?_))
  show wpAny _ _ (Builtin.SmallTypes.nextOf (.ref i1) >>= _) _ _ _
  refine wpAny_bind (nextOf_ascii_end hh (h1.ext hs₁.extBut D.i1z) hend fun h₂ e hs₂ he => ?_)
  obtain ⟨oe, hoe, hce⟩ := he
  have hz₂ : IsZip h₂ z TI TO .ellipsis := hs₂ _ _ D.i1z.symm hz₁
  have hez : e ≠ z := fun x => by subst x; rw [hz₂] at hoe; cases hoe; simp at hce
  refine wpAny_setField_rec hz₂ (by simp) fun h₃ _ hs₃ => hE h₃ e (fun c o c1 _ c3 _ x => hs₃.extBut _ _ c1 (hs₂ _ _ c3 (hs₁.extBut _ _ c1 x))) ⟨oe, hs₃.extBut _ _ hez hoe, hce⟩
theorem pyNext_zipS_item {z TI TO i1 i2 l2 : Addr} {k1 k2 c : Nat} {xs : Str} {tx : Tok} {ys : Array Value} {y a b : Value} {Q : Option Value → Shared → Prop} (D : ZAp z TI TO i1 i2 l2)
    (hz : IsZip s.heap z TI TO .none) (hTI : IsPair s.heap TI (.ref i1) (.ref i2)) (hTO : IsPair s.heap TO a b)
    (h1 : AIt s.heap i1 xs tx k1) (h2 : s.heap.IsListIter i2 l2 k2) (hl2 : s.heap.IsList l2 ys) (hx : xs.cps[k1]? = some c) (hy : ys[k2]? = some y)
    (hQ : ∀ h', IsZip h' z TI TO (rawInt s.heap.objs.size) → IsPair h' TO (.str ⟨#[c]⟩ s.toks) y → AIt h' i1 xs tx (k1 + 1) → h'.IsListIter i2 l2 (k2 + 1) → IsPair h' s.heap.objs.size (.str ⟨#[c]⟩ s.toks) y → h'.objs.size = s.heap.objs.size + 1 →
      (∀ c o, c ≠ z → c ≠ TO → c ≠ i1 → c ≠ i2 → s.heap.get? c = some o → h'.get? c = some o) → Q (some (.ref s.heap.objs.size)) { s with heap := h', toks := s.toks + 1 }) :
    wpAny (model prog w) A (pyNext (.ref z)) Q E s := by
  have hT : s.TypeIs (.ref z) "zip" := ⟨_, hz, rfl⟩
  unfold pyNext
  exact wpAny_bind (wpAny_attempt (wpAny_callSpecial?_slot (name := Str.ofString "__next__") hT F.slot_zip_next
    (wpAny_call_entry F.slot_zip_next hT F.entry_zip_next
      (zipS_next_item D hz hTI hTO h1 h2 hl2 hx hy fun h' a1 a2 a3 a4 a5 a6 a7 => wpAny_pure (hQ h' a1 a2 a3 a4 a5 a6 a7)) (F.args_zip_next_1 _))))
theorem pyNext_zipS_end {z TI TO i1 i2 l2 : Addr} {k1 k2 : Nat} {xs : Str} {tx : Tok} {ys : Array Value} {a b : Value} {Q : Option Value → Shared → Prop} (hh : A.handled = none) (D : ZAp z TI TO i1 i2 l2)
    (hz : IsZip s.heap z TI TO .none) (hTI : IsPair s.heap TI (.ref i1) (.ref i2)) (hTO : IsPair s.heap TO a b)
    (h1 : AIt s.heap i1 xs tx k1) (h2 : s.heap.IsListIter i2 l2 k2) (hl2 : s.heap.IsList l2 ys) (hend : xs.cps[k1]? = none)
    (hQ : ∀ h', (∀ c o, c ≠ z → c ≠ TO → c ≠ i1 → c ≠ i2 → s.heap.get? c = some o → h'.get? c = some o) → Q none { s with heap := h' }) : wpAny (model prog w) A (pyNext (.ref z)) Q E s := by
  have hT : s.TypeIs (.ref z) "zip" := ⟨_, hz, rfl⟩
  unfold pyNext
  refine wpAny_bind (wpAny_attempt (wpAny_callSpecial?_slot (name := Str.ofString "__next__") hT F.slot_zip_next
    (wpAny_call_entry F.slot_zip_next hT F.entry_zip_next (zipS_next_end hh D hz hTI hTO h1 h2 hl2 hend fun h' e hk he => ?_) (F.args_zip_next_1 _))))
  obtain ⟨o, ho, hc⟩ := he
  refine wpAny_bind (wpAny_isInstance (T := "StopIteration") (b := true) ⟨o, ho, hc⟩ isSubtype_stop ?_)
  exact wpAny_pure (hQ _ hk)
theorem zipS_walks (hh : A.handled = none) (z TI TO i1 i2 l2 : Addr) (D : ZAp z TI TO i1 i2 l2) (xs : Str) (tx : Tok) (ys : Array Value) (hle : xs.cps.size ≤ ys.size) :
    WalksU prog w A z [z, TI, TO, i1, i2, l2] [z, TO, i1, i2] xs.cps.size
      (fun i vals => ∃ c t y, xs.cps[i]? = some c ∧ ys[i]? = some y ∧ vals = #[.str ⟨#[c]⟩ t, y])
      (fun i h => IsZip h z TI TO .none ∧ IsPair h TI (.ref i1) (.ref i2) ∧ (∃ a b, IsPair h TO a b) ∧ AIt h i1 xs tx i ∧ h.IsListIter i2 l2 i ∧ h.IsList l2 ys)
      (fun i T h => IsZip h z TI TO (rawInt T) ∧ IsPair h TI (.ref i1) (.ref i2) ∧ (∃ a b, IsPair h TO a b) ∧ AIt h i1 xs tx (i + 1) ∧ h.IsListIter i2 l2 (i + 1) ∧ h.IsList l2 ys ∧
        T ≠ z ∧ T ≠ TO ∧ T ≠ i1 ∧ T ≠ i2) where
  sub := fun c hc => by simp at hc ⊢; rcases hc with rfl | rfl | rfl | rfl <;> simp
  frame := fun i h h' hst hk => by
    obtain ⟨hz, hTI, ⟨a, b, hTO⟩, h1, h2, hl2⟩ := hst
    exact ⟨hk z (by simp) _ hz, hk TI (by simp) _ hTI, ⟨a, b, hk TO (by simp) _ hTO⟩, AIt.at' h1 fun o e => hk i1 (by simp) o e, h2.at fun o e => hk i2 (by simp) o e,
      hl2.at fun o e => hk l2 (by simp) o e⟩
  item := fun i s Q E hi hst hQ => by
    obtain ⟨hz, hTI, ⟨a, b, hTO⟩, h1, h2, hl2⟩ := hst
    have hiy : i < ys.size := Nat.lt_of_lt_of_le hi hle
    refine pyNext_zipS_item D hz hTI hTO h1 h2 hl2 (Array.getElem?_eq_getElem hi) (Array.getElem?_eq_getElem hiy) fun h' a1 a2 a3 a4 a5 a6 hk => ?_
    have lt : ∀ {c o}, s.heap.get? c = some o → s.heap.objs.size ≠ c := fun e => Nat.ne_of_gt (Heap.lt_size e)
    exact hQ s.heap.objs.size #[.str ⟨#[xs.cps[i]]⟩ s.toks, ys[i]] h' (s.toks + 1) ⟨_, _, _, Array.getElem?_eq_getElem hi, Array.getElem?_eq_getElem hiy, rfl⟩ ⟨_, a5, rfl, _, rfl⟩
      ⟨a1, hk _ _ D.TIz D.TITO D.TIi1 D.TIi2 hTI, ⟨_, _, a2⟩, a3, a4, hl2.at fun o e => hk _ o D.l2z D.l2TO D.l2i1 D.l2i2 e,
        lt hz, lt hTO, (by obtain ⟨_, e, _⟩ := h1; exact lt e), (by obtain ⟨_, e, _⟩ := h2; exact lt e)⟩
      fun c o hc e => hk c o (fun x => hc (by simp [x])) (fun x => hc (by simp [x])) (fun x => hc (by simp [x])) (fun x => hc (by simp [x])) e
  go := fun elts k pos i T s Q E hm hQ => by
    obtain ⟨hz, hTI, ⟨a, b, hTO⟩, h1, h2, hl2, _⟩ := hm
    refine wpAny_letOwnedTupleGo_zip hz fun h' hz' hs' => hQ h' ⟨hz', hs'.extBut _ _ D.TIz hTI, ⟨a, b, hs'.extBut _ _ D.TOz hTO⟩, AIt.ext h1 hs'.extBut D.i1z, h2.extBut hs'.extBut D.i2z,
      hl2.extBut hs'.extBut D.l2z⟩ fun c o hc e => hs'.extBut _ _ (fun x => hc (by simp [x])) e
  apart := fun i T h hm hT => by
    obtain ⟨_, _, _, _, _, _, t1, t2, t3, t4⟩ := hm
    simp at hT
    rcases hT with rfl | rfl | rfl | rfl
    · exact t1 rfl
    · exact t2 rfl
    · exact t3 rfl
    · exact t4 rfl
  done := fun s Q E hst hQ => by
    obtain ⟨hz, hTI, ⟨a, b, hTO⟩, h1, h2, hl2⟩ := hst
    exact pyNext_zipS_end hh D hz hTI hTO h1 h2 hl2 (Array.getElem?_eq_none (Nat.le_refl _)) fun h' hk => hQ h' s.toks fun c o hc e =>
      hk c o (fun x => hc (by simp [x])) (fun x => hc (by simp [x])) (fun x => hc (by simp [x])) (fun x => hc (by simp [x])) e
  self := fun i s Q E hst hQ => wpAny_pyIter_zip hst.1 hQ
end
end Mine
end
noncomputable section
-- WZ2
open PySem PySem.W PyProof.Rows
set_option maxRecDepth 100000
set_option maxHeartbeats 0
namespace Mine
open PySem.Calls PyProof.V PySem.Spec
theorem typeCallS (x : Str) (t : Tok) (b : Value) : checkTypeCall "zip" ⟨[.str x t, b], []⟩ = pure () := F.typeCall_zip_2 _ _
noncomputable abbrev zsH1 (h : Heap) (x : Str) (t : Tok) : Heap := h.push { cls := .type "str_ascii_iterator", data := .fields #[.str x t, .int 0 0] }
noncomputable abbrev zsH2 (h : Heap) (x : Str) (t : Tok) (l2 : Addr) : Heap := (zsH1 h x t).push { cls := .type "list_iterator", data := .fields #[.ref l2, .int 0 0] }
noncomputable abbrev zsH3 (h : Heap) (x : Str) (t : Tok) (l2 : Addr) : Heap := (zsH2 h x t l2).push { cls := .type "tuple", data := .seq #[.ref h.objs.size, .ref (zsH1 h x t).objs.size] }
noncomputable abbrev zsH4 (h : Heap) (x : Str) (t : Tok) (l2 : Addr) : Heap := (zsH3 h x t l2).push { cls := .type "tuple", data := .seq #[.none, .none] }
noncomputable abbrev zsH5 (h : Heap) (x : Str) (t : Tok) (l2 : Addr) : Heap := (zsH4 h x t l2).push { cls := .type "zip", data := .fields #[.none, .bool false, .bool false, .ref (zsH2 h x t l2).objs.size, .ref (zsH3 h x t l2).objs.size] }
theorem meets_zipS_new (x : Str) (t : Tok) (l2 : Addr) (ys : Array Value) (ha : x.cps.all (· < 128) = true) :
    Meets (Builtin.«zip.__new__» ⟨[.type "zip", .str x t, .ref l2], []⟩) (fun _ R s => s.heap.IsList l2 ys ∧
      R (.ok (.ret (.ref (zsH4 s.heap x t l2).objs.size))) { s with heap := zsH5 s.heap x t l2 }) :=
  .of_wp fun prog w A R s h => by
    obtain ⟨hp, g, d, tk, os⟩ := s; obtain ⟨hl2, h⟩ := h
    have hsub := sub_zip
    have hL2 : Heap.IsList (Shared.heap ⟨hp.push { cls := .type "str_ascii_iterator", data := .fields #[.str x t, .int 0 0] }, g, d, tk, os⟩) l2 ys := Heap.IsList.push hl2 _
    wp_walk using wpAny_pyIter_ascii ha, wpAny_pyIter_list hL2
    exact ⟨_, rfl, h⟩
section
variable {prog : Program} {w : World} {A : Around} {E : Value → Shared → Prop} {s : Shared} {h₀ : Heap} {env : Env} {body : List Stmt}
theorem call_zipS {x : Str} {t : Tok} {l2 : Addr} {ys : Array Value} {Q : Value → Shared → Prop} (ha : x.cps.all (· < 128) = true) (hl2 : s.heap.IsList l2 ys)
    (h : ∀ h', IsZip h' (s.heap.objs.size + 4) (s.heap.objs.size + 2) (s.heap.objs.size + 3) .none → IsPair h' (s.heap.objs.size + 2) (.ref s.heap.objs.size) (.ref (s.heap.objs.size + 1)) →
      IsPair h' (s.heap.objs.size + 3) .none .none → AIt h' s.heap.objs.size x t 0 → h'.IsListIter (s.heap.objs.size + 1) l2 0 → h'.objs.size = s.heap.objs.size + 5 →
      (∀ c o, s.heap.get? c = some o → h'.get? c = some o) → Q (.ref (s.heap.objs.size + 4)) { s with heap := h' }) :
    wpAny (model prog w) A (call (.type "zip") [.str x t, .ref l2]) Q E s := by
  refine callType_new F.called_zip (by decide) (F.typeCall_zip_2 _ _) (F.newCall_zip_2 _ _) (fun obj => F.args_object_init_3 obj _ _) F.entry_zip_new
    (meets_zipS_new x t l2 ys ha) ⟨hl2, ?_⟩
  have z1 : (zsH1 s.heap x t).objs.size = s.heap.objs.size + 1 := Heap.size_push ..
  have z2 : (zsH2 s.heap x t l2).objs.size = s.heap.objs.size + 2 := by rw [Heap.size_push, z1]
  have z3 : (zsH3 s.heap x t l2).objs.size = s.heap.objs.size + 3 := by rw [Heap.size_push, z2]
  have z4 : (zsH4 s.heap x t l2).objs.size = s.heap.objs.size + 4 := by rw [Heap.size_push, z3]
  have z5 : (zsH5 s.heap x t l2).objs.size = s.heap.objs.size + 5 := by rw [Heap.size_push, z4]
  have g5 : (zsH5 s.heap x t l2).get? (zsH4 s.heap x t l2).objs.size = some _ := Heap.get?_push_size _ rfl
  have g4 : (zsH5 s.heap x t l2).get? (zsH3 s.heap x t l2).objs.size = some _ := Heap.get?_push_of_some _ (Heap.get?_push_size _ rfl)
  have g3 : (zsH5 s.heap x t l2).get? (zsH2 s.heap x t l2).objs.size = some _ := Heap.get?_push_of_some _ (Heap.get?_push_of_some _ (Heap.get?_push_size _ rfl))
  have g2 : (zsH5 s.heap x t l2).get? (zsH1 s.heap x t).objs.size = some _ := Heap.get?_push_of_some _ (Heap.get?_push_of_some _ (Heap.get?_push_of_some _ (Heap.get?_push_size _ rfl)))
  have g1 : (zsH5 s.heap x t l2).get? s.heap.objs.size = some _ := Heap.get?_push_of_some _ (Heap.get?_push_of_some _ (Heap.get?_push_of_some _ (Heap.get?_push_of_some _ (Heap.get?_push_size _ rfl))))
  show _ ∧ _
  rw [z2, z3, z4] at g5
  rw [z1, z2] at g3
  rw [z3] at g4
  rw [z1] at g2
  rw [z4]
  exact ⟨⟨_, g5, rfl⟩, h _ g5 g3 g4 ⟨_, g1, rfl, rfl⟩ ⟨_, g2, rfl, rfl⟩ z5 fun c o x =>
    Heap.get?_push_of_some _ (Heap.get?_push_of_some _ (Heap.get?_push_of_some _ (Heap.get?_push_of_some _ (Heap.get?_push_of_some _ x))))⟩
noncomputable def zsItems : List Nat → List Value → List Itm
  | [], _ => []
  | _ :: _, [] => []
  | c :: r, y :: q => .pair (fun t => .str ⟨#[c]⟩ t) y :: zsItems r q
theorem zsItems_length : ∀ (xs : List Nat) (ys : List Value), xs.length ≤ ys.length → (zsItems xs ys).length = xs.length
  | [], _, _ => by simp [zsItems]
  | _ :: _, [], h => by simp at h
  | _ :: r, _ :: q, h => by
    simp only [zsItems, List.length_cons] at h ⊢
    rw [zsItems_length r q (by omega)]
theorem zsItems_get : ∀ (xs : List Nat) (ys : List Value) (i : Nat) {c : Nat} {y : Value}, xs[i]? = some c → ys[i]? = some y → (zsItems xs ys)[i]? = some (.pair (fun t => .str ⟨#[c]⟩ t) y)
  | [], _, _, _, _, h, _ => by simp at h
  | _ :: _, [], _, _, _, _, h => by simp at h
  | x' :: r, y' :: q, 0, x, y, h, h' => by
    have e : x' = x := by simpa using h
    have e' : y' = y := by simpa using h'
    subst e e'
    rfl
  | x' :: r, y' :: q, i + 1, x, y, h, h' => by
    have g := zsItems_get r q i (c := x) (y := y) (by simpa using h) (by simpa using h')
    simpa [zsItems] using g
theorem zs_apart (I l2 : Nat) (h2 : l2 < I) : ZAp (I + 4) (I + 2) (I + 3) I (I + 1) l2 := by
  constructor <;> (refine neN ?_; omega)
theorem ktu_zipS {elts : List Expr} {k : Nat} {pos : Pos} {l2 : Addr} {lo2 : Obj} {x : Str} {t : Tok} {ys : List Value} {n2 : Nat} {m₀ : Str → Option Value} {news : List (Addr × Obj)} {Q : Flow → Shared → Prop}
    (hh : A.handled = none) (F : Fr h₀ env.locals s.heap m₀) (N : News h₀ env.locals s.heap news) (ha : x.cps.all (· < 128) = true) (hle : x.cps.toList.length ≤ ys.length) (hm2 : (l2, lo2) ∈ news) (hc2 : lo2.cls = .type "list") (hd2 : lo2.data = .seq ys.toArray n2)
    (rest₀ : ∀ I : Addr, (∀ p ∈ news, p.1 < I) → ItemsRest prog w A E h₀ env (.Tuple elts k pos) body Q s [(I + 4, "zip"), (I + 2, "tuple"), (I + 3, "tuple"), (I, "str_ascii_iterator"), (I + 1, "list_iterator")] [(l2, lo2)] (zsItems x.cps.toList ys) m₀ news) :
    wpAny (model prog w) A (call (.type "zip") [.str x t, .ref l2]) (fun xv s₁ => wpAny (model prog w) A (pyIter xv) (fun it s₂ => TurnsAt prog w A h₀ env (.Tuple elts k pos) body Q E it s₂) E s₁) E s := by
  have hax2 := N _ hm2
  have hl2 : s.heap.IsList l2 ys.toArray := ⟨lo2, hax2.1, hc2, n2, hd2⟩
  have hlt2 : l2 < s.heap.objs.size := Heap.lt_size hax2.1
  have hLs : env.locals < s.heap.objs.size := F.ns.lt
  have D : ZAp (s.heap.objs.size + 4) (s.heap.objs.size + 2) (s.heap.objs.size + 3) s.heap.objs.size (s.heap.objs.size + 1) l2 := zs_apart _ _ hlt2
  refine call_zipS ha hl2 fun h' hz hTI hTO hi1 hi2 hsz hk => ?_
  refine wpAny_pyIter_zip hz ?_
  refine ktu_core (tk0 := s.toks) (keep := [(l2, lo2)]) (KTurns.ofWalksU (zipS_walks hh _ _ _ _ _ _ D x t ys.toArray (by simpa using hle))) (by rw [zsItems_length _ _ hle]; simp) ?_ ?_ ?_ ?_ ?_ ?_ ?_ ?_ (F.keeps hk) (N.grown hk) (And.intro hm2 trivial) (rest₀ _ fun p hp => Heap.lt_size (N p hp).1)
  · rintro i v h ⟨T, vals, rfl, ⟨c, u, y, hx, hy, rfl⟩, hT⟩
    exact ⟨_, zsItems_get x.cps.toList ys i (c := c) (y := y) (by simpa using hx) (by simpa using hy), T, u, rfl, hT⟩
  · rintro i h ⟨hz, hTI, ⟨a, b, hTO⟩, ⟨o1, ho1, hc1, _⟩, ⟨o2, ho2, hc2, _⟩, _⟩
    have e1 : ∃ o : Obj, h.get? (s.heap.objs.size + 4) = some o ∧ o.cls = .type "zip" := ⟨_, hz, rfl⟩
    have e2 : ∃ o : Obj, h.get? (s.heap.objs.size + 2) = some o ∧ o.cls = .type "tuple" := ⟨_, hTI, rfl⟩
    have e3 : ∃ o : Obj, h.get? (s.heap.objs.size + 3) = some o ∧ o.cls = .type "tuple" := ⟨_, hTO, rfl⟩
    obtain ⟨q1, g1, k1⟩ := e1
    obtain ⟨q2, g2, k2⟩ := e2
    obtain ⟨q3, g3, k3⟩ := e3
    refine ⟨[(s.heap.objs.size + 4, q1), (s.heap.objs.size + 2, q2), (s.heap.objs.size + 3, q3), (s.heap.objs.size, o1), (s.heap.objs.size + 1, o2)], ⟨⟨rfl, k1⟩, ⟨rfl, k2⟩, ⟨rfl, k3⟩, ⟨rfl, hc1⟩, ⟨rfl, hc2⟩, trivial⟩, fun p hp => ?_⟩
    rcases List.mem_cons.mp hp with rfl | hp
    · exact g1
    rcases List.mem_cons.mp hp with rfl | hp
    · exact g2
    rcases List.mem_cons.mp hp with rfl | hp
    · exact g3
    rcases List.mem_cons.mp hp with rfl | hp
    · exact ho1
    rw [List.mem_singleton.mp hp]
    exact ho2
  · intro b hb
    have hb' : b = s.heap.objs.size + 4 ∨ b = s.heap.objs.size + 2 ∨ b = s.heap.objs.size + 3 ∨ b = s.heap.objs.size ∨ b = s.heap.objs.size + 1 := by simpa using hb
    rcases hb' with rfl | rfl | rfl | rfl | rfl
    · exact ⟨by simp, ktu_new F (Nat.le_add_right _ _)⟩
    · exact ⟨by simp, ktu_new F (Nat.le_add_right _ _)⟩
    · exact ⟨by simp, ktu_new F (Nat.le_add_right _ _)⟩
    · exact ⟨by simp, ktu_new F (Nat.le_refl _)⟩
    · exact ⟨by simp, ktu_new F (Nat.le_add_right _ _)⟩
  · intro b hb
    have hb' : b = s.heap.objs.size + 4 ∨ b = s.heap.objs.size + 3 ∨ b = s.heap.objs.size ∨ b = s.heap.objs.size + 1 := by simpa using hb
    rcases hb' with rfl | rfl | rfl | rfl <;> simp
  · intro b hb
    have hb' : b = s.heap.objs.size + 4 ∨ b = s.heap.objs.size + 2 ∨ b = s.heap.objs.size + 3 ∨ b = s.heap.objs.size ∨ b = s.heap.objs.size + 1 ∨ b = l2 := by simpa using hb
    rcases hb' with rfl | rfl | rfl | rfl | rfl | rfl
    · exact .inl (by simp)
    · exact .inl (by simp)
    · exact .inl (by simp)
    · exact .inl (by simp)
    · exact .inl (by simp)
    · exact .inr ⟨lo2, by simp⟩
  · intro hI'
    have hb' : env.locals = s.heap.objs.size + 4 ∨ env.locals = s.heap.objs.size + 2 ∨ env.locals = s.heap.objs.size + 3 ∨ env.locals = s.heap.objs.size ∨ env.locals = s.heap.objs.size + 1 ∨ env.locals = l2 := by simpa using hI'
    have n2 := hax2.2.1
    rcases hb' with e | e | e | e | e | e
    · exact ktu_ne 4 hLs e
    · exact ktu_ne 2 hLs e
    · exact ktu_ne 3 hLs e
    · exact Nat.ne_of_lt hLs e
    · exact ktu_ne 1 hLs e
    · exact n2 e.symm
  · intro p hp hI'
    have hb' : p.1 = s.heap.objs.size + 4 ∨ p.1 = s.heap.objs.size + 3 ∨ p.1 = s.heap.objs.size ∨ p.1 = s.heap.objs.size + 1 := by simpa using hI'
    have hlp := Heap.lt_size (N p hp).1
    rcases hb' with e | e | e | e
    · exact ktu_ne 4 hlp e
    · exact ktu_ne 3 hlp e
    · exact Nat.ne_of_lt hlp e
    · exact ktu_ne 1 hlp e
  · exact ⟨hz, hTI, ⟨_, _, hTO⟩, hi1, hi2, hl2.at fun o e => hk l2 o e⟩
end
end Mine
end
noncomputable section
-- LX0
open PySem PySem.W PyProof.Rows
set_option maxRecDepth 100000
set_option maxHeartbeats 0
namespace Mine
open PySem.Calls PyProof.V PySem.Spec Builtin
open PyProof.Rows.LCg PyProof.Rows.LCt
theorem allLt_mem {I : Addr} (l : List (Addr × Obj)) (h : AllLt I l) : ∀ p ∈ l, p.1 < I := by
  induction l with
  | nil => exact fun p hp => nomatch hp
  | cons q r ih => exact List.forall_mem_cons.mpr ⟨h.1, ih h.2⟩
theorem five_lt {a I : Addr} {o1 o2 o3 o4 o5 : Obj} (h : @LT.lt Nat _ a I) : ∀ q ∈ [(I + 4, o1), (I + 2, o2), (I + 3, o3), (I, o4), (I + 1, o5)], a ≠ q.1 := fun q hq e => by
  have e' : @Eq Nat a q.1 := e
  rcases List.mem_cons.mp hq with rfl | hq
  · exact absurd (show @Eq Nat a (I + 4) from e) (by omega)
  rcases List.mem_cons.mp hq with rfl | hq
  · exact absurd (show @Eq Nat a (I + 2) from e) (by omega)
  rcases List.mem_cons.mp hq with rfl | hq
  · exact absurd (show @Eq Nat a (I + 3) from e) (by omega)
  rcases List.mem_cons.mp hq with rfl | hq
  · exact absurd (show @Eq Nat a I from e) (by omega)
  rcases List.mem_cons.mp hq with rfl | hq
  · exact absurd (show @Eq Nat a (I + 1) from e) (by omega)
  · cases hq
theorem five_gt {a I : Addr} {o1 o2 o3 o4 o5 : Obj} (h : @LT.lt Nat _ (I + 4) a) : ∀ q ∈ [(I + 4, o1), (I + 2, o2), (I + 3, o3), (I, o4), (I + 1, o5)], a ≠ q.1 := fun q hq e => by
  rcases List.mem_cons.mp hq with rfl | hq
  · exact absurd (show @Eq Nat a (I + 4) from e) (by omega)
  rcases List.mem_cons.mp hq with rfl | hq
  · exact absurd (show @Eq Nat a (I + 2) from e) (by omega)
  rcases List.mem_cons.mp hq with rfl | hq
  · exact absurd (show @Eq Nat a (I + 3) from e) (by omega)
  rcases List.mem_cons.mp hq with rfl | hq
  · exact absurd (show @Eq Nat a I from e) (by omega)
  rcases List.mem_cons.mp hq with rfl | hq
  · exact absurd (show @Eq Nat a (I + 1) from e) (by omega)
  · cases hq
theorem five_mem {a1 a2 a3 i1 i2 i3 i4 i5 : Addr × Obj} {rest : List (Addr × Obj)} : ∀ p ∈ [i1, i2, i3, i4, i5] ++ (a1 :: a2 :: a3 :: rest), p ∈ a1 :: a2 :: a3 :: i1 :: i2 :: i3 :: i4 :: i5 :: rest := fun p hp => by
  rcases List.mem_append.mp hp with h | h
  · exact .tail _ (.tail _ (.tail _ ((List.mem_append (t := rest)).mpr (.inl h))))
  · rcases List.mem_cons.mp h with h | h
    · exact h ▸ .head _
    rcases List.mem_cons.mp h with h | h
    · exact h ▸ .tail _ (.head _)
    rcases List.mem_cons.mp h with h | h
    · exact h ▸ .tail _ (.tail _ (.head _))
    · exact .tail _ (.tail _ (.tail _ ((List.mem_append (s := [i1, i2, i3, i4, i5])).mpr (.inr h))))
theorem UnrEndW.five3 {s : Shared} {h₀ h' : Heap} {L : Addr} {tk : Nat} {m' : Str → Option Value} {a1 a2 a3 i1 i2 i3 i4 i5 : Addr × Obj} {rest : List (Addr × Obj)} {R : (Str → Option Value) → List (Addr × Obj) → Prop} (F : Fr h₀ L h' m') (N : News h₀ L h' (a1 :: a2 :: a3 :: i1 :: i2 :: i3 :: i4 :: i5 :: rest))
    (ho : ∀ p ∈ a1 :: a2 :: a3 :: rest, ∀ q ∈ [i1, i2, i3, i4, i5], p.1 ≠ q.1) (r : R m' (a1 :: a2 :: a3 :: rest)) : UnrEndW h₀ L s [i1, i2, i3, i4, i5] R { s with heap := h', toks := tk } :=
  ⟨h', tk, m', _, rfl, F, fun p hp => N p (five_mem p hp), ho, r⟩
theorem ktu_zipS1 {prog : Program} {w : World} {A : Around} {E : Value → Shared → Prop} {s : Shared} {h₀ : Heap} {env : Env} {body : List Stmt} {elts : List Expr} {k : Nat} {pos : Pos} {l2 : Addr} {lo2 : Obj} {x : Str} {t : Tok} {ys : List Value} {n2 : Nat} {m₀ : Str → Option Value} {news : List (Addr × Obj)} {Q : Flow → Shared → Prop} {cs : List Nat} (hcs : x.cps.toList = cs)
    (hh : A.handled = none) (F : Fr h₀ env.locals s.heap m₀) (N : News h₀ env.locals s.heap news) (ha : x.cps.all (· < 128) = true) (hle : cs.length ≤ ys.length) (hm2 : (l2, lo2) ∈ news) (hc2 : lo2.cls = .type "list") (hd2 : lo2.data = .seq ys.toArray n2)
    (rest₀ : ∀ I : Addr, (∀ p ∈ news, p.1 < I) → ItemsRest prog w A E h₀ env (.Tuple elts k pos) body Q s [(I + 4, "zip"), (I + 2, "tuple"), (I + 3, "tuple"), (I, "str_ascii_iterator"), (I + 1, "list_iterator")] [(l2, lo2)] (zsItems cs ys) m₀ news) :
    wpAny (model prog w) A (call (.type "zip") [.str x t, .ref l2]) (fun xv s₁ => wpAny (model prog w) A (pyIter xv) (fun it s₂ => TurnsAt prog w A h₀ env (.Tuple elts k pos) body Q E it s₂) E s₁) E s := by
  subst hcs
  exact ktu_zipS hh F N ha hle hm2 hc2 hd2 rest₀
theorem News.rot4 {h₀ h : Heap} {L : Addr} {a x y z : Addr × Obj} {n : List (Addr × Obj)} (N : News h₀ L h (a :: x :: y :: z :: n)) : News h₀ L h (y :: z :: x :: a :: n) := fun p hp => by
  rcases List.mem_cons.mp hp with rfl | hp
  · exact N _ (.tail _ (.tail _ (.head _)))
  rcases List.mem_cons.mp hp with rfl | hp
  · exact N _ (.tail _ (.tail _ (.tail _ (.head _))))
  rcases List.mem_cons.mp hp with rfl | hp
  · exact N _ (.tail _ (.head _))
  rcases List.mem_cons.mp hp with rfl | hp
  · exact N _ (.head _)
  · exact N _ (.tail _ (.tail _ (.tail _ (.tail _ hp))))
theorem append1_K {prog : Program} {w : World} {A : Around} {E : Value → Shared → Prop} {s : Shared} {h₀ : Heap} {L D : Addr} {m : Str → Option Value} {news news' : List (Addr × Obj)} {l : List Value} {n : Nat} {x : Value} {Q : Value → Shared → Prop} (F : Fr h₀ L s.heap m) (N : News h₀ L s.heap news) (U : Upd D (listOf l.toArray n) (listOf (l ++ [x]).toArray (n + 1)) news news')
    (h : ∀ h', Fr h₀ L h' m → News h₀ L h' news' → Q .none { s with heap := h' }) (hsz : l.length ≤ 900) : wpAny (model prog w) A (call (.builtin "list.append") [.ref D, x]) Q E s :=
  append_K F N (by rw [List.push_toArray]; exact U) h (by rw [sizeLine_eq]; simp; omega)
theorem arr0 {x : Value} : (#[x] : Array Value)[0]? = some x := rfl
theorem News.rot {h₀ h : Heap} {L : Addr} {x y z : Addr × Obj} {n : List (Addr × Obj)} (N : News h₀ L h (x :: y :: z :: n)) : News h₀ L h (y :: z :: x :: n) := fun p hp => by
  rcases List.mem_cons.mp hp with rfl | hp
  · exact N _ (.tail _ (.head _))
  rcases List.mem_cons.mp hp with rfl | hp
  · exact N _ (.tail _ (.tail _ (.head _)))
  rcases List.mem_cons.mp hp with rfl | hp
  · exact N _ (.head _)
  · exact N _ (.tail _ (.tail _ (.tail _ hp)))
noncomputable def forBodyOf : List Stmt → List Stmt
  | [.For _ _ b _ _] => b
  | _ => []
noncomputable def forTgtOf : List Stmt → Expr
  | [.For t _ _ _ _] => t
  | _ => .Constant .none 0 default
@[reducible] noncomputable def gl7 {x : List Stmt} (a b c d e f g : Stmt) (_ : x = [a, b, c, d, e, f, g]) : List Stmt := [a, b, c, d, e, f, g]
@[reducible] noncomputable def exOf {x : Expr} (n : Str) (p : Pos) (_ : x = .Name n p) : Expr := .Name n p
@[reducible] noncomputable def fB7 : List Stmt := gl7 _ _ _ _ _ _ _ (rfl : forBodyOf g7 = [_, _, _, _, _, _, _])
@[reducible] noncomputable def fT7 : Expr := exOf _ _ (rfl : forTgtOf g7 = .Name _ _)
theorem News.front1 {h₀ h : Heap} {L : Addr} {a0 x y : Addr × Obj} {n : List (Addr × Obj)} (N : News h₀ L h (a0 :: x :: y :: n)) : News h₀ L h (x :: y :: a0 :: n) := fun p hp => by
  rcases List.mem_cons.mp hp with rfl | hp
  · exact N _ (.tail _ (.head _))
  rcases List.mem_cons.mp hp with rfl | hp
  · exact N _ (.tail _ (.tail _ (.head _)))
  rcases List.mem_cons.mp hp with rfl | hp
  · exact N _ (.head _)
  exact N _ (.tail _ (.tail _ (.tail _ (hp))))
theorem News.front2 {h₀ h : Heap} {L : Addr} {a0 a1 x y : Addr × Obj} {n : List (Addr × Obj)} (N : News h₀ L h (a0 :: a1 :: x :: y :: n)) : News h₀ L h (x :: y :: a0 :: a1 :: n) := fun p hp => by
  rcases List.mem_cons.mp hp with rfl | hp
  · exact N _ (.tail _ (.tail _ (.head _)))
  rcases List.mem_cons.mp hp with rfl | hp
  · exact N _ (.tail _ (.tail _ (.tail _ (.head _))))
  rcases List.mem_cons.mp hp with rfl | hp
  · exact N _ (.head _)
  rcases List.mem_cons.mp hp with rfl | hp
  · exact N _ (.tail _ (.head _))
  exact N _ (.tail _ (.tail _ (.tail _ (.tail _ (hp)))))
theorem News.front3 {h₀ h : Heap} {L : Addr} {a0 a1 a2 x y : Addr × Obj} {n : List (Addr × Obj)} (N : News h₀ L h (a0 :: a1 :: a2 :: x :: y :: n)) : News h₀ L h (x :: y :: a0 :: a1 :: a2 :: n) := fun p hp => by
  rcases List.mem_cons.mp hp with rfl | hp
  · exact N _ (.tail _ (.tail _ (.tail _ (.head _))))
  rcases List.mem_cons.mp hp with rfl | hp
  · exact N _ (.tail _ (.tail _ (.tail _ (.tail _ (.head _)))))
  rcases List.mem_cons.mp hp with rfl | hp
  · exact N _ (.head _)
  rcases List.mem_cons.mp hp with rfl | hp
  · exact N _ (.tail _ (.head _))
  rcases List.mem_cons.mp hp with rfl | hp
  · exact N _ (.tail _ (.tail _ (.head _)))
  exact N _ (.tail _ (.tail _ (.tail _ (.tail _ (.tail _ (hp))))))
theorem News.front4 {h₀ h : Heap} {L : Addr} {a0 a1 a2 a3 x y : Addr × Obj} {n : List (Addr × Obj)} (N : News h₀ L h (a0 :: a1 :: a2 :: a3 :: x :: y :: n)) : News h₀ L h (x :: y :: a0 :: a1 :: a2 :: a3 :: n) := fun p hp => by
  rcases List.mem_cons.mp hp with rfl | hp
  · exact N _ (.tail _ (.tail _ (.tail _ (.tail _ (.head _)))))
  rcases List.mem_cons.mp hp with rfl | hp
  · exact N _ (.tail _ (.tail _ (.tail _ (.tail _ (.tail _ (.head _))))))
  rcases List.mem_cons.mp hp with rfl | hp
  · exact N _ (.head _)
  rcases List.mem_cons.mp hp with rfl | hp
  · exact N _ (.tail _ (.head _))
  rcases List.mem_cons.mp hp with rfl | hp
  · exact N _ (.tail _ (.tail _ (.head _)))
  rcases List.mem_cons.mp hp with rfl | hp
  · exact N _ (.tail _ (.tail _ (.tail _ (.head _))))
  exact N _ (.tail _ (.tail _ (.tail _ (.tail _ (.tail _ (.tail _ (hp)))))))
theorem News.front5 {h₀ h : Heap} {L : Addr} {a0 a1 a2 a3 a4 x y : Addr × Obj} {n : List (Addr × Obj)} (N : News h₀ L h (a0 :: a1 :: a2 :: a3 :: a4 :: x :: y :: n)) : News h₀ L h (x :: y :: a0 :: a1 :: a2 :: a3 :: a4 :: n) := fun p hp => by
  rcases List.mem_cons.mp hp with rfl | hp
  · exact N _ (.tail _ (.tail _ (.tail _ (.tail _ (.tail _ (.head _))))))
  rcases List.mem_cons.mp hp with rfl | hp
  · exact N _ (.tail _ (.tail _ (.tail _ (.tail _ (.tail _ (.tail _ (.head _)))))))
  rcases List.mem_cons.mp hp with rfl | hp
  · exact N _ (.head _)
  rcases List.mem_cons.mp hp with rfl | hp
  · exact N _ (.tail _ (.head _))
  rcases List.mem_cons.mp hp with rfl | hp
  · exact N _ (.tail _ (.tail _ (.head _)))
  rcases List.mem_cons.mp hp with rfl | hp
  · exact N _ (.tail _ (.tail _ (.tail _ (.head _))))
  rcases List.mem_cons.mp hp with rfl | hp
  · exact N _ (.tail _ (.tail _ (.tail _ (.tail _ (.head _)))))
  exact N _ (.tail _ (.tail _ (.tail _ (.tail _ (.tail _ (.tail _ (.tail _ (hp))))))))
theorem News.front6 {h₀ h : Heap} {L : Addr} {a0 a1 a2 a3 a4 a5 x y : Addr × Obj} {n : List (Addr × Obj)} (N : News h₀ L h (a0 :: a1 :: a2 :: a3 :: a4 :: a5 :: x :: y :: n)) : News h₀ L h (x :: y :: a0 :: a1 :: a2 :: a3 :: a4 :: a5 :: n) := fun p hp => by
  rcases List.mem_cons.mp hp with rfl | hp
  · exact N _ (.tail _ (.tail _ (.tail _ (.tail _ (.tail _ (.tail _ (.head _)))))))
  rcases List.mem_cons.mp hp with rfl | hp
  · exact N _ (.tail _ (.tail _ (.tail _ (.tail _ (.tail _ (.tail _ (.tail _ (.head _))))))))
  rcases List.mem_cons.mp hp with rfl | hp
  · exact N _ (.head _)
  rcases List.mem_cons.mp hp with rfl | hp
  · exact N _ (.tail _ (.head _))
  rcases List.mem_cons.mp hp with rfl | hp
  · exact N _ (.tail _ (.tail _ (.head _)))
  rcases List.mem_cons.mp hp with rfl | hp
  · exact N _ (.tail _ (.tail _ (.tail _ (.head _))))
  rcases List.mem_cons.mp hp with rfl | hp
  · exact N _ (.tail _ (.tail _ (.tail _ (.tail _ (.head _)))))
  rcases List.mem_cons.mp hp with rfl | hp
  · exact N _ (.tail _ (.tail _ (.tail _ (.tail _ (.tail _ (.head _))))))
  exact N _ (.tail _ (.tail _ (.tail _ (.tail _ (.tail _ (.tail _ (.tail _ (.tail _ (hp)))))))))
theorem News.front7 {h₀ h : Heap} {L : Addr} {a0 a1 a2 a3 a4 a5 a6 x y : Addr × Obj} {n : List (Addr × Obj)} (N : News h₀ L h (a0 :: a1 :: a2 :: a3 :: a4 :: a5 :: a6 :: x :: y :: n)) : News h₀ L h (x :: y :: a0 :: a1 :: a2 :: a3 :: a4 :: a5 :: a6 :: n) := fun p hp => by
  rcases List.mem_cons.mp hp with rfl | hp
  · exact N _ (.tail _ (.tail _ (.tail _ (.tail _ (.tail _ (.tail _ (.tail _ (.head _))))))))
  rcases List.mem_cons.mp hp with rfl | hp
  · exact N _ (.tail _ (.tail _ (.tail _ (.tail _ (.tail _ (.tail _ (.tail _ (.tail _ (.head _)))))))))
  rcases List.mem_cons.mp hp with rfl | hp
  · exact N _ (.head _)
  rcases List.mem_cons.mp hp with rfl | hp
  · exact N _ (.tail _ (.head _))
  rcases List.mem_cons.mp hp with rfl | hp
  · exact N _ (.tail _ (.tail _ (.head _)))
  rcases List.mem_cons.mp hp with rfl | hp
  · exact N _ (.tail _ (.tail _ (.tail _ (.head _))))
  rcases List.mem_cons.mp hp with rfl | hp
  · exact N _ (.tail _ (.tail _ (.tail _ (.tail _ (.head _)))))
  rcases List.mem_cons.mp hp with rfl | hp
  · exact N _ (.tail _ (.tail _ (.tail _ (.tail _ (.tail _ (.head _))))))
  rcases List.mem_cons.mp hp with rfl | hp
  · exact N _ (.tail _ (.tail _ (.tail _ (.tail _ (.tail _ (.tail _ (.head _)))))))
  exact N _ (.tail _ (.tail _ (.tail _ (.tail _ (.tail _ (.tail _ (.tail _ (.tail _ (.tail _ (hp))))))))))
theorem News.front8 {h₀ h : Heap} {L : Addr} {a0 a1 a2 a3 a4 a5 a6 a7 x y : Addr × Obj} {n : List (Addr × Obj)} (N : News h₀ L h (a0 :: a1 :: a2 :: a3 :: a4 :: a5 :: a6 :: a7 :: x :: y :: n)) : News h₀ L h (x :: y :: a0 :: a1 :: a2 :: a3 :: a4 :: a5 :: a6 :: a7 :: n) := fun p hp => by
  rcases List.mem_cons.mp hp with rfl | hp
  · exact N _ (.tail _ (.tail _ (.tail _ (.tail _ (.tail _ (.tail _ (.tail _ (.tail _ (.head _)))))))))
  rcases List.mem_cons.mp hp with rfl | hp
  · exact N _ (.tail _ (.tail _ (.tail _ (.tail _ (.tail _ (.tail _ (.tail _ (.tail _ (.tail _ (.head _))))))))))
  rcases List.mem_cons.mp hp with rfl | hp
  · exact N _ (.head _)
  rcases List.mem_cons.mp hp with rfl | hp
  · exact N _ (.tail _ (.head _))
  rcases List.mem_cons.mp hp with rfl | hp
  · exact N _ (.tail _ (.tail _ (.head _)))
  rcases List.mem_cons.mp hp with rfl | hp
  · exact N _ (.tail _ (.tail _ (.tail _ (.head _))))
  rcases List.mem_cons.mp hp with rfl | hp
  · exact N _ (.tail _ (.tail _ (.tail _ (.tail _ (.head _)))))
  rcases List.mem_cons.mp hp with rfl | hp
  · exact N _ (.tail _ (.tail _ (.tail _ (.tail _ (.tail _ (.head _))))))
  rcases List.mem_cons.mp hp with rfl | hp
  · exact N _ (.tail _ (.tail _ (.tail _ (.tail _ (.tail _ (.tail _ (.head _)))))))
  rcases List.mem_cons.mp hp with rfl | hp
  · exact N _ (.tail _ (.tail _ (.tail _ (.tail _ (.tail _ (.tail _ (.tail _ (.head _))))))))
  exact N _ (.tail _ (.tail _ (.tail _ (.tail _ (.tail _ (.tail _ (.tail _ (.tail _ (.tail _ (.tail _ (hp)))))))))))
end Mine
end
noncomputable section
-- WC6
open PySem PySem.W PyProof.Rows PyProof.Rows.LCg PyProof.Rows.LCt
set_option maxRecDepth 100000
set_option maxHeartbeats 0
namespace Mine
open PySem.Calls PyProof.V PySem.Spec Builtin
section
variable {prog : Program} {w : World} {A : Around} {E : Value → Shared → Prop} {s : Shared} {h₀ : Heap} {L : Addr} {m : Str → Option Value} {env : Env}
theorem rngiter_st {h₀ : Heap} {L I : Addr} {a c : Int} {n : Nat} {S : List (Addr × Obj) → Prop} : ∀ i (h h' : Heap) o nw, IsRangeIter h I (a + (i : Nat) * c) ((n : Int) - (i : Nat)) c → h.get? I = some o → h'.get? I = some o → (∀ b o, h₀.get? b = some o → h'.get? b = some o) → News h₀ L h' nw → S nw → IsRangeIter h' I (a + (i : Nat) * c) ((n : Int) - (i : Nat)) c :=
  fun _ _ _ _ _ st e e' _ _ _ => by
    have h1 := (st.symm.trans e)
    exact e'.trans h1.symm
theorem rng_st0 {h : Heap} {a c : Int} {n : Nat} : IsRangeIter (h.push { cls := .type "range_iterator", data := .fields #[rawInt a, rawInt (n : Int), rawInt c] }) h.objs.size (a + ((0 : Nat) : Int) * c) ((n : Int) - ((0 : Nat) : Int)) c := by
  have e1 : a + ((0 : Nat) : Int) * c = a := by simp
  have e2 : (n : Int) - ((0 : Nat) : Int) = n := by simp
  rw [e1, e2]
  exact Heap.get?_push_size _ rfl
noncomputable def RngP (a c : Int) (i : Nat) (v : Value) : Prop := ∃ t, v = .int (a + i * c) t
noncomputable def RngSrcT (prog : Program) (w : World) (A : Around) (h₀ : Heap) (L : Addr) (m : Str → Option Value) (env : Env) (ct elt : Expr) (x : Str) (scope : Scope) (cl : List (Str × Addr)) (Q : Value → Shared → Prop) (xv : Value) (s₁ : Shared) : Prop :=
  ∃ (r : Addr) (a b c : Int) (n : Nat) (t u v : Tok) (news : List (Addr × Obj)), xv = .ref r ∧ A.handled = none ∧ IsRange s₁.heap r a b c t u v ∧ Builtin.Range.small a b c = true ∧ Builtin.Range.rangeSize a b c = (n : Int) ∧ Fr h₀ L s₁.heap m ∧ News h₀ L s₁.heap news ∧ n ≤ sizeLine ∧
      ∀ g, CompRestT prog w A h₀ L m env ct elt x scope cl { s₁ with heap := g } (fun _ => True) (RngP a c) (FinE h₀ L m { s₁ with heap := g } Q) n 0 [] news
noncomputable def RngSrcU (prog : Program) (w : World) (A : Around) (h₀ : Heap) (L : Addr) (m : Str → Option Value) (env : Env) (elt : Expr) (x : Str) (scope : Scope) (cl : List (Str × Addr)) (Q : Value → Shared → Prop) (xv : Value) (s₁ : Shared) : Prop :=
  ∃ (r : Addr) (a b c : Int) (n : Nat) (t u v : Tok) (news : List (Addr × Obj)), xv = .ref r ∧ A.handled = none ∧ IsRange s₁.heap r a b c t u v ∧ Builtin.Range.small a b c = true ∧ Builtin.Range.rangeSize a b c = (n : Int) ∧ Fr h₀ L s₁.heap m ∧ News h₀ L s₁.heap news ∧ n ≤ sizeLine ∧
      ∀ g, CompRest prog w A h₀ L m env elt x scope cl { s₁ with heap := g } (fun _ => True) (RngP a c) (FinE h₀ L m { s₁ with heap := g } Q) n 0 [] news
/-- a comprehension over a range, with one test -/
theorem ListComp_RT {ct elt iter : Expr} {x : Str} {px : Pos} {scope : Scope} {cl : List (Str × Addr)} {pos : Pos} {Q : Value → Shared → Prop} (F₀ : Fr h₀ L s.heap m)
    (hclos : closureFor scope env = pure cl) (hcell : ∀ y ∈ scope.names, y.2 ≠ .cell) (hkind : scope.kind = .function)
    (hnames : ∀ y ∈ scope.names, y.2 = .local → scope.names.lookup y.1 = some .local) (hx : scope.names.lookup x = some .local)
    (h : wpAny (model prog w) A (eval iter env) (RngSrcT prog w A h₀ L m env ct elt x scope cl Q) E s)
    (hs : ∀ x, foldedSetIterable iter env x = pure x := by intro _; rfl) :
    wpAny (model prog w) A (eval (.ListComp elt [⟨.Name x px, iter, [ct], 0⟩] scope pos) env) Q E s := by
  rw [eval_ListComp]
  refine wpAny_comprehension_free (use := none) rfl hs hclos hkind hnames (wpAny_mono h (fun xv s₁ h₁ => ?_) fun _ _ e => e)
  obtain ⟨rr, a, b, c, n, t, u, v, news, rfl, hh, hr, hsm, hn, F, N, hsz, R⟩ := h₁
  refine wpAny_pyIter_range hr hsm ?_
  refine block_T (Walks.range hh s₁.heap.objs.size a c n) hsz (fun i h st => ⟨_, st⟩) rngiter_st hcell hkind hx (by rw [hn]; exact rng_st0) (fun b hb => ?_)
    (F.keeps fun _ _ e => Heap.get?_push_of_some _ e) (N.grown fun _ _ e => Heap.get?_push_of_some _ e) (Nat.ne_of_lt F.ns.lt) (next_is_new F) (fun p hp => Nat.ne_of_lt (Heap.lt_size (N p hp).1)) trivial (R _) ?_
  · rw [List.mem_singleton.mp hb]
    show s₁.heap.objs.size < (s₁.heap.push _).objs.size
    rw [Heap.size_push]; exact Nat.lt_succ_self _
  · intro D C h tk m' ys news' F' N' o1 hn hC₀ hD₀ hCL hDL hCD offC fin
    refine ⟨m', hn, fun h'' hs'' => fin D h'' tk (F'.change hs'' hCL hC₀) (fun p hp => ?_) o1⟩
    refine ⟨hs''.extBut _ _ ?_ (N' p hp).1, (N' p hp).2⟩
    rcases List.mem_cons.mp hp with rfl | hp
    · exact Ne.symm hCD
    · exact offC p hp
/-- a comprehension over a range, with no test -/
theorem ListComp_RU {elt iter : Expr} {x : Str} {px : Pos} {scope : Scope} {cl : List (Str × Addr)} {pos : Pos} {Q : Value → Shared → Prop} (F₀ : Fr h₀ L s.heap m)
    (hclos : closureFor scope env = pure cl) (hcell : ∀ y ∈ scope.names, y.2 ≠ .cell) (hkind : scope.kind = .function)
    (hnames : ∀ y ∈ scope.names, y.2 = .local → scope.names.lookup y.1 = some .local) (hx : scope.names.lookup x = some .local)
    (h : wpAny (model prog w) A (eval iter env) (RngSrcU prog w A h₀ L m env elt x scope cl Q) E s)
    (hs : ∀ x, foldedSetIterable iter env x = pure x := by intro _; rfl) :
    wpAny (model prog w) A (eval (.ListComp elt [⟨.Name x px, iter, [], 0⟩] scope pos) env) Q E s := by
  rw [eval_ListComp]
  refine wpAny_comprehension_free (use := none) rfl hs hclos hkind hnames (wpAny_mono h (fun xv s₁ h₁ => ?_) fun _ _ e => e)
  obtain ⟨rr, a, b, c, n, t, u, v, news, rfl, hh, hr, hsm, hn, F, N, hsz, R⟩ := h₁
  refine wpAny_pyIter_range hr hsm ?_
  refine block_U (Walks.range hh s₁.heap.objs.size a c n) hsz (fun i h st => ⟨_, st⟩) rngiter_st hcell hkind hx (by rw [hn]; exact rng_st0) (fun b hb => ?_)
    (F.keeps fun _ _ e => Heap.get?_push_of_some _ e) (N.grown fun _ _ e => Heap.get?_push_of_some _ e) (Nat.ne_of_lt F.ns.lt) (next_is_new F) (fun p hp => Nat.ne_of_lt (Heap.lt_size (N p hp).1)) trivial (R _) ?_
  · rw [List.mem_singleton.mp hb]
    show s₁.heap.objs.size < (s₁.heap.push _).objs.size
    rw [Heap.size_push]; exact Nat.lt_succ_self _
  · intro D C h tk m' ys news' F' N' o1 hn hC₀ hD₀ hCL hDL hCD offC fin
    refine ⟨m', hn, fun h'' hs'' => fin D h'' tk (F'.change hs'' hCL hC₀) (fun p hp => ?_) o1⟩
    refine ⟨hs''.extBut _ _ ?_ (N' p hp).1, (N' p hp).2⟩
    rcases List.mem_cons.mp hp with rfl | hp
    · exact Ne.symm hCD
    · exact offC p hp
end
end Mine
end
noncomputable section
-- WC7
open PySem PySem.W PyProof.Rows
set_option maxRecDepth 100000
set_option maxHeartbeats 0
namespace Mine
open PySem.Calls PyProof.V PySem.Spec Builtin
open PyProof.Rows.LCg PyProof.Rows.LCt
theorem small_1 {n : Int} (h0 : 0 ≤ n) (h1 : n ≤ 1000) : Builtin.Range.small 0 n 1 = true := small_one (by omega) (by omega) (by omega) (by omega)
theorem small_2 {n : Int} (h0 : 0 ≤ n) (h1 : n ≤ 1000) : Builtin.Range.small 1 n 1 = true := small_one (by omega) (by omega) (by omega) (by omega)
theorem size_1 {n : Int} (h0 : 0 ≤ n) : Builtin.Range.rangeSize 0 n 1 = (n.toNat : Int) := by
  unfold Builtin.Range.rangeSize; simp; split <;> omega
theorem size_2 {n : Int} (h0 : 0 ≤ n) : Builtin.Range.rangeSize 1 (n + 1) 1 = (n.toNat : Int) := by
  unfold Builtin.Range.rangeSize; simp; split <;> omega
section
variable {prog : Program} {w : World} {A : Around} {E : Value → Shared → Prop} {s : Shared} {h₀ : Heap} {L : Addr} {m : Str → Option Value} {env : Env} {ct elt : Expr} {x : Str} {scope : Scope} {cl : List (Str × Addr)} {Q : Value → Shared → Prop} {news : List (Addr × Obj)} {n : Int} {t u : Tok}
theorem call_rng1T (hh : A.handled = none) (F : Fr h₀ L s.heap m) (N : News h₀ L s.heap news) (h0 : 0 ≤ n) (h1 : n ≤ 1000)
    (R : ∀ g tk, CompRestT prog w A h₀ L m env ct elt x scope cl { s with heap := g, toks := tk } (fun _ => True) (RngP 0 1) (FinE h₀ L m { s with heap := g, toks := tk } Q) n.toNat 0 [] news) :
    wpAny (model prog w) A (call (.type "range") [.int n t]) (fun xv s₁ => RngSrcT prog w A h₀ L m env ct elt x scope cl Q xv s₁) E s :=
  call_range_1 ⟨_, 0, n, 1, n.toNat, _, _, _, news, rfl, hh, Heap.get?_push_size _ rfl, small_1 h0 h1, size_1 h0, F.push _, fun p hp => ⟨Heap.get?_push_of_some _ (N p hp).1, (N p hp).2⟩, by rw [sizeLine_eq]; omega, fun g => R g _⟩
theorem call_rng2U (hh : A.handled = none) (F : Fr h₀ L s.heap m) (N : News h₀ L s.heap news) (h0 : 0 ≤ n) (h1 : n + 1 ≤ 1000)
    (R : ∀ g tk, CompRest prog w A h₀ L m env elt x scope cl { s with heap := g, toks := tk } (fun _ => True) (RngP 1 1) (FinE h₀ L m { s with heap := g, toks := tk } Q) n.toNat 0 [] news) :
    wpAny (model prog w) A (call (.type "range") [.int 1 u, .int (n + 1) t]) (fun xv s₁ => RngSrcU prog w A h₀ L m env elt x scope cl Q xv s₁) E s :=
  call_range_2 ⟨_, 1, n + 1, 1, n.toNat, _, _, _, news, rfl, hh, Heap.get?_push_size _ rfl, small_2 (by omega) h1, size_2 h0, F.push _, fun p hp => ⟨Heap.get?_push_of_some _ (N p hp).1, (N p hp).2⟩, by rw [sizeLine_eq]; omega, fun g => R g _⟩
end
end Mine
end
noncomputable section
-- WC8
open PySem PySem.W PyProof.Rows
set_option maxRecDepth 100000
set_option maxHeartbeats 0
namespace Mine
open PySem.Calls PyProof.V PySem.Spec Builtin
open PyProof.Rows.LCg PyProof.Rows.LCt
local macro_rules | `(tactic| k_all) => `(tactic| assumption)
noncomputable def lcOf : List Stmt → Expr × Expr × Scope
  | [.Assign _ (.BinOp (.Call _ [.ListComp e [⟨_, _, [c], _⟩] s _] _ _) _ _ _) _] => (e, c, s)
  | _ => (.Constant .none 0 default, .Constant .none 0 default, default)
noncomputable def st91 : List Stmt := (b22.drop 16).take 1
@[reducible] noncomputable def exBin {x : Expr} (v s : Expr) (p : Pos) (_ : x = .Subscript v s p) : Expr := .Subscript v s p
@[reducible] noncomputable def exCmp {x : Expr} (l : Expr) (o : List CmpOp) (r : List Expr) (p : Pos) (_ : x = .Compare l o r p) : Expr := .Compare l o r p
@[reducible] noncomputable def cntE : Expr := exBin _ _ _ (rfl : (lcOf st91).1 = .Subscript _ _ _)
@[reducible] noncomputable def cntC : Expr := exCmp _ _ _ _ (rfl : (lcOf st91).2.1 = .Compare _ _ _ _)
@[reducible] noncomputable def cntS : Scope := scOf _ _ _ _ _ (rfl : (lcOf st91).2.2 = ⟨_, _, _, _, _⟩)
noncomputable def cntCl (L : Addr) : List (Str × Addr) := [("weights", L + 1 + 1 + 1 + 1 + 1), ("ahead", L + 1 + 1 + 1 + 1 + 1 + 1)]
section
variable {w : World} {E : Value → Shared → Prop} {s : Shared} {base h₀ : Heap} {L f : Addr} {cd : Value} {m mg mb : Str → Option Value} {p : Program} {loose : List Str} {mean : ExcName → Option Value} {TT : List (Addr × Obj)} {c5 c6 : Obj} {pw : Addr} {its : List Value} {wl : List Int} {cw : Nat} {ah : Str} {ta : Tok}
theorem cnt_test (hc : closureFor cntS (envOfC (Str.ofString "law") s22 L f cd) = pure (cntCl L)) : True := trivial
theorem cnt_step {C I D : Addr} {oI oC oD : Obj} {m₂ : Str → Option Value} {k : Int} {u : Tok} {K1 : Value → Shared → Prop} {K2 : Shared → Prop} 
    (K : Below callerA base [] h₀) (T : Top p loose mean mg mb h₀) (X : (KK w.params).In h₀) (F : Fr h₀ L s.heap m) (N : News h₀ L s.heap ((I, oI) :: (C, oC) :: (D, oD) :: (pw, listOf its.toArray cw) :: (L + 1 + 1 + 1 + 1 + 1 + 1, c6) :: (L + 1 + 1 + 1 + 1 + 1, c5) :: TT)) (hC : NsObj oC m₂) (hx : m₂ "k" = some (.int k u))
    (h6 : ∀ h' tk', (Txt.item ah k == Str.ofString "1") = true → Fr h₀ L h' m → News h₀ L h' ((I, oI) :: (C, oC) :: (D, oD) :: (pw, listOf its.toArray cw) :: (L + 1 + 1 + 1 + 1 + 1 + 1, c6) :: (L + 1 + 1 + 1 + 1 + 1, c5) :: TT) → ∀ t, K1 (.int (wl.getD (k + 1).toNat 0) t) { s with heap := h', toks := tk' })
    (h7 : ∀ h' tk', (Txt.item ah k == Str.ofString "1") = false → Fr h₀ L h' m → News h₀ L h' ((I, oI) :: (C, oC) :: (D, oD) :: (pw, listOf its.toArray cw) :: (L + 1 + 1 + 1 + 1 + 1 + 1, c6) :: (L + 1 + 1 + 1 + 1 + 1, c5) :: TT) → K2 { s with heap := h', toks := tk' })
    (d5 : c5.data = .cell (some (.ref pw))) (d6 : c6.data = .cell (some (.str ah ta))) (hI : IntsAre its wl) (h0 : 0 ≤ k) (h1 : k < ah.length) (h2 : k + 1 < its.length) (h3 : ah.length ≤ 40) (h4 : its.length = 7) :
    wpAny (model PySem.Challenge.rw_xo0036_01.row.prog w) (callerA.deeper (envOfC (Str.ofString "law") s22 L f cd)) (isTrue cntC (compEnvC cntS (cntCl L) C (envOfC (Str.ofString "law") s22 L f cd)) (eval cntC (compEnvC cntS (cntCl L) C (envOfC (Str.ofString "law") s22 L f cd))))
      (fun ok s' => if ok = true then wpAny (model PySem.Challenge.rw_xo0036_01.row.prog w) (callerA.deeper (envOfC (Str.ofString "law") s22 L f cd)) (eval cntE (compEnvC cntS (cntCl L) C (envOfC (Str.ofString "law") s22 L f cd))) K1 E s' else K2 s') E s := by
  revert X
  k_fill
  intro X
  k_steps
  · exact h6 _ _ (by assumption) F N _
  · exact h7 _ _ (by assumption) F N
theorem intsAre_app : ∀ {ys : List Value} {l : List Int} {x : Int} {t : Tok}, IntsAre ys l → IntsAre (ys ++ [.int x t]) (l ++ [x])
  | _, _, x, t, .nil => .cons x t .nil
  | _, _, x, t, .cons y u h => .cons y u (intsAre_app h)
noncomputable def cntL (ah : Str) (wl : List Int) : Nat → List Int
  | 0 => []
  | i + 1 => if (Txt.item ah (i : Int) == Str.ofString "1") = true then cntL ah wl i ++ [wl.getD ((i : Int) + 1).toNat 0] else cntL ah wl i
theorem cnt_rest (K : Below callerA base [] h₀) (T : Top p loose mean mg mb h₀) (X : (KK w.params).In h₀) {Fin : List Value → List (Addr × Obj) → Prop}
    (d5 : c5.data = .cell (some (.ref pw))) (d6 : c6.data = .cell (some (.str ah ta))) (hI : IntsAre its wl) (h3 : ah.length ≤ 6) (h4 : its.length = 7)
    (hfin : ∀ ys, IntsAre ys (cntL ah wl ah.length) → Fin ys ((pw, listOf its.toArray cw) :: (L + 1 + 1 + 1 + 1 + 1 + 1, c6) :: (L + 1 + 1 + 1 + 1 + 1, c5) :: TT)) :
    CompRestT PySem.Challenge.rw_xo0036_01.row.prog w (callerA.deeper (envOfC (Str.ofString "law") s22 L f cd)) h₀ L m (envOfC (Str.ofString "law") s22 L f cd) cntC cntE "k" cntS (cntCl L) s (fun _ => True) (RngP 0 1) Fin ah.length 0 [] ((pw, listOf its.toArray cw) :: (L + 1 + 1 + 1 + 1 + 1 + 1, c6) :: (L + 1 + 1 + 1 + 1 + 1, c5) :: TT) := by
  refine rest_indT (fun i ys => IntsAre ys (cntL ah wl i)) trivial .nil (fun i v I oI C oC D m₂ h tk ys E' K1 K2 hi hR hP hC hm F' N' k1 k2 => ?_) hfin
  obtain ⟨t, rfl⟩ := hP
  have e0 : (0 : Int) + (i : Int) * 1 = (i : Int) := by omega
  rw [e0] at hm
  refine cnt_step (s := { s with heap := h, toks := tk }) K T X F' N' hC hm (fun h' tk' hb F'' N'' t' => k1 _ h' tk' ?_ F'' N'') (fun h' tk' hb F'' N'' => k2 h' tk' ?_ F'' N'') d5 d6 hI (by omega) (by omega) (by omega) (by omega) h4
  · rw [cntL, if_pos hb]; exact intsAre_app hR
  · rw [cntL, if_neg (by rw [hb]; decide)]; exact hR
theorem cnt_clos : closureFor cntS (envOfC (Str.ofString "law") s22 L f cd) = pure (cntCl L) := rfl
end
end Mine
end
noncomputable section
-- WC9
open PySem PySem.W PyProof.Rows
set_option maxRecDepth 100000
set_option maxHeartbeats 0
namespace Mine
open PySem.Calls PyProof.V PySem.Spec Builtin
open PyProof.Rows.LCg PyProof.Rows.LCt
local macro_rules | `(tactic| k_all) => `(tactic| assumption)
noncomputable def lcOf2 : List Stmt → Expr × Scope
  | [.Assign _ (.ListComp e [⟨_, _, [], _⟩] s _) _] => (e, s)
  | _ => (.Constant .none 0 default, default)
@[reducible] noncomputable def exCall {x : Expr} (f : Expr) (a : List Expr) (k : List Keyword) (p : Pos) (_ : x = .Call f a k p) : Expr := .Call f a k p
@[reducible] noncomputable def dueE : Expr := exCall _ _ _ _ (rfl : (lcOf2 g10).1 = .Call _ _ _ _)
@[reducible] noncomputable def dueS : Scope := scOf _ _ _ _ _ (rfl : (lcOf2 g10).2 = ⟨_, _, _, _, _⟩)
noncomputable def dueCl (L : Addr) : List (Str × Addr) := [("weights", L + 1 + 1 + 1 + 1 + 1), ("sign", L + 1 + 1), ("second", L + 1 + 1 + 1 + 1), ("letters", L + 1), ("first", L + 1 + 1 + 1)]
noncomputable def pieceOk (sg d a : Str) (i j : Int) : Prop := Sign sg ∧ sg.length = 1 ∧ d.length ≤ 40 ∧ a.length ≤ 4 ∧ 0 ≤ i ∧ i < 5 ∧ 0 ≤ j ∧ j < 5 ∧ (0 : Int) ≤ ↑d.length - ↑(Txt.rstripChars d (Str.ofString "1")).length ∧ (↑d.length - ↑(Txt.rstripChars d (Str.ofString "1")).length : Int) < a.length ∧ (Txt.lstripChars d (Str.ofString "1")).length ≤ 40
section
variable {w : World} {E : Value → Shared → Prop} {s : Shared} {base h₀ : Heap} {L f : Addr} {cd : Value} {m mg mb : Str → Option Value} {p : Program} {loose : List Str} {mean : ExcName → Option Value} {TT : List (Addr × Obj)} {c1 c2 c3 c4 c5 c6 : Obj} {pw : Addr} {its : List Value} {wl : List Int} {cw : Nat} {a sg : Str} {t1 t2 t3 t4 : Tok} {first second : Int}
theorem due_clos : closureFor dueS (envOfC (Str.ofString "law") s22 L f cd) = pure (dueCl L) := rfl
theorem due_step {C I D : Addr} {oI oC oD : Obj} {m₂ : Str → Option Value} {k : Int} {u : Tok} {K1 : Value → Shared → Prop}
    (K : Below callerA base [] h₀) (T : Top p loose mean mg mb h₀) (X : (KK w.params).In h₀) (F : Fr h₀ L s.heap m) (N : News h₀ L s.heap ((pw, listOf its.toArray cw) :: (L + 1 + 1 + 1 + 1 + 1 + 1, c6) :: (L + 1 + 1 + 1 + 1 + 1, c5) :: (L + 1 + 1 + 1 + 1, c4) :: (L + 1 + 1 + 1, c3) :: (L + 1 + 1, c2) :: (L + 1, c1) :: (I, oI) :: (C, oC) :: (D, oD) :: TT)) (NC : (C, oC) ∈ (I, oI) :: (C, oC) :: (D, oD) :: TT) (hC : NsObj oC m₂) (hx : m₂ "n" = some (.int k u))
    (d1 : c1.data = .cell (some (.str a t1))) (d2 : c2.data = .cell (some (.str sg t2))) (d3 : c3.data = .cell (some (.int first t3))) (d4 : c4.data = .cell (some (.int second t4))) (d5 : c5.data = .cell (some (.ref pw)))
    (hI : IntsAre its wl) (h4 : its.length = 7) (hp : pieceOk sg (digitsF k wl) a first second)
    (h6 : ∀ h' tk' q t u, Fr h₀ L h' m → News h₀ L h' ((q, tupO #[.str (writeF (digitsF k wl) sg first second) t, .str (letterF a (digitsF k wl)) u]) :: (pw, listOf its.toArray cw) :: (L + 1 + 1 + 1 + 1 + 1 + 1, c6) :: (L + 1 + 1 + 1 + 1 + 1, c5) :: (L + 1 + 1 + 1 + 1, c4) :: (L + 1 + 1 + 1, c3) :: (L + 1 + 1, c2) :: (L + 1, c1) :: (I, oI) :: (C, oC) :: (D, oD) :: TT) → (∀ y ∈ (pw, listOf its.toArray cw) :: (L + 1 + 1 + 1 + 1 + 1 + 1, c6) :: (L + 1 + 1 + 1 + 1 + 1, c5) :: (L + 1 + 1 + 1 + 1, c4) :: (L + 1 + 1 + 1, c3) :: (L + 1 + 1, c2) :: (L + 1, c1) :: (I, oI) :: (C, oC) :: (D, oD) :: TT, y.1 < q) → K1 (.ref q) { s with heap := h', toks := tk' }) :
    wpAny (model PySem.Challenge.rw_xo0036_01.row.prog w) (callerA.deeper (envOfC (Str.ofString "law") s22 L f cd)) (eval dueE (compEnvC dueS (dueCl L) C (envOfC (Str.ofString "law") s22 L f cd))) K1 E s := by
  unfold pieceOk at hp
  revert X
  k_fill
  intro X
  iterate 14 (first | walk1 | (dsimp only; walk1))
  (try dsimp only)
  k_dflt (first | (refine' Claim.use digits_claim ?akB ?akF ?akX ?akN ?akT ?akk ?akp ?akd ?aku ?_; (case akB => k_asm); (case akF => k_asm); (case akX => k_asm); (case akN => k_asm); (case akT => k_asm); (case akk => rfl); (case akp => exact And.intro (by assumption) (by omega)); (case akd => decide +kernel); (case aku => decide +kernel); ((intro v0 n0 hp0; obtain ⟨t1', hv0, hn0⟩ := hp0; subst hv0; subst hn0; intro h' tk' F' N'))) | fail "no")
  iterate 10 (first | walk1 | (dsimp only; walk1))
  (try dsimp only)
  k_dflt (first | (refine' Claim.use piece_claim ?bkB ?bkF ?bkX ?bkN ?bkT ?bkk ?bkp ?bkd ?bku ?_; (case bkB => k_asm); (case bkF => k_asm); (case bkX => k_asm); (case bkN => k_asm); (case bkT => k_asm); (case bkk => rfl); (case bkp => assumption); (case bkd => decide +kernel); (case bku => decide +kernel); ((intro v0 n0 hp0; obtain ⟨p', t1', t2', hv0, hn0, l1⟩ := hp0; subst hv0; subst hn0; intro h' tk' F' N'; (have l0 := l1); (try k_lt l1)))) | fail "no")
  k_steps
  exact h6 _ _ _ _ _ (by assumption) (by assumption) (by assumption)
end
section
variable {prog : Program} {w : World} {A : Around} {h₀ : Heap} {L : Addr} {m : Str → Option Value} {env : Env}
theorem rest_indN {elt : Expr} {x : Str} {scope : Scope} {cl : List (Str × Addr)} {s : Shared} {P : Nat → Value → Prop} {Fin : List Value → List (Addr × Obj) → Prop} {n : Nat} {news : List (Addr × Obj)} (R : Nat → List Value → List (Addr × Obj) → Prop) (h0 : R 0 [] news)
    (hstep : ∀ i v I oI C oC D m₂ h tk ys news (E' K1 : Value → Shared → Prop), i < n → R i ys news → P i v → NsObj oC m₂ → m₂ x = some v → Fr h₀ L h m → News h₀ L h ((I, oI) :: (C, oC) :: (D, lst ys) :: news) →
      (∀ q oq h' tk', R (i + 1) (ys ++ [.ref q]) ((q, oq) :: news) → Fr h₀ L h' m → News h₀ L h' ((q, oq) :: (I, oI) :: (C, oC) :: (D, lst ys) :: news) → @LT.lt Nat _ I q → @LT.lt Nat _ C q → @LT.lt Nat _ D q → K1 (.ref q) { s with heap := h', toks := tk' }) →
      wpAny (model prog w) A (eval elt (compEnvC scope cl C env)) K1 E' { s with heap := h, toks := tk })
    (hfin : ∀ (ys : List Value) (news : List (Addr × Obj)), R n ys news → Fin ys news) : CompRest prog w A h₀ L m env elt x scope cl s (fun _ => True) P Fin n 0 [] news := by
  have go : ∀ k i (ys : List Value) (news : List (Addr × Obj)), i + k = n → R i ys news → CompRest prog w A h₀ L m env elt x scope cl s (fun _ => True) P Fin k i ys news := by
    intro k
    induction k with
    | zero => intro i ys news hi ho; exact CompRest.zero (hfin ys news (by have : i = n := by omega
                                                                           rw [← this]; exact ho))
    | succ k ih =>
      intro i ys news hi ho
      refine CompRest.succ fun v I oI C oC D m₂ h tk E' hP hC hm F N off hne => ?_
      refine hstep i v I oI C oC D m₂ h tk ys news E' _ (by omega) ho hP hC hm F N fun q oq h' tk' hok F' N' o1 o2 o3 => ?_
      refine ⟨h', tk', (q, oq) :: news, rfl, F', cb_drop N' ?_, ⟨⟨Nat.ne_of_gt o1, Nat.ne_of_gt o2, Nat.ne_of_gt o3⟩, off⟩, trivial, ih (i + 1) (ys ++ [.ref q]) _ (by omega) hok⟩
      exact List.forall_mem_cons.mpr ⟨.tail _ (.head _), List.forall_mem_cons.mpr ⟨.tail _ (.tail _ (.head _)), List.forall_mem_cons.mpr ⟨.tail _ (.tail _ (.tail _ (.head _))), List.forall_mem_cons.mpr ⟨.head _, fun p hp => .tail _ (.tail _ (.tail _ (.tail _ hp)))⟩⟩⟩⟩
  exact go n 0 [] news (by omega) h0
end
noncomputable def Pd (nw : List (Addr × Obj)) (v : Value) (q : Str × Str) : Prop := ∃ p t u, v = .ref p ∧ (p, tupO #[.str q.1 t, .str q.2 u]) ∈ nw
noncomputable def PdAll (nw : List (Addr × Obj)) : List Value → List (Str × Str) → Prop
  | [], [] => True
  | v :: vs, q :: qs => Pd nw v q ∧ PdAll nw vs qs
  | _, _ => False
theorem PdAll.mono {TT TT' : List (Addr × Obj)} (hs : ∀ p ∈ TT, p ∈ TT') : ∀ {vs : List Value} {qs : List (Str × Str)}, PdAll TT vs qs → PdAll TT' vs qs
  | [], [], _ => trivial
  | _ :: _, _ :: _, h => ⟨let ⟨p, t, u, e, hm⟩ := h.1; ⟨p, t, u, e, hs _ hm⟩, PdAll.mono hs h.2⟩
  | [], _ :: _, h => h.elim
  | _ :: _, [], h => h.elim
theorem PdAll.app {TT : List (Addr × Obj)} : ∀ {vs ws : List Value} {qs ps : List (Str × Str)}, PdAll TT vs qs → PdAll TT ws ps → PdAll TT (vs ++ ws) (qs ++ ps)
  | [], _, [], _, _, g => g
  | _ :: _, _, _ :: _, _, h, g => ⟨h.1, PdAll.app h.2 g⟩
  | [], _, _ :: _, _, h, _ => h.elim
  | _ :: _, _, [], _, h, _ => h.elim
noncomputable def duePM (sg a : Str) (first second : Int) (wl : List Int) (k : Int) : Str × Str := (writeF (digitsF k wl) sg first second, letterF a (digitsF k wl))
noncomputable def dueL (sg a : Str) (first second : Int) (wl : List Int) : Nat → List (Str × Str)
  | 0 => []
  | i + 1 => dueL sg a first second wl i ++ [duePM sg a first second wl (1 + (i : Int))]
section
variable {w : World} {s : Shared} {base h₀ : Heap} {L f : Addr} {cd : Value} {m mg mb : Str → Option Value} {p : Program} {loose : List Str} {mean : ExcName → Option Value} {TT : List (Addr × Obj)} {c1 c2 c3 c4 c5 c6 : Obj} {pw : Addr} {its : List Value} {wl : List Int} {cw : Nat} {a sg : Str} {t1 t2 t3 t4 : Tok} {first second : Int}
theorem due_rest {n : Nat} {news : List (Addr × Obj)} {Fin : List Value → List (Addr × Obj) → Prop} (K : Below callerA base [] h₀) (T : Top p loose mean mg mb h₀) (X : (KK w.params).In h₀)
    (d1 : c1.data = .cell (some (.str a t1))) (d2 : c2.data = .cell (some (.str sg t2))) (d3 : c3.data = .cell (some (.int first t3))) (d4 : c4.data = .cell (some (.int second t4))) (d5 : c5.data = .cell (some (.ref pw)))
    (hI : IntsAre its wl) (h4 : its.length = 7) (hp : ∀ i : Nat, i < n → pieceOk sg (digitsF (1 + (i : Int)) wl) a first second)
    (hB : ∀ p ∈ (pw, listOf its.toArray cw) :: (L + 1 + 1 + 1 + 1 + 1 + 1, c6) :: (L + 1 + 1 + 1 + 1 + 1, c5) :: (L + 1 + 1 + 1 + 1, c4) :: (L + 1 + 1 + 1, c3) :: (L + 1 + 1, c2) :: (L + 1, c1) :: [], p ∈ news)
    (hfin : ∀ ys nw, (∀ p ∈ news, p ∈ nw) → PdAll nw ys (dueL sg a first second wl n) → Fin ys nw) :
    CompRest PySem.Challenge.rw_xo0036_01.row.prog w (callerA.deeper (envOfC (Str.ofString "law") s22 L f cd)) h₀ L m (envOfC (Str.ofString "law") s22 L f cd) dueE "n" dueS (dueCl L) s (fun _ => True) (fun i v => ∃ t, v = .int (1 + (i : Int)) t) Fin n 0 [] news := by
  refine rest_indN (fun i ys nw => (∀ p ∈ news, p ∈ nw) ∧ PdAll nw ys (dueL sg a first second wl i)) ⟨fun _ h => h, trivial⟩ (fun i v I oI C oC D m₂ h tk ys nw E' K1 hi hR hP hC hm F' N' k1 => ?_) fun ys nw h => hfin ys nw h.1 h.2
  obtain ⟨t, rfl⟩ := hP
  obtain ⟨hR1, hR2⟩ := hR
  have hB' : ∀ p ∈ (pw, listOf its.toArray cw) :: (L + 1 + 1 + 1 + 1 + 1 + 1, c6) :: (L + 1 + 1 + 1 + 1 + 1, c5) :: (L + 1 + 1 + 1 + 1, c4) :: (L + 1 + 1 + 1, c3) :: (L + 1 + 1, c2) :: (L + 1, c1) :: [], p ∈ (I, oI) :: (C, oC) :: (D, lst ys) :: nw := fun p hp => .tail _ (.tail _ (.tail _ (hR1 p (hB p hp))))
  have N2 : News h₀ L h ((pw, listOf its.toArray cw) :: (L + 1 + 1 + 1 + 1 + 1 + 1, c6) :: (L + 1 + 1 + 1 + 1 + 1, c5) :: (L + 1 + 1 + 1 + 1, c4) :: (L + 1 + 1 + 1, c3) :: (L + 1 + 1, c2) :: (L + 1, c1) :: (I, oI) :: (C, oC) :: (D, lst ys) :: nw) := fun p hp => by
    rcases List.mem_append.mp (show p ∈ ((pw, listOf its.toArray cw) :: (L + 1 + 1 + 1 + 1 + 1 + 1, c6) :: (L + 1 + 1 + 1 + 1 + 1, c5) :: (L + 1 + 1 + 1 + 1, c4) :: (L + 1 + 1 + 1, c3) :: (L + 1 + 1, c2) :: (L + 1, c1) :: []) ++ ((I, oI) :: (C, oC) :: (D, lst ys) :: nw) from hp) with h9 | h9
    · exact N' p (hB' p h9)
    · exact N' p h9
  refine due_step (s := { s with heap := h, toks := tk }) K T X F' N2 (.tail _ (.head _)) hC hm d1 d2 d3 d4 d5 hI h4 (hp i hi) fun h' tk' q t' u' F'' N'' hlt => ?_
  have hI9 : ∀ y ∈ (I, oI) :: (C, oC) :: (D, lst ys) :: nw, y.1 < q := fun y hy => hlt y (by repeat (first | exact hy | apply List.mem_cons_of_mem))
  refine k1 q (tupO #[.str (writeF (digitsF (1 + (i : Int)) wl) sg first second) t', .str (letterF a (digitsF (1 + (i : Int)) wl)) u']) h' tk' ⟨fun p hp => .tail _ (hR1 p hp), ?_⟩ F'' (cb_drop N'' ?_) (hI9 _ (.head _)) (hI9 _ (.tail _ (.head _))) (hI9 _ (.tail _ (.tail _ (.head _))))
  · exact PdAll.app (hR2.mono fun p hp => .tail _ hp) ⟨⟨q, t', u', rfl, .head _⟩, trivial⟩
  · exact List.forall_mem_cons.mpr ⟨.head _, fun y hy => by repeat (first | exact hy | apply List.mem_cons_of_mem)⟩
end
end Mine
end
noncomputable section
-- WD1
open PySem PySem.W PyProof.Rows
set_option maxRecDepth 100000
set_option maxHeartbeats 0
namespace Mine
open PySem.Calls PyProof.V PySem.Spec Builtin
open PyProof.Rows.LCg PyProof.Rows.LCt PyProof.Rows.LCp
noncomputable def lcOf3 : List Stmt → Expr × Scope
  | [.Assign _ (.Call _ [.ListComp e [⟨_, _, [], _⟩] s _] _ _) _, _] => (e, s)
  | _ => (.Constant .none 0 default, default)
@[reducible] noncomputable def exAdd {x : Expr} (a b : Expr) (p : Pos) (_ : x = .BinOp a .Add b p) : Expr := .BinOp a .Add b p
@[reducible] noncomputable def lefE : Expr := exAdd _ _ _ (rfl : (lcOf3 g11).1 = .BinOp _ .Add _ _)
@[reducible] noncomputable def lefS : Scope := scOf _ _ _ _ _ (rfl : (lcOf3 g11).2 = ⟨_, _, _, _, _⟩)
theorem PdAll.get {nw : List (Addr × Obj)} : ∀ {vs : List Value} {qs : List (Str × Str)} (i : Nat) {v : Value}, PdAll nw vs qs → vs[i]? = some v → ∃ q, qs[i]? = some q ∧ Pd nw v q
  | [], _, _, _, _, h => by simp at h
  | _ :: _, [], _, _, h, _ => h.elim
  | v :: _, q :: _, 0, _, h, e => by
    cases (show some v = some _ from e)
    exact ⟨q, rfl, h.1⟩
  | _ :: vs, _ :: qs, i + 1, _, h, e => by
    obtain ⟨q, h1, h2⟩ := PdAll.get i h.2 (by simpa using e)
    exact ⟨q, by simpa using h1, h2⟩
theorem PdAll.len {nw : List (Addr × Obj)} : ∀ {vs : List Value} {qs : List (Str × Str)}, PdAll nw vs qs → vs.length = qs.length
  | [], [], _ => rfl
  | _ :: _, _ :: _, h => congrArg (· + 1) (PdAll.len h.2)
  | [], _ :: _, h => h.elim
  | _ :: _, [], h => h.elim
theorem PdAll.drop {nw : List (Addr × Obj)} : ∀ (k : Nat) {vs : List Value} {qs : List (Str × Str)}, PdAll nw vs qs → PdAll nw (vs.drop k) (qs.drop k)
  | 0, _, _, h => h
  | _ + 1, [], [], _ => trivial
  | k + 1, _ :: _, _ :: _, h => PdAll.drop k h.2
  | _ + 1, [], _ :: _, h => h.elim
  | _ + 1, _ :: _, [], h => h.elim
section
variable {w : World} {E : Value → Shared → Prop} {s : Shared} {base h₀ : Heap} {L f : Addr} {cd : Value} {m mg mb : Str → Option Value} {p : Program} {loose : List Str} {mean : ExcName → Option Value} {news : List (Addr × Obj)}
theorem lef_step {C I D : Addr} {oI oC oD : Obj} {m₂ : Str → Option Value} {x y : Str} {t u : Tok} {K1 : Value → Shared → Prop} (K : Below callerA base [] h₀) (T : Top p loose mean mg mb h₀) (X : (KK w.params).In h₀) (F : Fr h₀ L s.heap m) (N : News h₀ L s.heap ((I, oI) :: (C, oC) :: (D, oD) :: news)) (hC : NsObj oC m₂) (hx : m₂ "writing" = some (.str x t)) (hy : m₂ "letter" = some (.str y u)) (hl : x.length ≤ 5000) (hl2 : y.length ≤ 5000)
    (h1 : ∀ t h' tk', Fr h₀ L h' m → News h₀ L h' ((I, oI) :: (C, oC) :: (D, oD) :: news) → K1 (.str (x ++ y) t) { s with heap := h', toks := tk' }) :
    wpAny (model PySem.Challenge.rw_xo0036_01.row.prog w) (callerA.deeper (envOfC (Str.ofString "law") s22 L f cd)) (eval lefE (compEnvC lefS [] C (envOfC (Str.ofString "law") s22 L f cd))) K1 E s := by
  revert X
  k_fill
  intro X
  k_steps
  exact h1 _ _ _ F N
theorem lef_rest {ax : Addr} {its : Array Value} {qs : List (Str × Str)} {Fin : List Value → List (Addr × Obj) → Prop} (K : Below callerA base [] h₀) (T : Top p loose mean mg mb h₀) (X : (KK w.params).In h₀) (hS : SrcAt h₀ ax its news)
    (hP : PdAll news its.toList qs) (hq : ∀ q ∈ qs, q.1.length ≤ 5000 ∧ q.2.length ≤ 5000) (hfin : ∀ zs, StrsAre zs (qs.map fun q => q.1 ++ q.2) → Fin zs news) :
    CompRestP PySem.Challenge.rw_xo0036_01.row.prog w (callerA.deeper (envOfC (Str.ofString "law") s22 L f cd)) h₀ L m (envOfC (Str.ofString "law") s22 L f cd) lefE "writing" "letter" lefS [] s (SrcAt h₀ ax its) (fun i v => its[i]? = some v) Fin its.size 0 [] news := by
  have hn : its.size = qs.length := by rw [← hP.len]; simp
  have go : ∀ k i (zs : List Value), i + k = its.size → StrsAre zs ((qs.take i).map fun q => q.1 ++ q.2) → CompRestP PySem.Challenge.rw_xo0036_01.row.prog w (callerA.deeper (envOfC (Str.ofString "law") s22 L f cd)) h₀ L m (envOfC (Str.ofString "law") s22 L f cd) lefE "writing" "letter" lefS [] s (SrcAt h₀ ax its) (fun i v => its[i]? = some v) Fin k i zs news := by
    intro k
    induction k with
    | zero => intro i zs hi hz; exact hfin zs (by rw [List.take_of_length_le (by omega)] at hz; exact hz)
    | succ k ih =>
      intro i zs hi hz v hv
      obtain ⟨q, hq1, a, t, u, rfl, hm⟩ := hP.get i (by simpa using hv)
      refine ⟨a, _, .str q.1 t, .str q.2 u, 0, rfl, hm, rfl, rfl, fun I oI C oC D m₂ h tk E' hC hx hx2 F N off hne => ?_⟩
      obtain ⟨l1, l2⟩ := hq q (List.mem_of_getElem? hq1)
      refine lef_step (s := { s with heap := h, toks := tk }) K T X F N hC hx hx2 l1 l2 fun t' h' tk' F' N' => ?_
      refine ⟨h', tk', news, rfl, F', N', off, hS, ih (i + 1) _ (by omega) ?_⟩
      have e : qs.take (i + 1) = qs.take i ++ [q] := by rw [List.take_succ, hq1]; rfl
      rw [e, List.map_append]
      exact strsAre_app hz
  exact go its.size 0 [] (by omega) .nil
end
end Mine
end
noncomputable section
-- WG1
open PySem PySem.W PyProof.Rows
set_option maxRecDepth 100000
set_option maxHeartbeats 0
namespace Mine
open PySem.Calls Builtin
section
variable {prog : Program} {w : World} {A : Around} {E : Value → Shared → Prop} {s : Shared} {h₀ : Heap} {L r dx : Addr} {m : Str → Option Value} {news news' : List (Addr × Obj)} {P : Params} {its : Array Value} {n : Nat} {od : Obj}
theorem row_iter {Q : Value → Shared → Prop} (X : (KK P).In s.heap) (I : InstAt s.heap r (rowO dx its n) 100 (some od))
    (h : Q (.ref s.heap.objs.size) { s with heap := s.heap.push { cls := .type "list_iterator", data := .fields #[.ref r, .int 0 0] } }) : wpAny (model prog w) A (pyIter (.ref r)) Q E s := by
  have L0 := I.type (M := model prog w)
  have L1 := looks_findIn (M := model prog w) X (by kernel_rfl : findIn (KK P) (.ref 100) "__iter__" = some (some (.builtin "list.__iter__")))
  have hx := I.at_
  have hb : ∀ x, bindSpecial (.builtin "list.__iter__") (.ref x) = pure (.builtin "list.__iter__", [.ref x]) := fun x => PySem.slot_list_iter.bind (.ref x)
  unfold pyIter
  refine wpAny_bind ?_
  repeat lk
  rw [hb, pure_bind]
  have key : ∀ (Q' : Option (Value × List Value) → Shared → Prop), Q' (some (.builtin "list.__iter__", [.ref r])) s → wpAny (model prog w) A (if (model prog w).w.params.followText "special-get-raises" = true then (pure (some (Value.builtin "list.__iter__", [Value.ref r])) : Sem (Option (Value × List Value))) else (pure (some (Value.builtin "list.__iter__", [Value.ref r])) : Sem (Option (Value × List Value))).tryCatch fun x => do rule "special.get-raises-dropped"; pure none) Q' E s := by
    intro Q' hq
    split
    · exact wpAny_pure hq
    · exact wpAny_tryCatch (wpAny_pure hq)
  refine key _ ?_
  dsimp only
  rw [if_neg (by decide)]
  refine wpAny_bind ?_
  refine wpAny_call (codeAny_call_builtin PySem.slot_list_iter.plain PySem.entry_list_iter (check_slot (i := "list.__iter__") (owner := "list") (n := "__iter__") (by decide +kernel) (by decide +kernel) (inst_list X I) (args_list_iter _) ?_))
  show wpAny _ _ (do ret (← newFields "list_iterator" [.ref r, rawInt 0])) _ _ s
  refine wpAny_bind (wpAny_newObj_type (wpAny_pure ?_))
  dsimp only
  refine wpAny_pure ?_
  dsimp only
  exact wpAny_bind (wpAny_specialOf (T := "list_iterator") ⟨_, Heap.get?_push_size _ rfl, rfl⟩ PySem.slot_listiter_next.lookup (wpAny_pure h))
end
end Mine
end
noncomputable section
-- WG2
open PySem PySem.W PyProof.Rows
set_option maxRecDepth 100000
set_option maxHeartbeats 0
namespace Mine
open PySem.Calls Builtin
noncomputable def SeqAt (h : Heap) (r : Addr) (its : Array Value) : Prop := ∃ o n, h.get? r = some o ∧ o.data = .seq its n
section
variable {prog : Program} {w : World} {A : Around} {E : Value → Shared → Prop} {s : Shared}
theorem next_item {it l : Addr} {i : Nat} {items : Array Value} {x : Value} {Q : Option Value → Shared → Prop} (hit : s.heap.IsListIter it l i)
    (hl : SeqAt s.heap l items) (hx : items[i]? = some x)
    (hQ : ∀ h', h'.IsListIter it l (i + 1) → Heap.SameBut it s.heap h' → Q (some x) { s with heap := h' }) :
    wpAny (model prog w) A (pyNext (.ref it)) Q E s := by
  obtain ⟨o, ho, hc, hd⟩ := id hit
  obtain ⟨ol, nl, hol, hdl⟩ := hl
  unfold pyNext
  refine wpAny_bind (wpAny_attempt (wpAny_callSpecial?_slot (name := Str.ofString "__next__") hit.typeIs slot_listiter_next
    (wpAny_call_entry slot_listiter_next hit.typeIs entry_listiter_next ?_ (args_listiter_next _))))
  show wpAny _ _ (field (.ref it) 0 >>= _) _ _ s
  refine wpAny_bind (wpAny_field ho hd (x := .ref l) rfl ?_)
  show wpAny _ _ (if (Value.ref l == Value.none) = true then _ else _) _ _ s
  rw [if_neg (show ¬ ((Value.ref l == Value.none) = true) from Bool.false_ne_true)]
  show wpAny _ _ (field (.ref it) 1 >>= _) _ _ s
  refine wpAny_bind (wpAny_field ho hd (x := .int i 0) rfl ?_)
  show wpAny _ _ (seqItems? (.ref l) >>= _) _ _ s
  refine wpAny_bind (wpAny_seqItems hol hdl ?_)
  simp only [Int.toNat_natCast, hx]
  refine wpAny_bind (wpAny_setField ho hd (by simp) (wpAny_pure ⟨x, rfl, wpAny_pure (hQ _ ?_ (Heap.SameBut.update ..))⟩))
  exact ⟨_, Heap.get?_update_self _ ho (Obj.isFreed_of_fields (Obj.data_mapFields hd _)), (Obj.cls_mapFields ..).trans hc, by
    rw [Obj.data_mapFields hd]; simp [rawInt]⟩
theorem next_end {it l : Addr} {i : Nat} {items : Array Value} {Q : Option Value → Shared → Prop} (hh : A.handled = none)
    (hit : s.heap.IsListIter it l i) (hl : SeqAt s.heap l items) (hx : items[i]? = none)
    (hQ : ∀ h', Heap.ExtBut it s.heap h' → Q none { s with heap := h' }) : wpAny (model prog w) A (pyNext (.ref it)) Q E s := by
  obtain ⟨o, ho, hc, hd⟩ := id hit
  obtain ⟨ol, nl, hol, hdl⟩ := hl
  unfold pyNext
  refine wpAny_bind (wpAny_attempt (wpAny_callSpecial?_slot (name := Str.ofString "__next__") hit.typeIs slot_listiter_next
    (wpAny_call_entry slot_listiter_next hit.typeIs entry_listiter_next ?_ (args_listiter_next _))))
  show wpAny _ _ (field (.ref it) 0 >>= _) _ _ s
  refine wpAny_bind (wpAny_field ho hd (x := .ref l) rfl ?_)
  show wpAny _ _ (if (Value.ref l == Value.none) = true then _ else _) _ _ s
  rw [if_neg (show ¬ ((Value.ref l == Value.none) = true) from Bool.false_ne_true)]
  show wpAny _ _ (field (.ref it) 1 >>= _) _ _ s
  refine wpAny_bind (wpAny_field ho hd (x := .int i 0) rfl ?_)
  show wpAny _ _ (seqItems? (.ref l) >>= _) _ _ s
  refine wpAny_bind (wpAny_seqItems hol hdl ?_)
  simp only [Int.toNat_natCast, hx]
  refine wpAny_bind (wpAny_rule (wpAny_bind (wpAny_setField ho hd (by simp) ?_)))
  show wpAny _ _ (newExc (.type "StopIteration") [] >>= _) _ _ _
  refine wpAny_bind ?_
  simp only [newExc, newTuple]
  refine wpAny_bind (wpAny_newObj_type ?_ (by size_fits))
  refine wpAny_bind (m := firstArgMember _ _) (wpAny_of_eq (a := Value.none) (by first | rfl | (simp only [firstArgMember]; rfl)) ?_)
  refine wpAny_newObj_type ?_ (by size_fits)
  simp only [raiseNew]
  refine wpAny_bind (wpAny_handled ?_)
  rw [show A.in1.handled = none from hh]
  refine wpAny_bind (wpAny_pure (wpAny_throw ?_))
  refine wpAny_bind (wpAny_isInstance (T := "StopIteration") (b := true) ⟨_, Heap.get?_push_size _ rfl, rfl⟩ isSubtype_stop ?_)
  exact wpAny_pure (hQ _ (((Heap.SameBut.update ..).extBut.push _).push _))
theorem SeqAt.at {h h' : Heap} {r : Addr} {its : Array Value} (x : SeqAt h r its) (k : ∀ o, h.get? r = some o → h'.get? r = some o) : SeqAt h' r its :=
  let ⟨o, n, e, d⟩ := x; ⟨o, n, k o e, d⟩
theorem walks_row (hh : A.handled = none) (I ax : Addr) (hne : ax ≠ I) (items : Array Value) (Ts : Nat → Addr) (vals : Nat → Array Value)
    (hit : ∀ j, j < items.size → items[j]? = some (.ref (Ts j))) (hTI : ∀ j, j < items.size → Ts j ≠ I) :
    WalksU prog w A I (I :: ax :: (List.range items.size).map Ts) [I] items.size (fun j v => j < items.size ∧ v = vals j)
      (fun j h => h.IsListIter I ax j ∧ SeqAt h ax items ∧ ∀ k, k < items.size → h.IsTuple (Ts k) (vals k))
      (fun j T h => (j < items.size ∧ T = Ts j) ∧ h.IsListIter I ax (j + 1) ∧ SeqAt h ax items ∧ ∀ k, k < items.size → h.IsTuple (Ts k) (vals k)) where
  sub := fun b hb => by simp at hb; simp [hb]
  frame := fun _ _ _ st hk => ⟨st.1.at fun o e => hk I (by simp) o e, st.2.1.at fun o e => hk ax (by simp) o e,
    fun k hk' => (st.2.2 k hk').at fun o e => hk (Ts k) (List.mem_cons_of_mem _ (List.mem_cons_of_mem _ (List.mem_map.mpr ⟨k, List.mem_range.mpr hk', rfl⟩))) o e⟩
  item := fun i s Q E hi st hQ => by
    refine next_item st.1 st.2.1 (x := .ref (Ts i)) (hit i hi) fun h' hit' hs' => ?_
    have tup : ∀ k, k < items.size → h'.IsTuple (Ts k) (vals k) := fun k hk' => (st.2.2 k hk').extBut hs'.extBut (hTI k hk')
    exact hQ (Ts i) (vals i) h' s.toks ⟨hi, rfl⟩ (tup i hi) ⟨⟨hi, rfl⟩, hit', st.2.1.at (fun o e => hs'.extBut ax o hne e), tup⟩ fun b o hb e => hs'.extBut b o (fun h => hb (by simp [h])) e
  go := fun _ _ _ _ _ s Q _ hm hQ => wpAny_letOwnedTupleGo_listiter hm.2.1 (hQ s.heap hm.2 fun _ _ _ e => e)
  apart := fun j T _ hm hmem => by
    rcases List.mem_cons.mp hmem with e | e
    · exact hTI j hm.1.1 (hm.1.2 ▸ e)
    · cases e
  done := fun s Q E st hQ => next_end hh st.1 st.2.1 (by simp) fun h' he' => hQ h' s.toks fun b o hb e => he' b o (fun h => hb (by simp [h])) e
  self := fun _ _ _ _ st hQ => wpAny_pyIter_listiter st.1 hQ
end
end Mine
end
noncomputable section
-- WG3
open PySem PySem.W PyProof.Rows
set_option maxRecDepth 100000
set_option maxHeartbeats 0
namespace Mine
open PySem.Calls PyProof.V PySem.Spec Builtin
noncomputable def geSc : List Stmt → Scope
  | [.Return (some (.Call _ (.GeneratorExp _ _ sc _ :: _) _ _)) _] => sc
  | _ => default
@[reducible] noncomputable def sg4 : Scope := scOf _ _ _ _ _ (rfl : geSc bm4 = ⟨_, _, _, _, _⟩)
@[reducible] noncomputable def sg5 : Scope := scOf _ _ _ _ _ (rfl : geSc bm5 = ⟨_, _, _, _, _⟩)
section
variable {M : Model} {A : Around} {E : Value → Shared → Prop} {s : Shared} {h₀ : Heap} {K : Frag} {C : Addr} {m mg mb : Str → Option Value} {p : Program} {loose : List Str} {scope : Scope} {code : Value} {cl : List (Str × Addr)} {env : Env} {x : Str} {pos : Pos} {v : Value} {Q : Value → Shared → Prop}
theorem nameGE_K (F : Fr h₀ C s.heap m) (X : K.In h₀) (T : TopRead p loose mg mb h₀) (e : nsIn K mainGlobals x = some (some v)) (h : Q v s)
    (hg : env.globals = mainGlobals := by rfl) (hk : scope.kind = .function := by rfl) (hx : (genEnv scope cl C code builtinsNs env).kindOf x = some .globalImplicit := by rfl) (hd : (x == ("__debug__" : Str)) = false := by decide) :
    wpAny M A (eval (.Name x pos) (genEnv scope cl C code builtinsNs env)) Q E s := Name_function_global hk hx (loadGlobal_global (env := genEnv scope cl C code builtinsNs env) (show s.heap.Ns env.globals mg from hg ▸ T.g.keeps F.keep) (mg_of X T.g e) h) hd
theorem nameGE_B (F : Fr h₀ C s.heap m) (X : K.In h₀) (T : TopRead p loose mg mb h₀) (e : nsIn K mainGlobals x = some none) (hv : bootBuiltins x = some v) (hn : x ≠ "__name__") (h : Q v s)
    (hg : env.globals = mainGlobals := by rfl) (hk : scope.kind = .function := by rfl) (hx : (genEnv scope cl C code builtinsNs env).kindOf x = some .globalImplicit := by rfl) (hd : (x == ("__debug__" : Str)) = false := by decide) :
    wpAny M A (eval (.Name x pos) (genEnv scope cl C code builtinsNs env)) Q E s :=
  Name_function_global hk hx (loadGlobal_builtin (env := genEnv scope cl C code builtinsNs env) (show s.heap.Ns env.globals mg from hg ▸ T.g.keeps F.keep) (mg_none_of X T.g e) (T.b.keeps F.keep) ((T.builtins x hn).trans hv) h) hd
end
local macro_rules | `(tactic| walk_at "eval Name") => `(tactic| (k_here; k_dflt (first
  | (refine' nameGE_K ?k0 ?k1 ?k2 ?k3 ?_; (case k0 => k_asm); (case k1 => k_asm); (case k2 => exact topRead_of (by assumption)); (case k3 => k_is); k_whole)
  | (refine' nameGE_B ?k0 ?k1 ?k2 ?k3 ?k4 ?k5 ?_; (case k0 => k_asm); (case k1 => k_asm); (case k2 => exact topRead_of (by assumption)); (case k3 => k_is); (case k4 => boot_by_name); (case k5 => decide); k_whole)
  | (refine' ldVarG ?k1 ?k2 ?_; (case k1 => k_asm); (case k2 => assumption); k_whole)
  | fail "no")))
theorem newTuple_k {M : Model} {A : Around} {E : Value → Shared → Prop} {s : Shared} {h₀ : Heap} {L : Addr} {m : Str → Option Value} {vs : List Value} {Q : Value → Shared → Prop} (F : Fr h₀ L s.heap m)
    (h : ∀ l h', Fr h₀ L h' m → News h₀ L h' [(l, tupO vs.toArray)] → (∀ b o, s.heap.get? b = some o → h'.get? b = some o) → Q (.ref l) { s with heap := h' }) (hsz : vs.length ≤ sizeLine := by size_fits) : wpAny M A (newTuple vs) Q E s := by
  simp only [newTuple]
  refine wpAny_newObj_type ?_ hsz
  have N := (show News h₀ L s.heap [] from fun _ h => nomatch h).push F (tupO vs.toArray)
  exact h _ _ (F.push _) N (fun b o e => Heap.get?_push_of_some _ e)
local macro_rules | `(tactic| walk_at "newTuple") => `(tactic| (k_here; k_dflt (refine' newTuple_k ?k1 ?_; (case k1 => k_asm); k_whole); intro l' h' F' N' kp'))
section
variable {w : World} {A : Around} {E : Value → Shared → Prop} {s : Shared} {h₀ : Heap} {C : Addr} {m mg mb : Str → Option Value} {mean : ExcName → Option Value} {p : Program} {loose : List Str} {code : Value} {cn : Str} {L a : Addr} {ccd : Value} {x y : Str} {t u : Tok} {p1 p2 p3 p4 p5 p6 p7 : Pos}
variable (F : Fr h₀ C s.heap m) (X : (KK w.params).In h₀) (T : Top p loose mean mg mb h₀) (e1 : m "fws" = some (.str x t)) (e2 : m "part" = some (.str y u))
include F X T e1 e2
theorem elt_len (hx : x.length ≤ 10000) (hy : y.length ≤ 10000) : wpAny (model PySem.Challenge.rw_xo0036_01.row.prog w) A (eval (.BinOp (.Call (.Name "len" p1) [.Name "fws" p2] [] p3) .Add (.Call (.Name "len" p4) [.Name "part" p5] [] p6) p7) (genEnv sg4 [] C code builtinsNs (envOf cn sm4 L a ccd)))
    (fun v s₃ => (∃ tk, v = .int ((x.length : Int) + (y.length : Int)) tk) ∧ Keeps s s₃) E s := by
  revert hx hy e2 e1 T X F
  k_fill
  intro F X T e1 e2 hx hy
  k_steps
  exact ⟨_, _, rfl, fun _ _ e => e⟩
theorem elt_join (N : News h₀ C s.heap []) (hx : x.length ≤ 10000) (hy : y.length ≤ 10000) : wpAny (model PySem.Challenge.rw_xo0036_01.row.prog w) A (eval (.Call (.Attribute (.Name "EMPTYSTRING" ⟨27, 33, 27, 44⟩) "join" ⟨27, 33, 27, 49⟩) [.Tuple [.Name "fws" ⟨27, 51, 27, 54⟩, .Name "part" ⟨27, 56, 27, 60⟩] 0 ⟨27, 50, 27, 61⟩] [] ⟨27, 33, 27, 62⟩) (genEnv sg5 [] C code builtinsNs (envOf cn sm5 L a ccd)))
    (fun v s₃ => (∃ tk, v = .str (Txt.join "" [x, y]) tk) ∧ Keeps s s₃) E s := by
  revert hx hy N e2 e1 T X F
  k_fill
  intro F X T e1 e2 N hx hy
  k_steps
  exact ⟨_, _, rfl, by assumption⟩
end
end Mine
end
noncomputable section
-- WG4
open PySem PySem.W PyProof.Rows
set_option maxRecDepth 100000
set_option maxHeartbeats 0
namespace Mine
open PySem.Calls PyProof.V PySem.Spec Builtin
theorem passing_all (n : Nat) : passing (fun _ => true) n 0 = List.range n := by
  simp [passing]
section
variable {prog : Program} {w : World} {A : Around} {E : Value → Shared → Prop} {s : Shared} {h₀ : Heap} {L r dx P c : Addr} {m mg mb : Str → Option Value} {mean : ExcName → Option Value} {p : Program} {loose : List Str} {news : List (Addr × Obj)} {g : Obj → List (Addr × Obj)} {its : Array Value} {n : Nat} {od : Obj}
  {cn : Str} {cs : Scope} {a : Addr} {elt : Expr} {pa pb pt psl pos : Pos} {kt : Nat} {scope : Scope} {Fv : Nat → Value → Prop} {Q : Value → Shared → Prop} {Ts : Nat → Addr} {vals : Nat → Array Value}
theorem gen_row (F : Fr h₀ L s.heap m) (X : (KK w.params).In h₀) (N : News h₀ L s.heap news) (T : Top p loose mean mg mb h₀) (C : CodeHd h₀ c P) (U : UpdF P (tabObj #[]) news g) (hs : m "self" = some (.ref r))
    (hr : (r, rowO dx its n) ∈ news) (hd : (dx, od) ∈ news) (hit : ∀ j, j < its.size → its[j]? = some (.ref (Ts j))) (htup : ∀ j, j < its.size → (Ts j, tupO (vals j)) ∈ news) (hsz : ∀ j, j < its.size → ∃ va vb, vals j = #[va, vb])
    (hh : A.handled = none) (hroom : A.depth < recursionLimit) (G : AllBare s.gens) (hco : scope.isCoroutine = false) (hcell : ∀ y ∈ scope.names, y.2 ≠ .cell) (hclos : closureFor scope (envOf cn cs L a (.ref c)) = pure []) (h0 : scope.names.lookup (".0" : Str) = some NameKind.local)
    (hxa : scope.names.lookup ("fws" : Str) = some NameKind.local) (hxb : scope.names.lookup ("part" : Str) = some NameKind.local) (hkind : scope.kind = .function) (hkc : cs.kind = .function) (hself : (envOf cn cs L a (.ref c)).kindOf "self" = some .local) (hfold : ∀ x, genFold (.Name "self" psl) (envOf cn cs L a (.ref c)) x = pure x)
    (he : ∀ i, i < its.size → ∀ va vb, vals i = #[va, vb] → ∀ A' E' s₂ C' code m₂, Fr h₀ C' s₂.heap m₂ → m₂ "fws" = some va → m₂ "part" = some vb → wpAny (model prog w) A' (eval elt (genEnv scope [] C' code builtinsNs (envOf cn cs L a (.ref c)))) (fun y s₃ => Fv i y ∧ Keeps s₂ s₃) E' s₂)
    (h : ∀ ps a' K h' tk' gs', Fr h₀ L h' m → News h₀ L h' (g (tabObj ps)) → AllBare gs' → L ≤ K → (∀ q ∈ g (tabObj ps), q.1 ≤ K) → Gen prog w A K a' its.size Fv { s with heap := h', toks := tk', gens := gs' } → Q (.ref a') { s with heap := h', toks := tk', gens := gs' }) :
    wpAny (model prog w) A (eval (.GeneratorExp elt [⟨.Tuple [.Name "fws" pa, .Name "part" pb] kt pt, .Name "self" psl, [], 0⟩] scope pos) (envOf cn cs L a (.ref c))) Q E s := by
  obtain ⟨own, rest, rfl, hgr, h1, h2⟩ := U.split
  have hm := N (P, tabObj #[]) (List.mem_append_right _ (.head _))
  have hPlt : P < s.heap.objs.size := Heap.lt_size hm.1
  have hgs := T.g.keeps F.keep
  obtain ⟨bm, ob, b1, b2, b3, b4, b5, b6⟩ := T.bmain
  have hgP : mainGlobals ≠ P := fun q => by
    obtain ⟨o, es, ep, e, hd, _⟩ := hgs
    rw [q, hm.1] at e; cases e; cases hd
  have hbP : bm ≠ P := fun q => by
    have e := F.keep _ _ b3
    rw [q, hm.1] at e; cases e; cases b4
  have hbG : bm ≠ mainGlobals := fun q => by
    obtain ⟨o, es, ep, e, hd, _⟩ := T.g
    rw [q, e] at b3; cases b3; rw [hd] at b6; cases b6
  have hrP : r ≠ P := fun q => by
    have e := (N _ hr).1
    rw [q, hm.1] at e; cases e
  have hTP : ∀ j, j < its.size → Ts j ≠ P := fun j hj q => by
    have e := (N _ (htup j hj)).1
    rw [q, hm.1] at e; cases e
  have hLs : L < s.heap.objs.size := F.ns.lt
  have hlim : s.heap.NoLimit := Heap.NoLimit.keeps T.nolimit F.keep
  have hcP : cStatics ≠ P := fun e => by
    obtain ⟨_, hns, _⟩ := hlim
    obtain ⟨o, es, ep, ho, hd, _⟩ := hns
    rw [e, hm.1] at ho; cases ho; cases hd
  have hclt : cStatics < s.heap.objs.size := let ⟨_, hn, _⟩ := hlim; hn.lt
  have hab : ("fws" : Str) ≠ ("part" : Str) := by decide
  have hdb : (("self" : Str) == ("__debug__" : Str)) = false := by decide
  refine wpAny_GeneratorExp_walksQT hh hco hclos hcell h0 hxa hxb hab hkind hroom ?_ hfold
  refine wpAny_Name (wpAny_loadName_local hkc hself F.ns hs ?_) hdb
  refine row_iter (X.keeps F.keep) (rowInst N hr hd) ?_
  have k2 : ∀ b o, s.heap.get? b = some o → (s.heap.push { cls := .type "list_iterator", data := .fields #[.ref r, .int 0 0] }).get? b = some o := fun b o e => Heap.get?_push_of_some _ e
  refine ⟨hlim.push _, wpAny_genexprCodeX rfl ((C.keeps fun b o e => k2 b o (F.keep b o e)).code (k2 _ _ hm.1) trivial) ((C.keeps fun b o e => k2 b o (F.keep b o e)).tab (k2 _ _ hm.1)) rfl fun c' h₃ tk₃ hx₃ hge hlt hcode₃ _ htab₃ _ => ?_⟩
  have hge' : s.heap.objs.size + 1 ≤ c' := by
    have := hge
    rw [Heap.size_push] at this
    exact this
  have k3 : ∀ b o, b ≠ P → s.heap.get? b = some o → h₃.get? b = some o := fun b o hb e => hx₃ b o hb (k2 b o e)
  refine wpAny_builtinsFor ((hgs.push _).extBut hx₃ hgP) b1 b2 (k3 _ _ hbP (F.keep _ _ b3)) b4 b5 b6 ?_
  have hI3 : h₃.get? s.heap.objs.size = some { cls := .type "list_iterator", data := .fields #[.ref r, .int 0 0] } := hx₃ _ _ (Nat.ne_of_gt hPlt) (Heap.get?_push_size _ rfl)
  have old : ∀ b o, h₀.get? b = some o → h₃.get? b = some o := fun b o e => k3 b o (fun q => by rw [q, hm.2.2] at e; cases e) (F.keep b o e)
  have hs3 : s.heap.objs.size < h₃.objs.size := by omega
  refine ⟨s.heap.objs.size, _, _, its.size, _, _, _, (fun _ => true), Fv, rfl, fun A' hA => walks_row hA s.heap.objs.size r (Nat.ne_of_lt (Heap.lt_size (N _ hr).1)) its Ts vals hit (fun j hj => Nat.ne_of_lt (Heap.lt_size (N _ (htup j hj)).1)), (fun i v hv => hv.2 ▸ hsz i hv.1),
    ⟨⟨_, hI3, rfl, rfl⟩, ⟨_, n, k3 _ _ hrP (N _ hr).1, rfl⟩, fun k hk => ⟨_, k3 _ _ (hTP k hk) (N _ (htup k hk)).1, rfl, _, rfl⟩⟩, ?_, (hlim.push _).extBut hx₃ hcP, ?_, ?_, ?_⟩
  · intro b hb
    rcases List.mem_cons.mp hb with rfl | hb
    · exact hs3
    rcases List.mem_cons.mp hb with rfl | hb
    · exact Nat.lt_trans (Heap.lt_size (N _ hr).1) hs3
    · obtain ⟨j, hj, rfl⟩ := List.mem_map.mp hb
      exact Nat.lt_trans (Heap.lt_size (N _ (htup j (List.mem_range.mp hj))).1) hs3
  · intro hm'
    rcases List.mem_cons.mp hm' with e | e
    · exact absurd hclt (by rw [e]; exact Nat.lt_irrefl _)
    · cases e
  · intro href hhref
    refine ⟨fun A' E' i va vb s₂ m₂ _ hP hn _ _ _ => ?_, fun A' E' i va vb s₂ m₂ _ hP _ hn e1 e2 hk => ?_⟩
    · rw [List.forIn_nil]
      exact wpAny_pure ⟨rfl, _, _, rfl, fun _ _ e => e⟩
    · refine he i hP.1 va vb hP.2.symm A' E' s₂ h₃.objs.size (.ref c') m₂ ⟨hn, fun b o e => ?_, Nat.le_of_lt (Nat.lt_of_le_of_lt F.above (Nat.lt_trans hLs hs3))⟩ e1 e2
      have hb : b < s.heap.objs.size := Nat.lt_of_lt_of_le (Heap.lt_size e) (Nat.le_of_lt (Nat.lt_of_le_of_lt F.above hLs))
      exact hk b (List.mem_range.mpr (Nat.lt_trans hb hs3)) (fun q => by rcases List.mem_cons.mp q with q | q; exact absurd hb (by rw [q]; exact Nat.lt_irrefl _); cases q) o (hhref b o (old b o e))
  · intro a' h₅ tk gs hgb hag hsz₅ hk₅ W hat
    have fresh : ∀ b, L < b → h₀.get? b = none := fun b hb => Heap.get?_none_of_le (Nat.le_trans F.above (Nat.le_of_lt hb))
    have hg5 : ∀ q ∈ g (tabObj (#[] ++ #[rawInt pos.line, rawInt pos.col, .ref c'])), q.1 < s.heap.objs.size ∧ h₅.get? q.1 = some q.2 ∧ q.1 ≠ L ∧ h₀.get? q.1 = none := fun q hq => by
      rw [hgr] at hq
      rcases List.mem_append.mp hq with hq | hq
      · have n := N q (List.mem_append_left _ hq)
        exact ⟨Heap.lt_size n.1, hk₅ _ _ (k3 _ _ (h1 q hq) n.1), n.2⟩
      · rcases List.mem_cons.mp hq with rfl | hq
        · exact ⟨hPlt, hk₅ _ _ htab₃.2, hm.2⟩
        · have n := N q (List.mem_append_right _ (.tail _ hq))
          exact ⟨Heap.lt_size n.1, hk₅ _ _ (k3 _ _ (h2 q hq) n.1), n.2⟩
    have e0 : passing (fun _ => true) its.size 0 = List.range its.size := passing_all _
    refine h _ a' (s.heap.objs.size - 1) h₅ tk _ ⟨((F.ns.push _).extBut hx₃ hm.2.1.symm).keeps hk₅, fun b o e => hk₅ _ _ (old b o e), F.above⟩ (fun q hq => (hg5 q hq).2) (G.push hgb) (Nat.le_sub_one_of_lt hLs) (fun q hq => Nat.le_sub_one_of_lt (hg5 q hq).1) ?_
    have e1 : its.size = (passing (fun _ => true) its.size 0).length := by rw [e0, List.length_range]
    rw [e1]
    refine Gen.imp (F := fun j y => ∃ i, (passing (fun _ => true) its.size 0)[j]? = some i ∧ Fv i y) ⟨_, _, _, _, W, hat, (fun i s' st => st.1.typeIs), List.mem_cons_self, ?_, ?_⟩ ?_
    · intro b hb
      show b < h₅.objs.size
      rw [hsz₅]
      rcases List.mem_cons.mp hb with rfl | hb
      · exact Nat.lt_succ_self _
      · rcases List.mem_cons.mp hb with rfl | hb
        · exact Nat.lt_succ_of_lt hag
        · exact Nat.lt_succ_of_lt (Nat.lt_trans (List.mem_range.mp hb) hag)
    · intro b hb
      rcases List.mem_cons.mp hb with rfl | hb
      · exact Nat.lt_of_le_of_lt (Nat.sub_le _ _) hs3
      · rcases List.mem_cons.mp hb with e | e
        · rw [e]; exact Nat.sub_lt (Nat.lt_of_le_of_lt (Nat.zero_le _) hLs) Nat.one_pos
        · cases e
    · rintro j y ⟨i, hi, hf⟩
      rw [e0] at hi
      have : j = i := by
        rw [List.getElem?_range] at hi
        · cases hi; rfl
        · have := (List.getElem?_eq_some_iff.mp hi).1
          simpa using this
      rw [this]; exact hf
end
end Mine
end
noncomputable section
-- WG5
open PySem PySem.W PyProof.Rows
set_option maxRecDepth 100000
set_option maxHeartbeats 0
namespace Mine
open PySem.Calls PyProof.V PySem.Spec Builtin
noncomputable def ClaimG (w : World) (mean : ExcName → Option Value) (mg mb : Str → Option Value) (f : Addr) (news : List (Addr × Obj)) (pre : Prop) (vs : List Value) (Post : Value → List (Addr × Obj) → Prop) : Prop :=
  ∀ (p : Program) (loose : List Str) (dp un : Nat) (gd : Option (List Code)) (cn : Str) (cs : Scope) (a : Addr) (ccd : Value) (cl : List (Str × Addr)) (outer : List Env) (A₀ : Around) (base h₀ : Heap) (L : Addr) (m : Str → Option Value) (s : Shared) (Q E : Value → Shared → Prop),
    Below A₀ base outer h₀ → Fr h₀ L s.heap m → (KK w.params).In h₀ → News h₀ L s.heap news → Top p loose mean mg mb h₀ → cs.kind = .function →
    pre → dp + 2 < recursionLimit → un + 16 < cLine → AllBare s.gens → (∀ v news' h' tk' gs', Post v news' → Fr h₀ L h' m → News h₀ L h' news' → AllBare gs' → Q v { s with heap := h', toks := tk', gens := gs' }) →
      wpAny (model PySem.Challenge.rw_xo0036_01.row.prog w) (ktrTop dp un gd cn cs L a ccd cl outer) (call (.ref f) vs) Q E s
section
variable {prog : Program} {w : World} {A : Around} {E : Value → Shared → Prop} {s : Shared}
theorem args_sum2 (a b : Value) : argsOk "sum" ⟨[a, b], []⟩ := by unfold argsOk; kernel_rfl
theorem call_sum0 {x : Value} {tv : Tok} {Q : Value → Shared → Prop}
    (h : wpAny (model prog w) A.in1 (pyIter x) (fun it s₂ => ∃ I fp wr G n P St val, it = .ref I ∧ WalksS prog w A.in1 I fp wr G n P St ∧ St 0 s₂ ∧ (∀ b ∈ fp, b < s₂.heap.objs.size) ∧
      (∀ i v, P i v → ∃ t, v = .int (val i) t) ∧
      ∀ s' t', Moved wr G s₂ s' → Q (.int (preSum val n) t') s') E s) :
    wpAny (model prog w) A (call (.builtin "sum") [x, .int 0 tv]) Q E s := by
  refine call_function_tree F.kind_sum F.plain_sum F.entry_sum (args_sum2 _ _) ?_
  unfold Builtin.«sum»
  simp only [List.length_cons, List.length_nil]
  rw [if_neg (by decide)]
  refine wpAny_bind (wpAny_of_eq (show Builtin.Builtins.bindParams "sum" ["start"] 0 ⟨[.int 0 tv], []⟩ = pure [some (.int 0 tv)] from rfl) ?_)
  refine wpAny_bind (wpAny_mono h (fun it s₂ h₂ => ?_) fun _ _ e => e)
  obtain ⟨I, fp, wr, G, n, P, St, val, rfl, W, hst, hfp, hval, hQ⟩ := h₂
  refine wpAny_bind (wpAny_rule ?_)
  refine wpAny_bind (wpAny_mkInt ?_)
  refine wpAny_bind (wpAny_pure ?_)
  simp only [List.forIn_cons, List.forIn_nil]
  refine wpAny_bind (wpAny_bind (wpAny_bind (wpAny_isInstance (T := "int") (b := false) (typeIs_int _ _ _) PySem.sub_int_str ?_)))
  simp only [Bool.false_eq_true, if_false]
  refine wpAny_pure (wpAny_bind (wpAny_bind (wpAny_isInstance (T := "int") (b := false) (typeIs_int _ _ _) PySem.sub_int_bytes ?_)))
  simp only [Bool.false_eq_true, if_false]
  refine wpAny_pure (wpAny_bind (wpAny_bind (wpAny_isInstance (T := "int") (b := false) (typeIs_int _ _ _) PySem.sub_int_bytearray ?_)))
  simp only [Bool.false_eq_true, if_false]
  refine wpAny_pure (wpAny_pure ?_)
  refine wpAny_bind (wpAny_newObj_type ?_)
  have hSf : s₂.heap.objs.size ∉ fp := fun hm => Nat.lt_irrefl _ (hfp _ hm)
  refine wpAny_pure ⟨plainId_quiet F.plain_sum_loop _, codeAny_sum_loopAnyS W val hval s₂.heap.objs.size hSf n 0 _ s₂.toks 0 0 (.inl rfl) rfl (Nat.zero_le _)
    (W.frame 0 s₂ _ _ hst (by first | exact Nat.le_refl _ | exact Nat.le_succ _ | omega) fun b _ o e => Heap.get?_push_of_some _ e) (Heap.get?_push_size _ rfl) fun s' t' hm => ?_⟩
  exact hQ s' t' (hm.drop_new (by first | exact Nat.le_refl _ | exact Nat.le_succ _ | omega))
variable {h₀ : Heap} {L K a : Addr} {m : Str → Option Value} {n : Nat} {Fv : Nat → Value → Prop} {Q : Value → Shared → Prop}
theorem moved_eq {wr : List Addr} {G : Array GenState → Array GenState → Prop} {s s' : Shared} (h : Moved wr G s s') : s' = { s with heap := s'.heap, gens := s'.gens, toks := s'.toks } := by
  obtain ⟨_, _, d, o, _⟩ := h
  cases s; cases s'
  simp only at d o
  subst d o
  rfl
theorem sum0_rows {tv : Tok} {news : List (Addr × Obj)} (Fh : Fr h₀ L s.heap m) (N : News h₀ L s.heap news) (hN : ∀ q ∈ news, q.1 ≤ K) (G : AllBare s.gens) (X : Gen prog w A K a n Fv s) (hLK : L ≤ K) (val : Nat → Int) (hval : ∀ j v, Fv j v → ∃ t, v = .int (val j) t)
    (hQ : ∀ h' tk' gs' t', Fr h₀ L h' m → News h₀ L h' news → AllBare gs' → Q (.int (preSum val n) t') { s with heap := h', toks := tk', gens := gs' }) : wpAny (model prog w) A (call (.builtin "sum") [.ref a, .int 0 tv]) Q E s := by
  obtain ⟨fp, wr, g, St, W, hst, _, _, hfp, hwr⟩ := X
  have W := W.in4_1
  refine call_sum0 (W.self 0 _ _ _ hst ⟨a, _, _, _, _, _, _, val, rfl, W, hst, hfp, hval, fun s' t' hm => ?_⟩)
  have kp : ∀ b o, b ≤ K → s.heap.get? b = some o → s'.heap.get? b = some o := fun b o hb e => hm.heap b o (fun hmem => Nat.lt_irrefl _ (Nat.lt_of_lt_of_le (hwr b hmem) hb)) e
  have key := hQ s'.heap s'.toks s'.gens t' (Fh.moved hm fun b hb => Nat.lt_of_le_of_lt hLK (hwr b hb)) (fun q hq => ⟨kp _ _ (hN q hq) (N q hq).1, (N q hq).2⟩) (G.movedS hm)
  rw [← moved_eq hm] at key
  exact key
theorem join_rows' {sep : Str} {t : Tok} {news : List (Addr × Obj)} (Fh : Fr h₀ L s.heap m) (N : News h₀ L s.heap news) (hN : ∀ q ∈ news, q.1 ≤ K) (G : AllBare s.gens) (X : Gen prog w A K a n Fv s) (hLK : L ≤ K) (tx : Nat → Str) (htx : ∀ j v, Fv j v → ∃ u, v = .str (tx j) u)
    (hok : JoinOk sep ((List.range n).map tx) = true) (hsz : n ≤ sizeLine)
    (hQ : ∀ h' tk' gs' t', Fr h₀ L h' m → News h₀ L h' news → AllBare gs' → Q (.str (Txt.join sep ((List.range n).map tx)) t') { s with heap := h', toks := tk', gens := gs' }) : wpAny (model prog w) A (call (.builtin "str.join") [.str sep t, .ref a]) Q E s := by
  obtain ⟨fp, wr, g, St, W, hst, hT, ha, hfp, hwr⟩ := X
  have W := W.in4_2
  refine SC.joinGen W hT hst hfp ha (fun j v hv => let ⟨u, e⟩ := htx j v hv; ⟨_, u, e⟩) (fun s' lt hm hacc => ?_) hsz
  have hl : lt.map (·.1) = (List.range n).map tx := by
    apply List.ext_getElem?
    intro j
    have hsz : lt.length = n := by simpa [strValues] using hacc.1
    by_cases hj : j < n
    · have hj' : j < lt.length := hsz ▸ hj
      obtain ⟨u, hv⟩ := htx j _ (hacc.2 j (.str lt[j].1 lt[j].2) (by simp [strValues, List.getElem?_eq_getElem hj']))
      injection hv with h1 _
      simp [List.getElem?_eq_getElem hj', hj, h1]
    · rw [List.getElem?_eq_none (by simpa [hsz] using Nat.le_of_not_lt hj), List.getElem?_eq_none (by simpa using Nat.le_of_not_lt hj)]
  rw [hl]
  have kp : ∀ b o, b ≤ K → s.heap.get? b = some o → s'.heap.get? b = some o := fun b o hb e => hm.heap b o (fun hmem => Nat.lt_irrefl _ (Nat.lt_of_lt_of_le (hwr b hmem) hb)) e
  refine ⟨hok, fun t' k => ?_⟩
  have key := hQ s'.heap k s'.gens t' (Fh.moved hm fun b hb => Nat.lt_of_le_of_lt hLK (hwr b hb)) (fun q hq => ⟨kp _ _ (hN q hq) (N q hq).1, (N q hq).2⟩) (G.movedS hm)
  have e : ({ s with heap := s'.heap, gens := s'.gens, toks := k } : Shared) = { s' with toks := k } := by
    have := moved_eq hm
    rw [this]
  rw [e] at key
  exact key
end
end Mine
end
noncomputable section
open PySem PySem.W PyProof.Rows
namespace Mine
open PySem.Calls PyProof.V PySem.Spec Builtin
local macro_rules | `(tactic| walk_at "eval Name") => `(tactic| (k_here; name_kind "local"; k_dflt (first | (refine' ldLoc ?k1 ?k2 ?_ ?k3 ?k4; (case k1 => k_asm); (case k2 => assumption); (case k3 => rfl); (case k4 => rfl); k_whole) | fail "no")))
section
-- LS1
set_option maxRecDepth 100000
set_option maxHeartbeats 0
section
variable {w : World} {mean : ExcName → Option Value} {mg mb : Str → Option Value} {p : Program} {loose : List Str} {base h₀ : Heap} {s : Shared} {L f l : Addr} {cd : Value} {m : Str → Option Value} {Q : Flow → Shared → Prop} {E : Value → Shared → Prop} {its : List Value} {ns : List Int} {tabs : List (Addr × Obj)}
variable {c1 c2 c3 c4 c5 c6 : Obj} {code : Int} {t : Tok} {D : Addr} {ws : List Value} {nD : Nat}
noncomputable def drawnF (ns : List Int) : List Int := List.map (fun k' => k'.fmod (10 ^ Int.toNat 6)) (List.take 10 ns)
noncomputable def codeF (ns : List Int) : Int := 6709 + (drawnF ns).sum
noncomputable def numbersF (ns : List Int) : List Int := drawnF ns ++ [5, 0, 11, 2, 7, 4, 13, 10, 3, 6]
theorem seg1 (K : Below callerA base [] h₀) (X : (KK w.params).In h₀) (T : Top p loose mean mg mb h₀) (F : Fr h₀ L s.heap m) (hm : m "script" = some (.ref l)) (N : News h₀ L s.heap ((L + 1 + 1 + 1 + 1 + 1 + 1, c6) :: (L + 1 + 1 + 1 + 1 + 1, c5) :: (L + 1 + 1 + 1 + 1, c4) :: (L + 1 + 1 + 1, c3) :: (L + 1 + 1, c2) :: (L + 1, c1) :: (62, tabObj #[]) :: (69, tabObj #[]) :: [])) (hl : h₀.IsList l its.toArray) (hI : IntsAre its ns) (hn : ns.length ≤ 63) (hL1 : @LT.lt Nat _ 62 L) (hL2 : @LT.lt Nat _ 69 L)
    (hQ : ∀ h' tk' D t ws n m', m' "numbers" = some (.ref D) → m' "code" = some (.int (codeF ns) t) → Fr h₀ L h' m' → News h₀ L h' ((L + 1 + 1 + 1 + 1 + 1 + 1, c6) :: (L + 1 + 1 + 1 + 1 + 1, c5) :: (L + 1 + 1 + 1 + 1, c4) :: (L + 1 + 1 + 1, c3) :: (L + 1 + 1, c2) :: (L + 1, c1) :: (D, listOf ws.toArray n) :: (62, tabObj #[]) :: (69, tabObj #[]) :: []) → IntsAre ws (numbersF ns) → @LT.lt Nat _ (L + 1 + 1 + 1 + 1 + 1 + 1) D → Q .next { s with heap := h', toks := tk' }) :
    wpAny (model PySem.Challenge.rw_xo0036_01.row.prog w) (callerA.deeper (envOfC (Str.ofString "law") s22 L f cd)) (execs g1 (envOfC (Str.ofString "law") s22 L f cd)) Q E s := by
  revert X
  k_fill
  intro X
  k_steps
  refine wpAny_execs_nil (hQ _ _ _ _ _ 0 _ rfl rfl (by assumption) (cb_drop (by assumption) (by repeat (first | exact fun _ h => h | exact fun _ h => .tail _ h | exact fun _ h => .tail _ (.tail _ h) | exact fun _ h => .tail _ (.tail _ (.tail _ h)) | exact fun _ h => .tail _ (.tail _ (.tail _ (.tail _ h))) | exact fun _ h => .tail _ (.tail _ (.tail _ (.tail _ (.tail _ h)))) | exact List.forall_mem_nil _ | refine List.forall_mem_cons.mpr ⟨by k_mem, ?_⟩))) (by assumption) (by omega))
end
end
section
-- LS2
set_option maxRecDepth 100000
set_option maxHeartbeats 0
section
variable {w : World} {mean : ExcName → Option Value} {mg mb : Str → Option Value} {p : Program} {loose : List Str} {base h₀ : Heap} {s : Shared} {L f l : Addr} {cd : Value} {m : Str → Option Value} {Q : Flow → Shared → Prop} {E : Value → Shared → Prop} {its : List Value} {ns : List Int} {tabs : List (Addr × Obj)}
variable {c1 c2 c3 c4 c5 c6 : Obj} {code : Int} {t : Tok} {D : Addr} {ws : List Value} {nD : Nat}
theorem seg2a (K : Below callerA base [] h₀) (X : (KK w.params).In h₀) (T : Top p loose mean mg mb h₀) (F : Fr h₀ L s.heap m) (d1 : c1.data = .cell none) (d2 : c2.data = .cell none) (d3 : c3.data = .cell none) (d4 : c4.data = .cell none) (d5 : c5.data = .cell none) (d6 : c6.data = .cell none)
    (N : News h₀ L s.heap ((L + 1 + 1 + 1 + 1 + 1 + 1, c6) :: (L + 1 + 1 + 1 + 1 + 1, c5) :: (L + 1 + 1 + 1 + 1, c4) :: (L + 1 + 1 + 1, c3) :: (L + 1 + 1, c2) :: (L + 1, c1) :: (D, listOf ws.toArray nD) :: (62, tabObj #[]) :: (69, tabObj #[]) :: [])) (hm : m "code" = some (.int code t)) (hL1 : @LT.lt Nat _ 62 L) (hL2 : @LT.lt Nat _ 69 L) (hD : @LT.lt Nat _ (L + 1 + 1 + 1 + 1 + 1 + 1) D)
    (hQ : ∀ h' tk' o t1 t2, o.data = .cell (some (.str (lettersF (code.fmod 6)) t1)) → Fr h₀ L h' (fun y => if y = "doubles" then some (.str (doublesF (code.fmod 6)) t2) else m y) → News h₀ L h' ((L + 1 + 1 + 1 + 1 + 1 + 1, c6) :: (L + 1 + 1 + 1 + 1 + 1, c5) :: (L + 1 + 1 + 1 + 1, c4) :: (L + 1 + 1 + 1, c3) :: (L + 1 + 1, c2) :: (L + 1, o) :: (D, listOf ws.toArray nD) :: (62, tabObj #[]) :: (69, tabObj #[]) :: []) → Q .next { s with heap := h', toks := tk' }) :
    wpAny (model PySem.Challenge.rw_xo0036_01.row.prog w) (callerA.deeper (envOfC (Str.ofString "law") s22 L f cd)) (execs g2 (envOfC (Str.ofString "law") s22 L f cd)) Q E s := by
  revert X
  k_fill
  intro X
  iterate 12 (first | walk1 | (dsimp only; walk1))
  k_dflt (first | (refine' Claim.use alphabet_claim ?akB ?akF ?akX ?akN ?akT ?akk ?akp ?akd ?aku ?_; (case akB => k_asm); (case akF => k_asm); (case akX => k_asm); (case akN => k_asm); (case akT => k_asm); (case akk => rfl); (case akp => trivial); (case akd => decide +kernel); (case aku => decide +kernel); (intro v0 n0 hp0; obtain ⟨p', t1', t2', hv0, hn0, l1⟩ := hp0; subst hv0; subst hn0; intro h' tk' F' N'; (try k_lt l1))) | fail "no")
  k_steps
  exact hQ _ _ _ _ _ (by assumption) (by assumption) (cb_drop (by assumption) (by repeat (first | exact fun _ h => h | exact fun _ h => .tail _ h | exact fun _ h => .tail _ (.tail _ h) | exact fun _ h => .tail _ (.tail _ (.tail _ h)) | exact fun _ h => .tail _ (.tail _ (.tail _ (.tail _ h))) | exact fun _ h => .tail _ (.tail _ (.tail _ (.tail _ (.tail _ h)))) | refine List.forall_mem_cons.mpr ⟨by k_mem, ?_⟩)))
end
end
section
-- LS3
set_option maxRecDepth 100000
set_option maxHeartbeats 0
section
variable {w : World} {mean : ExcName → Option Value} {mg mb : Str → Option Value} {p : Program} {loose : List Str} {base h₀ : Heap} {s : Shared} {L f l : Addr} {cd : Value} {m : Str → Option Value} {Q : Flow → Shared → Prop} {E : Value → Shared → Prop} {its : List Value} {ns : List Int} {tabs : List (Addr × Obj)}
variable {c1 c2 c3 c4 c5 c6 : Obj} {code : Int} {t : Tok} {D : Addr} {ws : List Value} {nD : Nat}
noncomputable def signF (code : Int) : Str := Txt.item (Str.ofString "&<>\"\t\n\x0d") ((code.fdiv 36).fmod 7)
noncomputable def mostF (n : Nat) (code : Int) : Int := 2 + (code.fdiv 6).fmod (↑n - 1)
noncomputable def turnsF (code : Int) : Int := 7 + (code.fdiv 6300).fmod 4
theorem seg2b (K : Below callerA base [] h₀) (X : (KK w.params).In h₀) (T : Top p loose mean mg mb h₀) (F : Fr h₀ L s.heap m) {a : Str} {ta : Tok} (d1 : c1.data = .cell (some (.str a ta))) (d2 : c2.data = .cell none) (d3 : c3.data = .cell none) (d4 : c4.data = .cell none) (d5 : c5.data = .cell none) (d6 : c6.data = .cell none)
    (N : News h₀ L s.heap ((L + 1 + 1 + 1 + 1 + 1 + 1, c6) :: (L + 1 + 1 + 1 + 1 + 1, c5) :: (L + 1 + 1 + 1 + 1, c4) :: (L + 1 + 1 + 1, c3) :: (L + 1 + 1, c2) :: (L + 1, c1) :: (D, listOf ws.toArray nD) :: (62, tabObj #[]) :: (69, tabObj #[]) :: [])) (hm : m "code" = some (.int code t)) (h0 : 0 ≤ code) (h1 : code ≤ 100000000) (ha : 3 ≤ a.length) (ha2 : a.length ≤ 4) (hL1 : @LT.lt Nat _ 62 L) (hL2 : @LT.lt Nat _ 69 L) (hD : @LT.lt Nat _ (L + 1 + 1 + 1 + 1 + 1 + 1) D)
    (hQ : ∀ h' tk' o2 o3 o4 t2 t3 t4 tm tt m', o2.data = .cell (some (.str (signF code) t2)) → o3.data = .cell (some (.int ((code.fdiv 252).fmod 5) t3)) → o4.data = .cell (some (.int ((code.fdiv 1260).fmod 5) t4)) → m' "most" = some (.int (mostF a.length code) tm) → m' "turns" = some (.int (turnsF code) tt) → (∀ y : Str, y ≠ "most" → y ≠ "turns" → m' y = m y) → 1 ≤ tk' →
      Fr h₀ L h' m' → News h₀ L h' ((L + 1 + 1 + 1 + 1 + 1 + 1, c6) :: (L + 1 + 1 + 1 + 1 + 1, c5) :: (L + 1 + 1 + 1 + 1, o4) :: (L + 1 + 1 + 1, o3) :: (L + 1 + 1, o2) :: (L + 1, c1) :: (D, listOf ws.toArray nD) :: (62, tabObj #[]) :: (69, tabObj #[]) :: []) → Q .next { s with heap := h', toks := tk' }) :
    wpAny (model PySem.Challenge.rw_xo0036_01.row.prog w) (callerA.deeper (envOfC (Str.ofString "law") s22 L f cd)) (execs g3 (envOfC (Str.ofString "law") s22 L f cd)) Q E s := by
  revert X
  k_fill
  intro X
  k_steps
  refine' hQ _ _ _ _ _ _ _ _ _ _ _ ?e2 ?e3 ?e4 ?e5 ?e6 ?e7 ?e8 ?eF ?eN
  case eF => assumption
  case eN => exact cb_drop (by assumption) (by repeat (first | exact fun _ h => h | exact fun _ h => .tail _ h | exact fun _ h => .tail _ (.tail _ h) | exact fun _ h => .tail _ (.tail _ (.tail _ h)) | exact fun _ h => .tail _ (.tail _ (.tail _ (.tail _ h))) | exact fun _ h => .tail _ (.tail _ (.tail _ (.tail _ (.tail _ h)))) | exact List.forall_mem_nil _ | refine List.forall_mem_cons.mpr ⟨by k_mem, ?_⟩))
  case e2 => assumption
  case e3 => assumption
  case e4 => assumption
  case e5 => exact rfl
  case e6 => exact rfl
  case e8 => exact Nat.le_add_left 1 _
  case e7 =>
    intro y h1 h2
    show (if y = _ then _ else if y = _ then _ else m y) = m y
    rw [if_neg h2, if_neg h1]
end
end
section
-- LS6
set_option maxRecDepth 100000
set_option maxHeartbeats 0
section
variable {w : World} {mean : ExcName → Option Value} {mg mb : Str → Option Value} {p : Program} {loose : List Str} {base h₀ : Heap} {s : Shared} {L f l : Addr} {cd : Value} {m : Str → Option Value} {Q : Flow → Shared → Prop} {E : Value → Shared → Prop} {its : List Value} {ns : List Int} {tabs : List (Addr × Obj)}
variable {c1 c2 c3 c4 c5 c6 : Obj} {code : Int} {t : Tok} {D : Addr} {ws : List Value} {nD : Nat}
theorem seg3c (K : Below callerA base [] h₀) (X : (KK w.params).In h₀) (T : Top p loose mean mg mb h₀) (F : Fr h₀ L s.heap m) (N : News h₀ L s.heap tabs)
    (hQ : ∀ h' tk' tn, Fr h₀ L h' (fun y => if y = "taken" then some (.ref tn) else m y) → News h₀ L h' ((tn, listOf #[] 0) :: tabs) → (∀ q ∈ tabs, q.1 < tn) → Q .next { s with heap := h', toks := tk' }) :
    wpAny (model PySem.Challenge.rw_xo0036_01.row.prog w) (callerA.deeper (envOfC (Str.ofString "law") s22 L f cd)) (execs g6 (envOfC (Str.ofString "law") s22 L f cd)) Q E s := by
  revert X
  k_fill
  intro X
  k_steps
  exact hQ _ _ _ (by assumption) (by assumption) (by assumption)
end
end
section
-- LS9
set_option maxRecDepth 100000
set_option maxHeartbeats 0
theorem weights_len {k : Int} : (weightsF k).length = 7 := by unfold weightsF; split; rfl; split <;> rfl
local macro_rules | `(tactic| k_all) => `(tactic| assumption)
section
variable {w : World} {mean : ExcName → Option Value} {mg mb : Str → Option Value} {p : Program} {loose : List Str} {base h₀ : Heap} {s : Shared} {L f l : Addr} {cd : Value} {m : Str → Option Value} {Q : Flow → Shared → Prop} {E : Value → Shared → Prop} {its : List Value} {ns : List Int} {tabs : List (Addr × Obj)}
variable {c1 c2 c3 c4 c5 c6 : Obj} {most turns : Int} {tm tt : Tok} {TT : List (Addr × Obj)}
@[reducible] noncomputable def g9a : List Stmt := gl1 _ (rfl : g9.take 1 = [_])
@[reducible] noncomputable def g9b : List Stmt := gl1 _ (rfl : (g9.drop 1).take 1 = [_])
@[reducible] noncomputable def g9c : List Stmt := gl1 _ (rfl : g9.drop 2 = [_])
theorem g9_eq : g9 = g9a ++ (g9b ++ g9c) := rfl
variable {pw : Addr} {its : List Value} {cw : Nat} {ah : Str} {ta : Tok} {wl : List Int}
theorem seg9a (K : Below callerA base [] h₀) (X : (KK w.params).In h₀) (T : Top p loose mean mg mb h₀) (F : Fr h₀ L s.heap m) (d5 : c5.data = .cell none) (m5 : m "most" = some (.int most tm)) (hmost : most = 2 ∨ most = 3 ∨ most = 4)
    (N : News h₀ L s.heap ((L + 1 + 1 + 1 + 1 + 1 + 1, c6) :: (L + 1 + 1 + 1 + 1 + 1, c5) :: (L + 1 + 1 + 1 + 1, c4) :: (L + 1 + 1 + 1, c3) :: (L + 1 + 1, c2) :: (L + 1, c1) :: TT)) (hTT : ∀ p ∈ TT, p.1 ≠ L + 1 + 1 + 1 + 1 + 1)
    (hQ : ∀ h' tk' pw its cw o, o.data = .cell (some (.ref pw)) → IntsAre its (weightsF most) → Fr h₀ L h' m → News h₀ L h' ((pw, listOf its.toArray cw) :: (L + 1 + 1 + 1 + 1 + 1 + 1, c6) :: (L + 1 + 1 + 1 + 1 + 1, o) :: (L + 1 + 1 + 1 + 1, c4) :: (L + 1 + 1 + 1, c3) :: (L + 1 + 1, c2) :: (L + 1, c1) :: TT) → @LT.lt Nat _ (L + 1 + 1 + 1 + 1 + 1 + 1) pw → Q .next { s with heap := h', toks := tk' }) :
    wpAny (model PySem.Challenge.rw_xo0036_01.row.prog w) (callerA.deeper (envOfC (Str.ofString "law") s22 L f cd)) (execs g9a (envOfC (Str.ofString "law") s22 L f cd)) Q E s := by
  revert X
  k_fill
  intro X
  iterate 9 (first | walk1 | (dsimp only; walk1))
  k_dflt (first | (refine' Claim.use (weights_claim ?ag1) ?akB ?akF ?akX ?akN ?akT ?akk ?akp ?akd ?aku ?_; (case akB => k_asm); (case akF => k_asm); (case akX => k_asm); (case akN => k_asm); (case akT => k_asm); (case akk => rfl); (case akp => trivial); (case akd => decide +kernel); (case aku => decide +kernel); ((case ag1 => assumption); (intro v0 n0 hp0; obtain ⟨p', c', i8', hv0, hI8', hn0, l1⟩ := hp0; subst hv0; subst hn0; intro h' tk' F' N'; (try k_lt l1)))) | fail "no")
  k_steps
  exact hQ _ _ _ _ _ _ (by assumption) (by assumption) (by assumption) (by assumption) (by omega)
theorem seg9b (K : Below callerA base [] h₀) (X : (KK w.params).In h₀) (T : Top p loose mean mg mb h₀) (F : Fr h₀ L s.heap m) (d5 : c5.data = .cell (some (.ref pw))) (d6 : c6.data = .cell none) (m6 : m "turns" = some (.int turns tt)) (ht0 : 7 ≤ turns) (ht1 : turns ≤ 10) (hI : IntsAre its (weightsF most)) (hdl : (digitsF (turns + 1) (weightsF most)).length ≤ 6)
    (N : News h₀ L s.heap ((pw, listOf its.toArray cw) :: (L + 1 + 1 + 1 + 1 + 1 + 1, c6) :: (L + 1 + 1 + 1 + 1 + 1, c5) :: (L + 1 + 1 + 1 + 1, c4) :: (L + 1 + 1 + 1, c3) :: (L + 1 + 1, c2) :: (L + 1, c1) :: TT)) (hTT : ∀ p ∈ TT, p.1 ≠ L + 1 + 1 + 1 + 1 + 1 + 1) (hpw : @LT.lt Nat _ (L + 1 + 1 + 1 + 1 + 1 + 1) pw)
    (hQ : ∀ h' tk' o ta tb, o.data = .cell (some (.str (Txt.sliceBy (digitsF (turns + 1) (weightsF most)) none none (-1, tb)) ta)) → Fr h₀ L h' m → News h₀ L h' ((pw, listOf its.toArray cw) :: (L + 1 + 1 + 1 + 1 + 1 + 1, o) :: (L + 1 + 1 + 1 + 1 + 1, c5) :: (L + 1 + 1 + 1 + 1, c4) :: (L + 1 + 1 + 1, c3) :: (L + 1 + 1, c2) :: (L + 1, c1) :: TT) → Q .next { s with heap := h', toks := tk' }) :
    wpAny (model PySem.Challenge.rw_xo0036_01.row.prog w) (callerA.deeper (envOfC (Str.ofString "law") s22 L f cd)) (execs g9b (envOfC (Str.ofString "law") s22 L f cd)) Q E s := by
  revert X
  k_fill
  intro X
  iterate 15 (first | walk1 | (dsimp only; walk1))
  k_dflt (first | (refine' Claim.use digits_claim ?bkB ?bkF ?bkX ?bkN ?bkT ?bkk ?bkp ?bkd ?bku ?_; (case bkB => k_asm); (case bkF => k_asm); (case bkX => k_asm); (case bkN => k_asm); (case bkT => k_asm); (case bkk => rfl); (case bkp => exact And.intro (by assumption) (by rw [IntsAre.length (by assumption), weights_len]; decide)); (case bkd => decide +kernel); (case bku => decide +kernel); ((intro v0 n0 hp0; obtain ⟨t1', hv0, hn0⟩ := hp0; subst hv0; subst hn0; intro h' tk' F' N'))) | fail "no")
  k_steps
  exact hQ _ _ _ _ _ (by assumption) (by assumption) (by assumption)
theorem seg9c (K : Below callerA base [] h₀) (X : (KK w.params).In h₀) (T : Top p loose mean mg mb h₀) (F : Fr h₀ L s.heap m) (d5 : c5.data = .cell (some (.ref pw))) (d6 : c6.data = .cell (some (.str ah ta))) (hI : IntsAre its (weightsF most)) (hah : ah.length ≤ 6) (hfit : PyProof.Rows.SumFits (cntL ah (weightsF most) ah.length))
    (N : News h₀ L s.heap ((pw, listOf its.toArray cw) :: (L + 1 + 1 + 1 + 1 + 1 + 1, c6) :: (L + 1 + 1 + 1 + 1 + 1, c5) :: (L + 1 + 1 + 1 + 1, c4) :: (L + 1 + 1 + 1, c3) :: (L + 1 + 1, c2) :: (L + 1, c1) :: TT))
    (hQ : ∀ h' tk' tc, Fr h₀ L h' (fun y => if y = "count" then some (.int ((cntL ah (weightsF most) ah.length).sum - 1) tc) else m y) → News h₀ L h' ((pw, listOf its.toArray cw) :: (L + 1 + 1 + 1 + 1 + 1 + 1, c6) :: (L + 1 + 1 + 1 + 1 + 1, c5) :: (L + 1 + 1 + 1 + 1, c4) :: (L + 1 + 1 + 1, c3) :: (L + 1 + 1, c2) :: (L + 1, c1) :: TT) → Q .next { s with heap := h', toks := tk' }) :
    wpAny (model PySem.Challenge.rw_xo0036_01.row.prog w) (callerA.deeper (envOfC (Str.ofString "law") s22 L f cd)) (execs g9c (envOfC (Str.ofString "law") s22 L f cd)) Q E s := by
  revert X
  k_fill
  intro X
  iterate 7 (first | walk1 | (dsimp only; walk1))
  k_dflt (first | (refine' ListComp_RT ?ck1 ?ck2 ?ck3 ?ck4 ?ck5 ?ck6 ?_ ?ck7; (case ck1 => k_asm); (case ck2 => exact cnt_clos); (case ck3 => decide); (case ck4 => rfl); (case ck5 => decide); (case ck6 => rfl); (case ck7 => intro _; rfl)) | fail "no")
  k_steps
  refine ⟨_, 0, (ah.length : Int), 1, ah.length, _, _, _, _, rfl, rfl, by assumption, small_1 (by omega) (by omega), (by rw [size_1 (by omega)]; simp), by assumption, by assumption, by rw [sizeLine_eq]; omega, fun g => ?_⟩
  refine cnt_rest K T X d5 d6 hI hah (by rw [IntsAre.length hI, weights_len]) fun ys9 hy9 D9 h9 tk9 F9 N9 off9 => ?_
  k_steps
  exact hQ _ _ _ (by assumption) (cb_drop (by assumption) (fun p hp => .tail _ hp))
end
end
section
-- LS10
set_option maxRecDepth 100000
set_option maxHeartbeats 0
open PyProof.Rows.LCg PyProof.Rows.LCt
local macro_rules | `(tactic| k_all) => `(tactic| assumption)
section
variable {w : World} {mean : ExcName → Option Value} {mg mb : Str → Option Value} {p : Program} {loose : List Str} {base h₀ : Heap} {s : Shared} {L f l : Addr} {cd : Value} {m : Str → Option Value} {Q : Flow → Shared → Prop} {E : Value → Shared → Prop} {its : List Value} {ns : List Int} {tabs : List (Addr × Obj)}
variable {c1 c2 c3 c4 c5 c6 : Obj} {pw : Addr} {wl : List Int} {cw : Nat} {a sg : Str} {t1 t2 t3 t4 tc : Tok} {first second count : Int} {TT : List (Addr × Obj)}
theorem cb_push {h₀ h : Heap} {L : Addr} {news : List (Addr × Obj)} {o : Obj} (N : News h₀ L h news) : News h₀ L (h.push o) news := fun p hp => ⟨Heap.get?_push_of_some _ (N p hp).1, (N p hp).2⟩
theorem seg10 (K : Below callerA base [] h₀) (X : (KK w.params).In h₀) (T : Top p loose mean mg mb h₀) (F : Fr h₀ L s.heap m) (m7 : m "count" = some (.int count tc)) (hc0 : 0 ≤ count) (hc1 : count ≤ 100)
    (d1 : c1.data = .cell (some (.str a t1))) (d2 : c2.data = .cell (some (.str sg t2))) (d3 : c3.data = .cell (some (.int first t3))) (d4 : c4.data = .cell (some (.int second t4))) (d5 : c5.data = .cell (some (.ref pw)))
    (hI : IntsAre its wl) (h4 : its.length = 7) (hp : ∀ i : Nat, (i : Int) < count → pieceOk sg (digitsF (1 + (i : Int)) wl) a first second)
    (N : News h₀ L s.heap ((pw, listOf its.toArray cw) :: (L + 1 + 1 + 1 + 1 + 1 + 1, c6) :: (L + 1 + 1 + 1 + 1 + 1, c5) :: (L + 1 + 1 + 1 + 1, c4) :: (L + 1 + 1 + 1, c3) :: (L + 1 + 1, c2) :: (L + 1, c1) :: TT))
    (hQ : ∀ h' tk' D ys nw, Fr h₀ L h' (fun y => if y = "due" then some (.ref D) else m y) → News h₀ L h' ((D, lst ys) :: nw) → LCg.Off1 D nw → (∀ p ∈ (pw, listOf its.toArray cw) :: (L + 1 + 1 + 1 + 1 + 1 + 1, c6) :: (L + 1 + 1 + 1 + 1 + 1, c5) :: (L + 1 + 1 + 1 + 1, c4) :: (L + 1 + 1 + 1, c3) :: (L + 1 + 1, c2) :: (L + 1, c1) :: TT, p ∈ nw) → PdAll nw ys (dueL sg a first second wl count.toNat) → Q .next { s with heap := h', toks := tk' }) :
    wpAny (model PySem.Challenge.rw_xo0036_01.row.prog w) (callerA.deeper (envOfC (Str.ofString "law") s22 L f cd)) (execs g10 (envOfC (Str.ofString "law") s22 L f cd)) Q E s := by
  revert X
  k_fill
  intro X
  iterate 1 walk1
  refine LCg.Assign_ListComp_U (F₀ := by k_asm) (by rfl) (by with_unfolding_all rfl) due_clos (by decide) (by rfl) (by decide) (by rfl) (by rfl) (by rfl) ?_
  iterate 11 walk1
  refine call_range_2 (CompSrc.range (n := count.toNat) rfl (Fr.push (by k_asm) _) (cb_push (by k_asm)) (Heap.get?_push_size _ rfl) (small_2 (by omega) (by omega)) (size_2 hc0) (by rw [sizeLine_eq]; omega) fun g => ?_)
  refine due_rest (cw := cw) (c6 := c6) K T X d1 d2 d3 d4 d5 hI h4 (fun i hi => hp i (by omega)) (fun p hp => ?_) (fun ys nw hs hd D9 h9 tk9 F9 N9 off9 => ?_)
  · simp only [List.mem_cons, List.not_mem_nil, or_false] at hp ⊢
    rcases hp with h | h | h | h | h | h | h <;> simp [h]
  · exact wpAny_execs_nil (hQ _ _ _ _ _ F9 N9 off9 hs hd)
end
end
end Mine
end
noncomputable section
open PySem PySem.W PyProof.Rows
namespace Mine
open PySem.Calls PyProof.V PySem.Spec Builtin
local macro_rules | `(tactic| k_inst) => `(tactic| (refine' rowInst ?N ?h1 ?h2; (case N => k_asm); (case h1 => k_mem); (case h2 => k_mem)))
local macro_rules | `(tactic| k_all) => `(tactic| assumption)
local macro_rules | `(tactic| walk_at "newTuple") => `(tactic| (k_here; k_dflt (refine' newTuple_L ?k1 ?k2 ?_; (case k1 => k_asm); (case k2 => k_asm); k_whole); intro l' h' F' N' l1; (have l0 := l1; try k_lt l1); (try k_sweep)))
local macro_rules | `(tactic| walk_at "getMethod ref") => `(tactic| (k_here; k_dflt (first
  | (refine' row_fn ?k1 ?k2 ?k3 ?k4 ?k5 ?_; (case k1 => k_in); (case k2 => k_inst); (case k3 => k_is); (case k4 => k_is); (case k5 => kernel_rfl); k_whole)
  | (refine' row_meth ?k1 ?k2 ?k3 ?k4 ?k5 ?_; (case k1 => k_in); (case k2 => k_inst); (case k3 => k_is); (case k4 => k_is); (case k5 => kernel_rfl); k_whole)
  | fail "no")))
local macro_rules | `(tactic| walk_at "getMethod ref") => `(tactic| (k_here; k_dflt (first
  | ((with_reducible show wpAny _ _ (getMethod _ (Str.ofString "__len__") _) _ _ _); refine' super_wrap_N (i := "list.__len__") ?k1 ?k2 ?k3 ?k4 ?k5 ?k6 ?k7 ?k8 ?k9 ?_; (case k1 => k_asm); (case k2 => k_asm); (case k3 => k_asm); (case k4 => k_inst); (case k5 => k_mem); (case k6 => kernel_rfl); (case k7 => kernel_rfl); (case k8 => decide); (case k9 => decide +kernel); intro q' h' F' N' l1; (try k_lt l1))
  | ((with_reducible show wpAny _ _ (getMethod _ (Str.ofString "__init__") _) _ _ _); refine' super_wrap_N (i := "list.__init__") ?k1 ?k2 ?k3 ?k4 ?k5 ?k6 ?k7 ?k8 ?k9 ?_; (case k1 => k_asm); (case k2 => k_asm); (case k3 => k_asm); (case k4 => k_inst); (case k5 => k_mem); (case k6 => kernel_rfl); (case k7 => kernel_rfl); (case k8 => decide); (case k9 => decide +kernel); intro q' h' F' N' l1; (try k_lt l1))
  | fail "no")))
local macro_rules | `(tactic| walk_at "setAttr ref") => `(tactic| (k_here; k_dflt (first | (refine' row_set ?k1 ?k2 rfl ?k3 ?k4 ?k6 ?k10 ?k11 ?k12 ?k13 ?_; (case k1 => k_asm); (case k2 => k_asm); (case k3 => k_asm); (case k4 => k_inst); (case k6 => k_is); (case k10 => rfl); (case k11 => k_put); (case k12 => k_upd); (case k13 => exact Nat.le_of_ble_eq_true rfl); k_whole; intro h' F' N'; (try k_sweep)) | fail "no")))
local macro_rules | `(tactic| walk_at "call builtin:list.append") => `(tactic| (k_here; (with_reducible show wpAny _ _ (call (Value.builtin _) [Value.ref _, _]) _ _ _); k_dflt (first | (refine' row_append ?k1 ?k2 ?k3 ?k4 ?k5 ?z ?_; (case k1 => k_asm); (case k2 => k_asm); (case k3 => k_asm); (case k4 => k_inst); (case k5 => k_upd); (case z => assumption); k_whole) | fail "no"); intro h' F' N'; (try k_sweep)))
local macro_rules | `(tactic| walk_at "call ref") => `(tactic| (k_here; k_dflt (first
  | (refine' wrap_init ?k1 ?k2 ?k3 ?k4 ?k5 ?k6 ?_; (case k1 => k_asm); (case k2 => k_asm); (case k3 => k_asm); (case k4 => k_inst); (case k5 => k_mem); (case k6 => k_upd); k_whole; intro h' F' N'; (try k_sweep))
  | (refine' wrap_len ?k1 ?k2 ?k3 ?k4 ?k5 ?_; (case k1 => k_asm); (case k2 => k_asm); (case k3 => k_asm); (case k4 => k_inst); (case k5 => k_mem); k_whole)
  | fail "no")))
local macro_rules | `(tactic| walk_at "callWith") => `(tactic| (k_here; k_dflt (first | (refine' callWith_W0 ?k1 ?k2 ?_; (case k1 => k_asm); (case k2 => k_mem); k_whole) | fail "no")))
local macro_rules | `(tactic| walk_at "subscriptTail") => `(tactic| (k_here; (with_reducible show wpAny _ _ (subscriptTail _ _ (Value.ref _) _) _ _ _); k_dflt (first
  | (refine' row_subslice ?k1 ?k2 ?k3 ?k4 ?k5 ?k6 ?_; (case k1 => k_asm); (case k2 => k_asm); (case k3 => k_asm); (case k4 => k_inst); (case k5 => assumption); (case k6 => first | exact rfl | exact (show (0 : Int) = ((0 : Nat) : Int) from rfl)); k_whole; intro l' h' F' N' l1; (have l0 := l1; try k_lt l1); (try k_sweep))
  | (refine' row_subitem ?k1 ?k3 ?k4 ?k5 ?_ ?k6; (case k1 => k_asm); (case k3 => k_asm); (case k4 => k_inst); (case k5 => first | exact arr0 | assumption); (case k6 => rfl); k_whole)
  | fail "no")))
local macro_rules | `(tactic| walk_at "setItem ref") => `(tactic| (k_here; k_dflt (first
  | (refine' row_storeslice (news' := _) ?k1 ?k2 ?k3 ?k4 ?k5 ?k6 ?k7 ?k8 ?k9 ?k10 ?_; (case k1 => k_asm); (case k2 => k_asm); (case k3 => k_asm); (case k4 => k_inst); (case k9 => k_mem); (case k5 => assumption); (case k6 => first | assumption | exact (Nat.zero_le _)); (case k7 => first | exact rfl | exact (show (0 : Int) = ((0 : Nat) : Int) from rfl)); (case k8 => first | assumption | exact (Nat.zero_le _)); (case k10 => k_upd); k_whole; intro h' F' N'; (try k_sweep))
  | (refine' row_storeall (news' := _) ?k1 ?k2 ?k3 ?k4 ?k5 ?k6 ?k9 ?k10 ?_; (case k1 => k_asm); (case k2 => k_asm); (case k3 => k_asm); (case k4 => k_inst); (case k9 => k_mem); (case k5 => assumption); (case k6 => first | assumption | exact (Nat.zero_le _)); (case k10 => k_upd); k_whole; intro h' F' N'; (try k_sweep))
  | fail "no")))
section
-- WM1
set_option maxRecDepth 100000
set_option maxHeartbeats 0
section
variable {w : World} {mean : ExcName → Option Value} {mg mb : Str → Option Value} {news : List (Addr × Obj)} {r dx : Addr} {its new : Array Value} {n c k : Nat} {tk tv : Tok} {v : Int} {x y : Str} {t u : Tok} {l : Addr}
theorem push_claim (hrd : @Ne Nat r dx) (hr : ∀ p ∈ news, p.1 ≠ r) (hd : ∀ p ∈ news, p.1 ≠ dx) :
    Claim w mean mg mb 45 ((r, rowO dx its n) :: (dx, isD w.params tk v tv) :: news) (its.size ≤ 1000) [.ref r, .str x t, .str y u]
      (fun v' new' => ∃ p, v' = .none ∧ new' = (p, tupO #[.str x t, .str y u]) :: (r, rowO dx (its.push (.ref p)) (n + 1)) :: (dx, isD w.params tk v tv) :: news ∧ ∀ q ∈ ((r, rowO dx its n) :: (dx, isD w.params tk v tv) :: news), q.1 < p) := by
  unfold Claim
  k_fill
  intros
  rename_i hret
  refine wpAny_call ?_
  (k_dflt (refine' code_def ?k1 ?k2 ?k3 ?k4 ?k5 ?kA ?kF ?kK ?k6 ?k7 ?k8 ?k9 ?kB ?_ ?c2 ?c3 ?c4 ?c5; (case kA => exact rfl); (case kF => exact rfl); (case kK => assumption); (case k1 => k_asm); (case k2 => k_asm); (case k3 => k_asm); (case k4 => k_asm); (case k5 => k_asm); (case k6 => k_is); (case k7 => k_is); (case k8 => ktr_room); (case k9 => exact BindsTo.of_eq rfl); (case c5 => decide); (case kB => exact locs rfl); (case c2 => exact rfl); (case c3 => exact rfl); (case c4 => exact rfl); k_whole; intro g' L' h' FG' F' N' B' X' T'; (try dsimp only); (try k_lift B'); (try k_fold)))
  k_steps
  refine' hret _ _ _ _ ?hEndP ?hEndF ?hEndN
  (case hEndF => assumption)
  (case hEndN => assumption)
  (case hEndP => exact ⟨_, rfl, rfl, (by assumption)⟩)
theorem init_claim (hrd : @Ne Nat r dx) (hr : ∀ p ∈ news, p.1 ≠ r) (hd : ∀ p ∈ news, p.1 ≠ dx) :
    Claim w mean mg mb 38 ((r, rowO dx #[] 0) :: (dx, emptyDict) :: news) (True) [.ref r, .int v t]
      (fun v' new' => ∃ tk, v' = .none ∧ new' = (r, rowO dx #[] 0) :: (dx, isD w.params tk v t) :: news) := by
  unfold Claim
  k_fill
  intros
  rename_i hret
  refine wpAny_call ?_
  (k_dflt (refine' ks_code_super ?k1 ?k2 ?k3 ?k4 ?k5 ?kA ?kF ?kK ?k6 ?k7 ?k8 ?k9 ?kB ?_ ?c1 ?c2 ?c3 ?c4; (case kA => exact rfl); (case kF => exact rfl); (case kK => assumption); (case k1 => k_asm); (case k2 => k_asm); (case k3 => k_asm); (case k4 => k_asm); (case k5 => k_asm); (case k6 => k_is); (case k7 => k_is); (case k8 => ktr_room); (case k9 => exact BindsTo.of_defaults (T := 30) rfl (Frag.In.keeps (by k_asm) (Fr.keep (by k_asm)) 30 _ rfl) rfl rfl rfl); (case kB => exact locs rfl); (case c1 => decide); (case c2 => exact rfl); (case c3 => exact rfl); (case c4 => exact rfl); intro g' L' h' FG' F' N' B' X' T' l1; (try k_lt l1); (try dsimp only); (try k_lift B')))
  iterate 6 walk1
  dsimp only
  refine ks_wpAt_execs_cons ?_
  refine ks_wpAt_Expr_any ?_
  refine ks_wpAt_MethodCall ?_
  k_steps
  exact hret _ _ _ _ (⟨_, rfl, rfl⟩) (by assumption) (cb_drop (by assumption) (by repeat (first | exact fun _ h => h | exact fun _ h => .tail _ h | exact fun _ h => .tail _ (.tail _ h) | exact fun _ h => .tail _ (.tail _ (.tail _ h)) | exact fun _ h => .tail _ (.tail _ (.tail _ (.tail _ h))) | exact fun _ h => .tail _ (.tail _ (.tail _ (.tail _ (.tail _ h)))) | refine List.forall_mem_cons.mpr ⟨by k_mem, ?_⟩)))
theorem part_count_claim (hrd : @Ne Nat r dx) (hr : ∀ p ∈ news, p.1 ≠ r) (hd : ∀ p ∈ news, p.1 ≠ dx) :
    Claim w mean mg mb 97 ((r, rowO dx its n) :: (dx, isD w.params tk v tv) :: news) (True) [.ref r]
      (fun v' new' => ∃ t, v' = .int its.size t ∧ new' = ((r, rowO dx its n) :: (dx, isD w.params tk v tv) :: news)) := by
  unfold Claim
  k_fill
  intros
  rename_i hret
  refine wpAny_call ?_
  (k_dflt (refine' ks_code_super ?k1 ?k2 ?k3 ?k4 ?k5 ?kA ?kF ?kK ?k6 ?k7 ?k8 ?k9 ?kB ?_ ?c1 ?c2 ?c3 ?c4; (case kA => exact rfl); (case kF => exact rfl); (case kK => assumption); (case k1 => k_asm); (case k2 => k_asm); (case k3 => k_asm); (case k4 => k_asm); (case k5 => k_asm); (case k6 => k_is); (case k7 => k_is); (case k8 => ktr_room); (case k9 => exact BindsTo.of_eq rfl); (case kB => exact locs rfl); (case c1 => decide); (case c2 => exact rfl); (case c3 => exact rfl); (case c4 => exact rfl); intro g' L' h' FG' F' N' B' X' T' l1; (try k_lt l1); (try dsimp only); (try k_lift B')))
  refine ks_wpAt_execs_cons ?_
  refine ks_wpAt_Return_some ?_
  refine ks_wpAt_MethodCall ?_
  k_steps
  exact hret _ _ _ _ (⟨_, rfl, rfl⟩) (by assumption) (cb_drop (by assumption) (by repeat (first | exact fun _ h => h | exact fun _ h => .tail _ h | exact fun _ h => .tail _ (.tail _ h) | exact fun _ h => .tail _ (.tail _ (.tail _ h)) | exact fun _ h => .tail _ (.tail _ (.tail _ (.tail _ h))) | exact fun _ h => .tail _ (.tail _ (.tail _ (.tail _ (.tail _ h)))) | refine List.forall_mem_cons.mpr ⟨by k_mem, ?_⟩)))
theorem pop_from_claim (hrd : @Ne Nat r dx) (hr : ∀ p ∈ news, p.1 ≠ r) (hd : ∀ p ∈ news, p.1 ≠ dx) :
    Claim w mean mg mb 53 ((r, rowO dx its n) :: (dx, isD w.params tk v tv) :: news) (its.size ≤ 1000 ∧ k ≤ its.size) [.ref r, .int (k : Int) t]
      (fun v' new' => ∃ p n', v' = .ref p ∧ new' = (p, listOf (its.toList.drop k).toArray 0) :: (r, rowO dx (its.extract 0 k ++ #[]) n') :: (dx, isD w.params tk v tv) :: news ∧ ∀ q ∈ ((r, rowO dx its n) :: (dx, isD w.params tk v tv) :: news), q.1 < p) := by
  unfold Claim
  k_fill
  intros
  rename_i hret
  refine wpAny_call ?_
  (k_dflt (refine' code_def ?k1 ?k2 ?k3 ?k4 ?k5 ?kA ?kF ?kK ?k6 ?k7 ?k8 ?k9 ?kB ?_ ?c2 ?c3 ?c4 ?c5; (case kA => exact rfl); (case kF => exact rfl); (case kK => assumption); (case k1 => k_asm); (case k2 => k_asm); (case k3 => k_asm); (case k4 => k_asm); (case k5 => k_asm); (case k6 => k_is); (case k7 => k_is); (case k8 => ktr_room); (case k9 => exact BindsTo.of_defaults (T := 46) rfl (Frag.In.keeps (by k_asm) (Fr.keep (by k_asm)) 46 _ rfl) rfl rfl rfl); (case c5 => decide); (case kB => exact locs rfl); (case c2 => exact rfl); (case c3 => exact rfl); (case c4 => exact rfl); k_whole; intro g' L' h' FG' F' N' B' X' T'; (try dsimp only); (try k_lift B'); (try k_fold)))
  rename_i hp _ _
  obtain ⟨hsz, hk⟩ := hp
  k_steps
  exact hret _ _ _ _ (⟨_, _, rfl, rfl, (by assumption)⟩) (by assumption) (cb_drop (by assumption) (by repeat (first | exact fun _ h => h | exact fun _ h => .tail _ h | exact fun _ h => .tail _ (.tail _ h) | exact fun _ h => .tail _ (.tail _ (.tail _ h)) | exact fun _ h => .tail _ (.tail _ (.tail _ (.tail _ h))) | exact fun _ h => .tail _ (.tail _ (.tail _ (.tail _ (.tail _ h)))) | refine List.forall_mem_cons.mpr ⟨by k_mem, ?_⟩)))
theorem reset_claim (hrd : @Ne Nat r dx) (hrl : @Ne Nat l r) (hdl : @Ne Nat l dx) (hr : ∀ p ∈ news, p.1 ≠ r) (hd : ∀ p ∈ news, p.1 ≠ dx) :
    Claim w mean mg mb 82 ((r, rowO dx its n) :: (dx, isD w.params tk v tv) :: (l, listOf new c) :: news) (its.size ≤ 1000 ∧ new.size ≤ 1000) [.ref r, .ref l]
      (fun v' new' => ∃ n' tk tv, v' = .none ∧ new' = (r, rowO dx (its.extract 0 0 ++ new) n') :: (dx, isD w.params tk 0 tv) :: (l, listOf new c) :: news) := by
  unfold Claim
  k_fill
  intros
  rename_i hret
  refine wpAny_call ?_
  (k_dflt (refine' code_def ?k1 ?k2 ?k3 ?k4 ?k5 ?kA ?kF ?kK ?k6 ?k7 ?k8 ?k9 ?kB ?_ ?c2 ?c3 ?c4 ?c5; (case kA => exact rfl); (case kF => exact rfl); (case kK => assumption); (case k1 => k_asm); (case k2 => k_asm); (case k3 => k_asm); (case k4 => k_asm); (case k5 => k_asm); (case k6 => k_is); (case k7 => k_is); (case k8 => ktr_room); (case k9 => exact BindsTo.of_defaults (T := 75) rfl (Frag.In.keeps (by k_asm) (Fr.keep (by k_asm)) 75 _ rfl) rfl rfl rfl); (case c5 => decide); (case kB => exact locs rfl); (case c2 => exact rfl); (case c3 => exact rfl); (case c4 => exact rfl); k_whole; intro g' L' h' FG' F' N' B' X' T'; (try dsimp only); (try k_lift B'); (try k_fold)))
  rename_i hp _ _
  obtain ⟨hsz, hnz⟩ := hp
  k_steps
  refine' hret _ _ _ _ ?hEndP ?hEndF ?hEndN
  (case hEndF => assumption)
  (case hEndN => assumption)
  (case hEndP => exact ⟨_, _, _, rfl, rfl⟩)
theorem pop_all_claim (hrd : @Ne Nat r dx) (hr : ∀ p ∈ news, p.1 ≠ r) (hd : ∀ p ∈ news, p.1 ≠ dx) :
    Claim w mean mg mb 53 ((r, rowO dx its n) :: (dx, isD w.params tk v tv) :: news) (its.size ≤ 1000) [.ref r]
      (fun v' new' => ∃ p n', v' = .ref p ∧ new' = (p, listOf (its.toList.drop 0).toArray 0) :: (r, rowO dx (its.extract 0 0 ++ #[]) n') :: (dx, isD w.params tk v tv) :: news ∧ ∀ q ∈ ((r, rowO dx its n) :: (dx, isD w.params tk v tv) :: news), q.1 < p) := by
  unfold Claim
  k_fill
  intros
  rename_i hret
  refine wpAny_call ?_
  (k_dflt (refine' code_def ?k1 ?k2 ?k3 ?k4 ?k5 ?kA ?kF ?kK ?k6 ?k7 ?k8 ?k9 ?kB ?_ ?c2 ?c3 ?c4 ?c5; (case kA => exact rfl); (case kF => exact rfl); (case kK => assumption); (case k1 => k_asm); (case k2 => k_asm); (case k3 => k_asm); (case k4 => k_asm); (case k5 => k_asm); (case k6 => k_is); (case k7 => k_is); (case k8 => ktr_room); (case k9 => exact BindsTo.of_defaults (T := 46) rfl (Frag.In.keeps (by k_asm) (Fr.keep (by k_asm)) 46 _ rfl) rfl rfl rfl); (case c5 => decide); (case kB => exact locs rfl); (case c2 => exact rfl); (case c3 => exact rfl); (case c4 => exact rfl); k_whole; intro g' L' h' FG' F' N' B' X' T'; (try dsimp only); (try k_lift B'); (try k_fold)))
  k_steps
  exact hret _ _ _ _ (⟨_, _, rfl, rfl, (by assumption)⟩) (by assumption) (cb_drop (by assumption) (by repeat (first | exact fun _ h => h | exact fun _ h => .tail _ h | exact fun _ h => .tail _ (.tail _ h) | exact fun _ h => .tail _ (.tail _ (.tail _ h)) | exact fun _ h => .tail _ (.tail _ (.tail _ (.tail _ h))) | exact fun _ h => .tail _ (.tail _ (.tail _ (.tail _ (.tail _ h)))) | refine List.forall_mem_cons.mpr ⟨by k_mem, ?_⟩)))
end
end
section
-- WM2
set_option maxRecDepth 100000
set_option maxHeartbeats 0
section
variable {w : World} {mean : ExcName → Option Value} {mg mb : Str → Option Value} {news : List (Addr × Obj)} {r dx : Addr} {v : Int} {t : Tok}
theorem init_code (hrd : @Ne Nat r dx) (hr : ∀ p ∈ news, p.1 ≠ r) (hd : ∀ p ∈ news, p.1 ≠ dx) :
   ∀ (p : Program) (loose : List Str) (dp un : Nat) (gd : Option (List Code)) (cn : Str) (cs : Scope) (a : Addr) (ccd : Value) (cl : List (Str × Addr)) (outer : List Env) (A₀ : Around) (base h₀ : Heap) (L : Addr) (m : Str → Option Value) (s : Shared) (R : Result → Shared → Prop),
    Below A₀ base outer h₀ → Fr h₀ L s.heap m → (KK w.params).In h₀ → News h₀ L s.heap ((r, rowO dx #[] 0) :: (dx, emptyDict) :: news) → Top p loose mean mg mb h₀ → cs.kind = .function →
    dp + 4 < recursionLimit → un + 24 < cLine → (∀ tk h' tk', Fr h₀ L h' m → News h₀ L h' ((r, rowO dx #[] 0) :: (dx, isD w.params tk v t) :: news) → R (.ok (.ret .none)) { s with heap := h', toks := tk' }) →
      codeAny (model PySem.Challenge.rw_xo0036_01.row.prog w) ((ktrTop dp un gd cn cs L a ccd cl outer).under (.builtin "type.__call__" ⟨[.ref 100, .int v t], []⟩)) (.call (.ref 38) ⟨[.ref r, .int v t], []⟩) R s := by
  k_fill
  intro p loose dp un gd cn cs a ccd cl outer A₀ base h₀ L m s R q1 q2 q3 q4 q5 q6 q7 q8 hret
  (k_dflt (refine' ks_code_super ?k1 ?k2 ?k3 ?k4 ?k5 ?kA ?kF ?kK ?k6 ?k7 ?k8 ?k9 ?kB ?_ ?c1 ?c2 ?c3 ?c4; (case kA => exact rfl); (case kF => exact rfl); (case kK => assumption); (case k1 => k_asm); (case k2 => k_asm); (case k3 => k_asm); (case k4 => k_asm); (case k5 => k_asm); (case k6 => k_is); (case k7 => k_is); (case k8 => first | ktr_room | (simp only [depth_under_make]; omega) | (show dp + _ < _; omega)); (case k9 => exact BindsTo.of_defaults (T := 30) rfl (Frag.In.keeps (by k_asm) (Fr.keep (by k_asm)) 30 _ rfl) rfl rfl rfl); (case kB => exact locs rfl); (case c1 => decide); (case c2 => exact rfl); (case c3 => exact rfl); (case c4 => exact rfl); intro g' L' h' FG' F' N' B' X' T' l1; (try k_lt l1); (try dsimp only); (try k_lift B')))
  iterate 6 walk1
  dsimp only
  refine ks_wpAt_execs_cons ?_
  refine ks_wpAt_Expr_any ?_
  refine ks_wpAt_MethodCall ?_
  k_steps
  exact hret _ _ _ (by assumption) (cb_drop (by assumption) (by repeat (first | exact fun _ h => h | exact fun _ h => .tail _ h | exact fun _ h => .tail _ (.tail _ h) | exact fun _ h => .tail _ (.tail _ (.tail _ h)) | exact fun _ h => .tail _ (.tail _ (.tail _ (.tail _ h))) | exact fun _ h => .tail _ (.tail _ (.tail _ (.tail _ (.tail _ h)))) | refine List.forall_mem_cons.mpr ⟨by k_mem, ?_⟩)))
end
theorem make_row {w : World} {mean : ExcName → Option Value} {mg mb : Str → Option Value} {news : List (Addr × Obj)} {v : Int} {t : Tok} {p : Program} {loose : List Str} {dp un : Nat} {gd : Option (List Code)} {cn : Str} {cs : Scope} {a : Addr} {ccd : Value} {cl : List (Str × Addr)} {outer : List Env} {A₀ : Around} {base h₀ : Heap} {L : Addr} {m : Str → Option Value} {s : Shared} {Q E : Value → Shared → Prop}
    (B : Below A₀ base outer h₀) (F : Fr h₀ L s.heap m) (X : (KK w.params).In h₀) (N : News h₀ L s.heap news) (T : Top p loose mean mg mb h₀) (hk : cs.kind = .function) (hd : dp + 4 < recursionLimit) (hu : un + 24 < cLine)
    (h : ∀ r dx tks h' tk', (∀ p ∈ news, p.1 < dx) → @LT.lt Nat _ dx r → Fr h₀ L h' m → News h₀ L h' ((r, rowO dx #[] 0) :: (dx, isD w.params tks v t) :: news) → Q (.ref r) { s with heap := h', toks := tk' }) :
    wpAny (model PySem.Challenge.rw_xo0036_01.row.prog w) (ktrTop dp un gd cn cs L a ccd cl outer) (call (.ref 100) [.int v t]) Q E s := by
  refine wpAny_call ?_
  refine make100_N (P := w.params) F N X fun x dx h' F' N' l1 l2 => ?_
  refine init_code (Nat.ne_of_gt l2) (fun q hq => Nat.ne_of_lt (Nat.lt_trans (l1 q hq) l2)) (fun q hq => Nat.ne_of_lt (l1 q hq)) p loose dp un gd cn cs a ccd cl outer A₀ base h₀ L m _ _ B F' X N' T hk hd hu fun tk h2 tk2 F2 N2 => ?_
  exact ⟨rfl, h x dx tk h2 tk2 l1 l2 F2 N2⟩
end
section
-- WM3
set_option maxRecDepth 100000
set_option maxHeartbeats 0
theorem Claim.map {w : World} {mean : ExcName → Option Value} {mg mb : Str → Option Value} {f : Addr} {news : List (Addr × Obj)} {pre pre' : Prop} {vs : List Value} {Post Post' : Value → List (Addr × Obj) → Prop}
    (C : Claim w mean mg mb f news pre vs Post) (hp : pre' → pre) (hq : ∀ v n, Post v n → Post' v n) : Claim w mean mg mb f news pre' vs Post' :=
  fun p loose dp un gd cn cs a ccd cl outer A₀ base h₀ L m s Q E B F X N T hk hpre hd hu hret => C p loose dp un gd cn cs a ccd cl outer A₀ base h₀ L m s Q E B F X N T hk (hp hpre) hd hu fun v n h' tk' h => hret v n h' tk' (hq v n h)
section
variable {w : World} {mean : ExcName → Option Value} {mg mb : Str → Option Value} {news : List (Addr × Obj)} {r dx : Addr} {l : List Value} {n c : Nat} {tk tv : Tok} {v : Int} {x y : Str} {t u : Tok} {q : Addr} {v0 : Value}
theorem push1_claim (hrd : @Ne Nat r dx) (hr : ∀ p ∈ news, p.1 ≠ r) (hd : ∀ p ∈ news, p.1 ≠ dx) :
    Claim w mean mg mb 45 ((r, rowO dx l.toArray n) :: (dx, isD w.params tk v tv) :: news) (l.length ≤ 1000) [.ref r, .str x t, .str y u]
      (fun v' new' => ∃ p n', v' = .none ∧ new' = (p, tupO #[.str x t, .str y u]) :: (r, rowO dx (l ++ [Value.ref p]).toArray n') :: (dx, isD w.params tk v tv) :: news ∧ ∀ q ∈ ((r, rowO dx l.toArray n) :: (dx, isD w.params tk v tv) :: news), q.1 < p) :=
  (push_claim hrd hr hd).map (fun h => by simpa using h) fun v' n' h => by
    obtain ⟨p, h1, h2, h3⟩ := h
    exact ⟨p, _, h1, by rw [h2, List.push_toArray], h3⟩
theorem pop1_claim (hrd : @Ne Nat r dx) (hr : ∀ p ∈ news, p.1 ≠ r) (hd : ∀ p ∈ news, p.1 ≠ dx) :
    Claim w mean mg mb 53 ((r, rowO dx (v0 :: l).toArray n) :: (dx, isD w.params tk v tv) :: news) (l.length ≤ 900) [.ref r, .int 1 t]
      (fun v' new' => ∃ p n', v' = .ref p ∧ new' = (p, listOf l.toArray 0) :: (r, rowO dx #[v0] n') :: (dx, isD w.params tk v tv) :: news ∧ ∀ q ∈ ((r, rowO dx (v0 :: l).toArray n) :: (dx, isD w.params tk v tv) :: news), q.1 < p) :=
  (pop_from_claim (k := 1) hrd hr hd).map (fun h => by simp; omega) fun v' n' h => by
    obtain ⟨p, n1, h1, h2, h3⟩ := h
    exact ⟨p, n1, h1, by rw [h2]; simp, h3⟩
theorem popA_claim (hrd : @Ne Nat r dx) (hr : ∀ p ∈ news, p.1 ≠ r) (hd : ∀ p ∈ news, p.1 ≠ dx) :
    Claim w mean mg mb 53 ((r, rowO dx l.toArray n) :: (dx, isD w.params tk v tv) :: news) (l.length ≤ 900) [.ref r]
      (fun v' new' => ∃ p n', v' = .ref p ∧ new' = (p, listOf l.toArray 0) :: (r, rowO dx #[] n') :: (dx, isD w.params tk v tv) :: news ∧ ∀ q ∈ ((r, rowO dx l.toArray n) :: (dx, isD w.params tk v tv) :: news), q.1 < p) :=
  (pop_all_claim hrd hr hd).map (fun h => by simp; omega) fun v' n' h => by
    obtain ⟨p, n1, h1, h2, h3⟩ := h
    exact ⟨p, n1, h1, by rw [h2]; simp, h3⟩
theorem reset1_claim (hrd : @Ne Nat r dx) (hrl : @Ne Nat q r) (hdl : @Ne Nat q dx) (hr : ∀ p ∈ news, p.1 ≠ r) (hd : ∀ p ∈ news, p.1 ≠ dx) :
    Claim w mean mg mb 82 ((r, rowO dx #[v0] n) :: (dx, isD w.params tk v tv) :: (q, listOf l.toArray c) :: news) (l.length ≤ 900) [.ref r, .ref q]
      (fun v' new' => ∃ n' tk tv, v' = .none ∧ new' = (r, rowO dx l.toArray n') :: (dx, isD w.params tk 0 tv) :: (q, listOf l.toArray c) :: news) :=
  (reset_claim hrd hrl hdl hr hd).map (fun h => by simp; omega) fun v' n' h => by
    obtain ⟨n1, k1, k2, h1, h2⟩ := h
    exact ⟨n1, k1, k2, h1, by rw [h2]; simp⟩
end
end
section
-- WG6
set_option maxRecDepth 100000
set_option maxHeartbeats 0
theorem Gen.toks1 {prog : Program} {w : World} {A : Around} {L a : Addr} {n : Nat} {F : Nat → Value → Prop} {s : Shared} (X : Gen prog w A L a n F s) : Gen prog w A L a n F { s with toks := s.toks + 1 } :=
  let ⟨fp, wr, g, St, W, h1, h2, h3, h4, h5⟩ := X; ⟨fp, wr, g, St, W, W.frame 0 s s.heap (s.toks + 1) h1 (Nat.le_succ _) (fun _ _ _ e => e), h2, h3, h4, h5⟩
theorem len_row {prog : Program} {w : World} {A : Around} {E : Value → Shared → Prop} {s : Shared} {r dx : Addr} {P : Params} {its : Array Value} {n : Nat} {od : Obj} {Q : Value → Shared → Prop} (X : (KK P).In s.heap) (I : InstAt s.heap r (rowO dx its n) 100 (some od))
    (h : wpAny (model prog w) A.in1 (call (.ref 67) [.ref r]) (fun v s' => ∃ k u, v = .int k u ∧ 0 ≤ k ∧ k < 2 ^ 63 ∧ Q (.int k s'.toks) { s' with toks := s'.toks + 1 }) E s) :
    wpAny (model prog w) A (call (.builtin "len") [.ref r]) Q E s := by
  refine Calls.call_function_entry kind_len plain_len entry_len (args_len1 _) ?_
  unfold Builtin.«len»
  refine wpAny_bind (m := oneArg "len" _) (wpAny_pure ?_)
  refine wpAny_bind (m := callSpecial? (.ref r) (Str.ofString "__len__")) (special_fn X I (f := 67) (by kernel_rfl) (by kernel_rfl) (wpAny_mono h (fun r s' hr => ?_) fun _ _ y => y))
  obtain ⟨n, u, rfl, h0, h1, hq⟩ := hr
  refine wpAny_bind (wpAny_holding (wpAny_pure ?_))
  refine wpAny_bind (wpAny_letGo ?_)
  show wpAny _ _ (if n < 0 then _ else _) _ _ _
  rw [if_neg (by omega)]
  show wpAny _ _ (if n ≥ 2 ^ 63 then _ else _) _ _ _
  rw [if_neg (by omega)]
  exact wpAny_bind (wpAny_mkInt (wpAny_pure ⟨_, rfl, hq⟩))
theorem str_row {prog : Program} {w : World} {A : Around} {E : Value → Shared → Prop} {s : Shared} {r dx : Addr} {P : Params} {its : Array Value} {n : Nat} {od : Obj} {Q : Value → Shared → Prop} (hu : A.in1.in1.units < cLine) (X : (KK P).In s.heap) (I : InstAt s.heap r (rowO dx its n) 100 (some od))
    (h : wpAny (model prog w) A.in1.in1 (call (.ref 74) [.ref r]) (StrBack Q) E s) : wpAny (model prog w) A (call (.type "str") [.ref r]) Q E s :=
  kso_call hu X I (by kernel_rfl) (by kernel_rfl) h

section
variable {w : World} {mean : ExcName → Option Value} {mg mb : Str → Option Value} {rest : List (Addr × Obj)} {r dx : Addr} {its : Array Value} {n : Nat} {tkz tv : Tok} {tx ty : Nat → Str} {Ts : Nat → Addr} {tvs uvs : Nat → Tok}
theorem len_claim (hrd : @Ne Nat r dx) (h1 : @Ne Nat r 62) (h2 : @Ne Nat dx 62) (h3 : ∀ p ∈ rest, p.1 ≠ 62) (hit : ∀ j, j < its.size → its[j]? = some (.ref (Ts j))) (htup : ∀ j, j < its.size → (Ts j, tupO #[.str (tx j) (tvs j), .str (ty j) (uvs j)]) ∈ rest) : ClaimG w mean mg mb 67 ((r, rowO dx its n) :: (dx, isD w.params tkz 0 tv) :: (62, tabObj #[]) :: rest) (∀ j, j < its.size → (tx j).length ≤ 10000 ∧ (ty j).length ≤ 10000) [.ref r] (fun v' new' => ∃ t ps, v' = .int (preSum (fun j => ((tx j).length : Int) + ((ty j).length : Int)) its.size) t ∧ new' = (r, rowO dx its n) :: (dx, isD w.params tkz 0 tv) :: (62, tabObj ps) :: rest) := by
  unfold ClaimG
  k_fill
  intros
  rename_i hpre _ _ hg hret
  refine wpAny_call ?_
  (k_dflt (refine' code_def ?k1 ?k2 ?k3 ?k4 ?k5 ?kA ?kF ?kK ?k6 ?k7 ?k8 ?k9 ?kB ?_ ?c2 ?c3 ?c4 ?c5; (case kA => exact rfl); (case kF => exact rfl); (case kK => assumption); (case k1 => k_asm); (case k2 => k_asm); (case k3 => k_asm); (case k4 => k_asm); (case k5 => k_asm); (case k6 => k_is); (case k7 => k_is); (case k8 => ktr_room); (case k9 => exact BindsTo.of_eq rfl); (case c5 => decide); (case kB => exact locs rfl); (case c2 => exact rfl); (case c3 => exact rfl); (case c4 => exact rfl); k_whole; intro g' L' h' FG' F' N' B' X' T'; (try dsimp only); (try k_lift B'); (try k_fold)))
  k_steps
  refine gen_row (r := r) (dx := dx) (c := 66) (P := 62) (its := its) (n := n) (Ts := Ts) (vals := fun j => #[.str (tx j) (tvs j), .str (ty j) (uvs j)]) (Fv := fun j v => ∃ tk, v = .int (((tx j).length : Int) + ((ty j).length : Int)) tk) F' X' N' T' (codeHd_of_K X' (by kernel_rfl)) (UpdF.tail h1 (UpdF.tail h2 (UpdF.head h3))) (by kernel_rfl) (.head _) (.tail _ (.head _)) hit (fun j hj => .tail _ (.tail _ (.tail _ (htup j hj)))) (fun j _ => ⟨_, _, rfl⟩) rfl (by first | ktr_room | (simp only [depth_under_make]; omega)) hg rfl (by decide) rfl rfl rfl rfl rfl rfl rfl (fun _ => rfl) ?he ?hc
  case he =>
    intro i hi va vb e A9 E9 s9 C9 code9 m9 F9 e1 e2
    have e3 : va = .str (tx i) (tvs i) ∧ vb = .str (ty i) (uvs i) := by
      have := congrArg Array.toList e
      simp at this
      exact ⟨this.1.symm, this.2.symm⟩
    obtain ⟨rfl, rfl⟩ := e3
    exact elt_len F9 X' T' e1 e2 (hpre i hi).1 (hpre i hi).2
  case hc =>
    intro ps a9 K9 h9 tk9 gs9 F9 N9 G9 hL9 hK9 Gn9
    k_steps
    refine row_get (od := isD w.params tkz 0 tv) (v := .int 0 tv) (X'.keeps F9.keep) (rowInst N9 (.head _) (.tail _ (.head _))) (findObj_own (by k_is) (by k_is) (by k_is) (by kernel_rfl)) (by k_handed) ?_
    replace Gn9 := Gen.toks1 Gn9
    k_steps
    refine sum0_rows F9 N9 hK9 G9 Gn9 hL9 (fun j => ((tx j).length : Int) + ((ty j).length : Int)) (fun _ _ hv => hv) (fun h8 tk8 gs8 t8 F8 N8 G8 => ?_)
    k_steps
    exact hret _ _ _ _ _ ⟨_, _, rfl, rfl⟩ (by assumption) (by assumption) (by assumption)

theorem str_claim (hrd : @Ne Nat r dx) (h1 : @Ne Nat r 69) (h2 : @Ne Nat dx 69) (h3 : ∀ p ∈ rest, p.1 ≠ 69) (hit : ∀ j, j < its.size → its[j]? = some (.ref (Ts j))) (htup : ∀ j, j < its.size → (Ts j, tupO #[.str (tx j) (tvs j), .str (ty j) (uvs j)]) ∈ rest) : ClaimG w mean mg mb 74 ((r, rowO dx its n) :: (dx, isD w.params tkz 0 tv) :: (69, tabObj #[]) :: rest) ((∀ j, j < its.size → (tx j).length ≤ 10000 ∧ (ty j).length ≤ 10000) ∧ JoinOk "" ((List.range its.size).map fun j => Txt.join "" [tx j, ty j]) = true ∧ its.size ≤ 1000) [.ref r] (fun v' new' => ∃ t ps, v' = .str (Txt.join "" ((List.range its.size).map fun j => Txt.join "" [tx j, ty j])) t ∧ new' = (r, rowO dx its n) :: (dx, isD w.params tkz 0 tv) :: (69, tabObj ps) :: rest) := by
  unfold ClaimG
  k_fill
  intros
  rename_i hpre _ _ hg hret
  refine wpAny_call ?_
  (k_dflt (refine' code_def ?k1 ?k2 ?k3 ?k4 ?k5 ?kA ?kF ?kK ?k6 ?k7 ?k8 ?k9 ?kB ?_ ?c2 ?c3 ?c4 ?c5; (case kA => exact rfl); (case kF => exact rfl); (case kK => assumption); (case k1 => k_asm); (case k2 => k_asm); (case k3 => k_asm); (case k4 => k_asm); (case k5 => k_asm); (case k6 => k_is); (case k7 => k_is); (case k8 => ktr_room); (case k9 => exact BindsTo.of_eq rfl); (case c5 => decide); (case kB => exact locs rfl); (case c2 => exact rfl); (case c3 => exact rfl); (case c4 => exact rfl); k_whole; intro g' L' h' FG' F' N' B' X' T'; (try dsimp only); (try k_lift B'); (try k_fold)))
  k_steps
  refine gen_row (r := r) (dx := dx) (c := 73) (P := 69) (its := its) (n := n) (Ts := Ts) (vals := fun j => #[.str (tx j) (tvs j), .str (ty j) (uvs j)]) (Fv := fun j v => ∃ tk, v = .str (Txt.join "" [tx j, ty j]) tk) F' X' N' T' (codeHd_of_K X' (by kernel_rfl)) (UpdF.tail h1 (UpdF.tail h2 (UpdF.head h3))) (by kernel_rfl) (.head _) (.tail _ (.head _)) hit (fun j hj => .tail _ (.tail _ (.tail _ (htup j hj)))) (fun j _ => ⟨_, _, rfl⟩) rfl (by first | ktr_room | (simp only [depth_under_make]; omega)) hg rfl (by decide) rfl rfl rfl rfl rfl rfl rfl (fun _ => rfl) ?he ?hc
  case he =>
    intro i hi va vb e A9 E9 s9 C9 code9 m9 F9 e1 e2
    have e3 : va = .str (tx i) (tvs i) ∧ vb = .str (ty i) (uvs i) := by
      have := congrArg Array.toList e
      simp at this
      exact ⟨this.1.symm, this.2.symm⟩
    obtain ⟨rfl, rfl⟩ := e3
    exact elt_join F9 X' T' e1 e2 (fun _ h => nomatch h) (hpre.1 i hi).1 (hpre.1 i hi).2
  case hc =>
    intro ps a9 K9 h9 tk9 gs9 F9 N9 G9 hL9 hK9 Gn9
    k_steps
    refine join_rows' F9 N9 hK9 G9 Gn9 hL9 (fun j => Txt.join "" [tx j, ty j]) (fun _ _ hv => hv) hpre.2.1 (by rw [sizeLine_eq]; have := hpre.2.2; omega) (fun h8 tk8 gs8 t8 F8 N8 G8 => ?_)
    k_steps
    exact hret _ _ _ _ _ ⟨_, _, rfl, rfl⟩ (by assumption) (by assumption) (by assumption)

end
end
section
local macro_rules | `(tactic| walk_at "eval Name") => `(tactic| (k_here; name_kind "local"; k_dflt (first | (refine' ldLoc ?k1 ?k2 ?_ ?k3 ?k4; (case k1 => k_asm); (case k2 => assumption); (case k3 => rfl); (case k4 => rfl); k_whole) | fail "no")))
section
local macro_rules | `(tactic| k_ne) => `(tactic| ((try dsimp only); first | assumption | exact Nat.ne_of_gt (by assumption) | exact Nat.ne_of_lt (by assumption) | exact Ne.symm (by assumption)))
local macro_rules | `(tactic| walk_at "callWith ref") => `(tactic| (k_here; (with_reducible show wpAny _ _ (callWith _ (Value.ref (escA _)) _ _ _) _ _ _); k_dflt (first | (refine' callWith_K ?k1 ?k2 ?_; (case k1 => k_asm); (case k2 => exact escA_keep _ _); k_whole) | fail "no")))
local macro_rules | `(tactic| walk_at "subscriptTail") => `(tactic| (k_here; (with_reducible show wpAny _ _ (subscriptTail _ _ (Value.ref _) (Value.int _ _)) _ _ _); k_dflt (first | (refine' pickE ?k1 ?k2 ?k3 ?k4 ?_ ?k5; (case k1 => k_asm); (case k2 => k_mem); (case k3 => first | assumption | omega); (case k4 => first | assumption | omega); (case k5 => with_unfolding_all rfl); k_whole) | fail "no")))
local macro_rules | `(tactic| walk_at "call ref") => `(tactic| (k_here; (with_reducible show wpAny _ _ (call (Value.ref (escA _)) [Value.str _ _]) _ _ _); k_dflt (first | (refine' Claim.use esc_claim ?kB ?kF ?kX ?kN ?kT ?kk ?kp ?kd ?ku ?_; (case kB => k_asm); (case kF => k_asm); (case kX => k_asm); (case kN => k_asm); (case kT => k_asm); (case kk => rfl); (case kp => assumption); (case kd => decide +kernel); (case ku => decide +kernel); (intro v0 n0 hp0; obtain ⟨t1', hv0, hn0⟩ := hp0; subst hv0; subst hn0; intro h' tk' F' N')) | fail "no")))
section
-- LS5
set_option maxRecDepth 100000
set_option maxHeartbeats 0
local macro_rules | `(tactic| walk_at "call ref") => `(tactic| (k_here; (with_reducible show wpAny _ _ (call (Value.ref 45) [Value.ref _, Value.str _ _, Value.str _ _]) _ _ _); k_dflt (first | (refine' Claim.use (push_claim ?g1 ?g2 ?g3) ?kB ?kF ?kX ?kN ?kT ?kk ?kp ?kd ?ku ?_; (case kB => k_asm); (case kF => k_asm); (case kX => k_asm); (case kN => k_asm); (case kT => k_asm); (case kk => rfl); (case kp => first | assumption | decide | (simp; done)); (case kd => decide +kernel); (case ku => decide +kernel); ((case g1 => first | assumption | exact Nat.ne_of_gt (by assumption) | exact Nat.ne_of_lt (by assumption) | (refine neN ?_; omega)); (case g2 => k_all); (case g3 => k_all); (intro v0 n0 hp0; obtain ⟨p', hv0, hn0, l1⟩ := hp0; subst hv0; subst hn0; intro h' tk' F' N'; (try k_lt l1)))) | fail "no")))
section
variable {w : World} {mean : ExcName → Option Value} {mg mb : Str → Option Value} {p : Program} {loose : List Str} {base h₀ : Heap} {s : Shared} {L f l : Addr} {cd : Value} {m : Str → Option Value} {Q : Flow → Shared → Prop} {E : Value → Shared → Prop} {its : List Value} {ns : List Int} {tabs : List (Addr × Obj)}
variable {c1 c2 c3 c4 c5 c6 : Obj} {code : Int} {t : Tok} {D : Addr} {ws : List Value} {nD : Nat}
theorem seg3b (K : Below callerA base [] h₀) (X : (KK w.params).In h₀) (T : Top p loose mean mg mb h₀) (F : Fr h₀ L s.heap m) {most second : Int} {tm tks t1 t2 t4 : Tok} {a sg : Str} {r dx es : Addr} (hm : m "row" = some (.ref r)) (hm2 : m "escapes" = some (.ref es))
    (d1 : c1.data = .cell (some (.str a t1))) (d2 : c2.data = .cell (some (.str sg t2))) (d4 : c4.data = .cell (some (.int second t4))) (h40 : 0 ≤ second) (h41 : second < 5) (ha : 3 ≤ a.length) (ha2 : a.length ≤ 4) (hfit : fitF second sg)
    (N : News h₀ L s.heap ((r, rowO dx #[] 0) :: (dx, isD w.params tks most tm) :: (es, listOf #[.ref 182, .ref 189, .ref 196, .ref 203, .ref 210] 0) :: (L + 1 + 1 + 1 + 1 + 1 + 1, c6) :: (L + 1 + 1 + 1 + 1 + 1, c5) :: (L + 1 + 1 + 1 + 1, c4) :: (L + 1 + 1 + 1, c3) :: (L + 1 + 1, c2) :: (L + 1, c1) :: (D, listOf ws.toArray nD) :: (62, tabObj #[]) :: (69, tabObj #[]) :: [])) (hL1 : @LT.lt Nat _ 62 L) (hL2 : @LT.lt Nat _ 69 L) (hD : @LT.lt Nat _ (L + 1 + 1 + 1 + 1 + 1 + 1) D) (hes : @LT.lt Nat _ D es) (hdx : @LT.lt Nat _ es dx) (hr : @LT.lt Nat _ dx r)
    (hQ : ∀ h' tk' p t1 t2, Fr h₀ L h' m → News h₀ L h' ((p, tupO #[.str (escF second sg) t1, .str (Txt.item a 1) t2]) :: (r, rowO dx #[.ref p] 1) :: (dx, isD w.params tks most tm) :: (es, listOf #[.ref 182, .ref 189, .ref 196, .ref 203, .ref 210] 0) :: (L + 1 + 1 + 1 + 1 + 1 + 1, c6) :: (L + 1 + 1 + 1 + 1 + 1, c5) :: (L + 1 + 1 + 1 + 1, c4) :: (L + 1 + 1 + 1, c3) :: (L + 1 + 1, c2) :: (L + 1, c1) :: (D, listOf ws.toArray nD) :: (62, tabObj #[]) :: (69, tabObj #[]) :: []) → @LT.lt Nat _ r p → Q .next { s with heap := h', toks := tk' }) :
    wpAny (model PySem.Challenge.rw_xo0036_01.row.prog w) (callerA.deeper (envOfC (Str.ofString "law") s22 L f cd)) (execs g5 (envOfC (Str.ofString "law") s22 L f cd)) Q E s := by
  revert X
  k_fill
  intro X
  have q_k6_D : @LT.lt Nat _ (L + 1 + 1 + 1 + 1 + 1 + 1) D := hD
  have q_D_dx : @LT.lt Nat _ D dx := Nat.lt_trans hes hdx
  have q_k6_dx : @LT.lt Nat _ (L + 1 + 1 + 1 + 1 + 1 + 1) dx := Nat.lt_trans q_k6_D q_D_dx
  have q_k5_dx : @LT.lt Nat _ (L + 1 + 1 + 1 + 1 + 1) dx := Nat.lt_of_succ_lt q_k6_dx
  have q_k4_dx : @LT.lt Nat _ (L + 1 + 1 + 1 + 1) dx := Nat.lt_of_succ_lt q_k5_dx
  have q_k3_dx : @LT.lt Nat _ (L + 1 + 1 + 1) dx := Nat.lt_of_succ_lt q_k4_dx
  have q_k2_dx : @LT.lt Nat _ (L + 1 + 1) dx := Nat.lt_of_succ_lt q_k3_dx
  have q_k1_dx : @LT.lt Nat _ (L + 1) dx := Nat.lt_of_succ_lt q_k2_dx
  have q_L_dx : @LT.lt Nat _ L dx := Nat.lt_of_succ_lt q_k1_dx
  have q_A62_dx : @LT.lt Nat _ 62 dx := Nat.lt_trans hL1 q_L_dx
  have q_A69_dx : @LT.lt Nat _ 69 dx := Nat.lt_trans hL2 q_L_dx
  have q_es_r : @LT.lt Nat _ es r := Nat.lt_trans hdx hr
  have q_D_r : @LT.lt Nat _ D r := Nat.lt_trans q_D_dx hr
  have q_k6_r : @LT.lt Nat _ (L + 1 + 1 + 1 + 1 + 1 + 1) r := Nat.lt_trans q_k6_D q_D_r
  have q_k5_r : @LT.lt Nat _ (L + 1 + 1 + 1 + 1 + 1) r := Nat.lt_of_succ_lt q_k6_r
  have q_k4_r : @LT.lt Nat _ (L + 1 + 1 + 1 + 1) r := Nat.lt_of_succ_lt q_k5_r
  have q_k3_r : @LT.lt Nat _ (L + 1 + 1 + 1) r := Nat.lt_of_succ_lt q_k4_r
  have q_k2_r : @LT.lt Nat _ (L + 1 + 1) r := Nat.lt_of_succ_lt q_k3_r
  have q_k1_r : @LT.lt Nat _ (L + 1) r := Nat.lt_of_succ_lt q_k2_r
  have q_L_r : @LT.lt Nat _ L r := Nat.lt_of_succ_lt q_k1_r
  have q_A62_r : @LT.lt Nat _ 62 r := Nat.lt_trans hL1 q_L_r
  have q_A69_r : @LT.lt Nat _ 69 r := Nat.lt_trans hL2 q_L_r
  k_steps
  exact hQ _ _ _ _ _ (by assumption) (by assumption) (by omega)
end
end
section
local macro_rules | `(tactic| walk_at "call ref") => `(tactic| (k_here; (with_reducible show wpAny _ _ (call (Value.ref 45) [Value.ref _, Value.str _ _, Value.str _ _]) _ _ _); k_dflt (first | (refine' Claim.use (push1_claim ?g1 ?g2 ?g3) ?kB ?kF ?kX ?kN ?kT ?kk ?kp ?kd ?ku ?_; (case kB => k_asm); (case kF => k_asm); (case kX => k_asm); (case kN => first | k_asm | exact News.front1 (by k_asm) | exact News.front2 (by k_asm) | exact News.front3 (by k_asm) | exact News.front4 (by k_asm) | exact News.front5 (by k_asm) | exact News.front6 (by k_asm) | exact News.front7 (by k_asm) | exact News.front8 (by k_asm)); (case kT => k_asm); (case kk => rfl); (case kp => first | assumption | omega | (simp only [List.length_append, List.length_cons, List.length_nil]; omega)); (case kd => decide +kernel); (case ku => decide +kernel); ((case g1 => first | assumption | exact Nat.ne_of_gt (by assumption) | exact Nat.ne_of_lt (by assumption) | (refine neN ?_; omega)); (case g2 => k_all); (case g3 => k_all); (intro v0 n0 hp0; obtain ⟨p', n', hv0, hn0, l1⟩ := hp0; subst hv0; subst hn0; intro h' tk' F' N'; (try k_lt l1)))) | fail "no")))
local macro_rules | `(tactic| k_mem) => `(tactic| first | exact List.Mem.head _ | assumption | (refine' List.Mem.tail _ ?_; k_mem))
section
-- LT0
local macro_rules | `(tactic| walk_at "zz") => `(tactic| fail "no")
set_option maxRecDepth 100000
set_option maxHeartbeats 0
open PyProof.Rows.LCg PyProof.Rows.LCt
@[reducible] noncomputable def gl61 {x : List Stmt} (a b c d e f g : Stmt) (_ : x = [a, b, c, d, e, f, g]) : List Stmt := [a, b, c, d, e, f]
@[reducible] noncomputable def gl71 {x : List Stmt} (a b c d e f g : Stmt) (_ : x = [a, b, c, d, e, f, g]) : List Stmt := [g]
@[reducible] noncomputable def fB7P : List Stmt := gl61 _ _ _ _ _ _ _ (rfl : forBodyOf g7 = [_, _, _, _, _, _, _])
@[reducible] noncomputable def fB7T : List Stmt := gl71 _ _ _ _ _ _ _ (rfl : forBodyOf g7 = [_, _, _, _, _, _, _])
section
variable {w : World} {mean : ExcName → Option Value} {mg mb : Str → Option Value} {p : Program} {loose : List Str} {base h₀ : Heap} {s : Shared} {L f l : Addr} {cd : Value} {m : Str → Option Value} {Q : Flow → Shared → Prop} {E : Value → Shared → Prop} {its : List Value} {ns : List Int} {tabs : List (Addr × Obj)}
variable {c1 c2 c3 c4 c5 c6 : Obj} {D r dx es tn p0 : Addr} {ws : List Value} {nD n nt : Nat} {a d wr le sg : Str} {first second most x v rank turns : Int} {t1 t2 t3 t4 td tm tks tv tw tl tx tt : Tok} {more tk0 : List Value} {TT : List (Addr × Obj)} {cc1 cc2 : Nat}
theorem turnP {ST : List (Addr × Obj)} (K : Below callerA base [] h₀) (X : (KK w.params).In h₀) (T : Top p loose mean mg mb h₀) (F : Fr h₀ L s.heap m) (d1 : c1.data = .cell (some (.str a t1))) (d3 : c3.data = .cell (some (.int first t3))) (d4 : c4.data = .cell (some (.int second t4)))
    (m1 : m "row" = some (.ref r)) (m2 : m "escapes" = some (.ref es)) (m3 : m "taken" = some (.ref tn)) (m4 : m "doubles" = some (.str d td)) (m5 : m "most" = some (.int most tm)) (m6 : m "turns" = some (.int turns tt))
    (N : News h₀ L s.heap ((r, rowO dx (.ref p0 :: more).toArray n) :: (dx, isD w.params tks v tv) :: (tn, listOf tk0.toArray nt) :: (p0, tupO #[.str wr tw, .str le tl]) :: ST)) (hSe : (es, listOf #[.ref 182, .ref 189, .ref 196, .ref 203, .ref 210] 0) ∈ ST) (hS1 : (L + 1, c1) ∈ ST) (hS3 : (L + 1 + 1 + 1, c3) ∈ ST) (hS4 : (L + 1 + 1 + 1 + 1, c4) ∈ ST) (hr : @LT.lt Nat _ dx r) (htn : @LT.lt Nat _ r tn) (hp0 : @LT.lt Nat _ r p0) (hp1 : @Ne Nat p0 tn) (hT1 : ∀ p ∈ ST, p.1 ≠ r) (hT2 : ∀ p ∈ ST, p.1 ≠ dx) (hT3 : ∀ p ∈ ST, p.1 ≠ tn)
    (hf0 : 0 ≤ first) (hf1 : first < 5) (hs0 : 0 ≤ second) (hs1 : second < 5) (hmore : more.length ≤ 900) (htk : tk0.length ≤ 900) (hfit1 : fitF first wr) (hfit2 : fitF second wr) (ha : a.length ≤ 4) (hle : le.length ≤ 4)
    (hsp : spelledPre a d (Txt.find a le) most x) (hsz : (spelledF a d (Txt.find a le) most x).cps.size ≤ 1000) (hjn : ((foldB (spelledF a d (Txt.find a le) most x).cps.toList).map (·.length)).sum + (foldB (spelledF a d (Txt.find a le) most x).cps.toList).length * 64 ≤ 16777216)
    (hQ : ∀ h' tk' m' q n' nt' tks' tv' tW, Fr h₀ L h' m' → News h₀ L h' ((r, rowO dx more.toArray n') :: (dx, isD w.params tks' 0 tv') :: (tn, listOf (tk0 ++ [Value.ref q]).toArray nt') :: (q, tupO #[.str wr tw, .str le tl]) :: ST) → m' "row" = some (.ref r) → m' "escapes" = some (.ref es) → m' "taken" = some (.ref tn) → m' "doubles" = some (.str d td) → m' "most" = some (.int most tm) → m' "turns" = some (.int turns tt) → m' "word" = some (.str (Txt.join (Str.ofString "") (foldB (spelledF a d (Txt.find a le) most x).cps.toList)) tW) → m' "writing" = some (.str wr tw) →
      @LT.lt Nat _ r q → @LT.lt Nat _ tn q → Q .next { s with heap := h', toks := tk' })
    (hE : PassesOwn (model PySem.Challenge.rw_xo0036_01.row.prog w) (callerA.deeper (envOfC (Str.ofString "law") s22 L f cd)) (envOfC (Str.ofString "law") s22 L f cd) E) : wpAny (model PySem.Challenge.rw_xo0036_01.row.prog w) (callerA.deeper (envOfC (Str.ofString "law") s22 L f cd)) (assign fT7 (envOfC (Str.ofString "law") s22 L f cd) (.int x tx)) (fun _ s₂ => wpAny (model PySem.Challenge.rw_xo0036_01.row.prog w) (callerA.deeper (envOfC (Str.ofString "law") s22 L f cd)) (execs fB7P (envOfC (Str.ofString "law") s22 L f cd)) Q E s₂) E s := by
  revert X
  k_fill
  intro X
  have q_dx_tn : @LT.lt Nat _ dx tn := Nat.lt_trans hr htn
  have q_dx_p0 : @LT.lt Nat _ dx p0 := Nat.lt_trans hr hp0
  iterate 13 (first | walk1 | (dsimp only; walk1))
  k_dflt (first | (refine' Claim.use (pop1_claim ?ag1 ?ag2 ?ag3) ?akB ?akF ?akX ?akN ?akT ?akk ?akp ?akd ?aku ?_; (case akB => k_asm); (case akF => k_asm); (case akX => k_asm); (case akN => k_asm); (case akT => k_asm); (case akk => rfl); (case akp => assumption); (case akd => decide +kernel); (case aku => decide +kernel); ((case ag1 => first | assumption | exact Nat.ne_of_gt (by assumption) | exact Nat.ne_of_lt (by assumption) | (refine neN ?_; omega)); (case ag2 => k_all); (case ag3 => k_all); (intro v0 n0 hp0; obtain ⟨p', n', hv0, hn0, l1⟩ := hp0; subst hv0; subst hn0; intro h' tk' F' N'; (try k_lt l1)))) | fail "no")
  iterate 31 (first | walk1 | (dsimp only; walk1))
  k_dflt (first | (refine' append1_K ?bk1 ?bk2 ?bk3 ?_ ?bz; (case bk1 => k_asm); (case bk2 => k_asm); (case bk3 => k_upd); (case bz => assumption); k_whole) | fail "no"); intro h' F' N'; (try k_sweep)
  iterate 11 (first | walk1 | (dsimp only; walk1))
  k_dflt (first | (refine' Claim.use (reset1_claim ?cg1 ?cg4 ?cg5 ?cg2 ?cg3) ?ckB ?ckF ?ckX ?ckN ?ckT ?ckk ?ckp ?ckd ?cku ?_; (case ckB => k_asm); (case ckF => k_asm); (case ckX => k_asm); (case ckN => exact News.rot4 (by k_asm)); (case ckT => k_asm); (case ckk => rfl); (case ckp => assumption); (case ckd => decide +kernel); (case cku => decide +kernel); ((case cg1 => first | assumption | exact Nat.ne_of_gt (by assumption) | exact Nat.ne_of_lt (by assumption) | (refine neN ?_; omega)); (case cg4 => first | assumption | exact Nat.ne_of_gt (by assumption) | exact Nat.ne_of_lt (by assumption) | (refine neN ?_; omega)); (case cg5 => first | assumption | exact Nat.ne_of_gt (by assumption) | exact Nat.ne_of_lt (by assumption) | (refine neN ?_; omega)); (case cg2 => k_all); (case cg3 => k_all); (intro v0 n0 hp0; obtain ⟨n', k1', k2', hv0, hn0⟩ := hp0; subst hv0; subst hn0; intro h' tk' F' N'))) | fail "no")
  iterate 24 (first | walk1 | (dsimp only; walk1))
  k_dflt (first | (refine' Claim.use spelled_claim ?dkB ?dkF ?dkX ?dkN ?dkT ?dkk ?dkp ?dkd ?dku ?_; (case dkB => k_asm); (case dkF => k_asm); (case dkX => k_asm); (case dkN => k_asm); (case dkT => k_asm); (case dkk => rfl); (case dkp => assumption); (case dkd => decide +kernel); (case dku => decide +kernel); ((intro v0 n0 hp0; obtain ⟨t1', hv0, hn0⟩ := hp0; subst hv0; subst hn0; intro h' tk' F' N'))) | fail "no")
  iterate 9 (first | walk1 | (dsimp only; walk1))
  k_dflt (first | (refine' ListComp_ST ?ek1 ?ek2 ?ek3 ?ek4 ?ek5 ?ek6 ?_ ?ek7; (case ek1 => k_asm); (case ek2 => rfl); (case ek3 => decide); (case ek4 => rfl); (case ek5 => decide); (case ek6 => rfl); (case ek7 => intro _; rfl)) | fail "no")
  iterate 1 (first | walk1 | (dsimp only; walk1))
  k_dflt (first | (refine' fold_src ?fk1 ?fk2 ?fk3 ?fk4 ?fk5 ?fk6 ?_; (case fk1 => k_asm); (case fk2 => k_asm); (case fk3 => k_asm); (case fk4 => k_asm); (case fk5 => k_asm); (case fk6 => assumption); intro D' h' tk' ys' F' N' o1 hs'; (try simp only [LCg.Off1] at o1); (repeat (have := And.left o1; replace o1 := And.right o1))) | fail "no")
  iterate 1 (first | walk1 | (dsimp only; walk1))
  k_dflt (first | (refine' join_listC ?gk1 ?gk2 ?gk3 ?gk4 ?_; (case gk1 => exact News.isList (by k_asm) (by k_mem)); (case gk2 => assumption); (case gk3 => decide); (case gk4 => assumption); intro t' k') | fail "no")
  k_steps
  refine' hQ _ _ _ _ _ _ _ _ _ ?eF ?eN ?n1 ?n2 ?n3 ?n4 ?n5 ?n6 ?n7 ?n8 ?o1 ?o2
  case eF => assumption
  case eN =>
    refine cb_drop (by assumption) ?_
    repeat (refine List.forall_mem_cons.mpr ⟨by k_mem, ?_⟩)
    intro pz hz
    repeat (first | exact hz | apply List.mem_cons_of_mem)
  case n1 => exact m1
  case n2 => exact m2
  case n3 => exact m3
  case n4 => exact m4
  case n5 => exact m5
  case n6 => exact m6
  case n7 => exact if_pos rfl
  case n8 => repeat (first | exact if_pos rfl | refine (if_neg (by decide)).trans ?_)
  all_goals omega
end
end
section
-- LT1
set_option maxRecDepth 100000
set_option maxHeartbeats 0
open PyProof.Rows.LCg PyProof.Rows.LCt
section
variable {w : World} {mean : ExcName → Option Value} {mg mb : Str → Option Value} {p : Program} {loose : List Str} {base h₀ : Heap} {s : Shared} {L f l : Addr} {cd : Value} {m : Str → Option Value} {Q : Flow → Shared → Prop} {E : Value → Shared → Prop} {its : List Value} {ns : List Int} {tabs : List (Addr × Obj)}
variable {c1 c2 c3 c4 c5 c6 : Obj} {D r dx es tn p0 : Addr} {ws : List Value} {nD n nt : Nat} {a d wr le sg : Str} {first second most x v rank turns : Int} {t1 t2 t3 t4 td tm tks tv tw tl tx tt : Tok} {more tk0 : List Value} {TT : List (Addr × Obj)} {cc1 cc2 : Nat}
theorem turnT2 {ST : List (Addr × Obj)} {W : Str} {tW : Tok} {q0 : Addr} (K : Below callerA base [] h₀) (X : (KK w.params).In h₀) (T : Top p loose mean mg mb h₀) (F : Fr h₀ L s.heap m) (d3 : c3.data = .cell (some (.int first t3))) (d4 : c4.data = .cell (some (.int second t4)))
    (m1 : m "row" = some (.ref r)) (m2 : m "escapes" = some (.ref es)) (m3 : m "taken" = some (.ref tn)) (m4 : m "doubles" = some (.str d td)) (m5 : m "most" = some (.int most tm)) (m6 : m "turns" = some (.int turns tt)) (mW : m "word" = some (.str W tW)) (mV : m "writing" = some (.str wr tw))
    (N : News h₀ L s.heap ((r, rowO dx more.toArray n) :: (dx, isD w.params tks 0 tv) :: (tn, listOf (tk0 ++ [Value.ref q0]).toArray nt) :: (q0, tupO #[.str wr tw, .str le tl]) :: ST)) (hSe : (es, listOf #[.ref 182, .ref 189, .ref 196, .ref 203, .ref 210] 0) ∈ ST) (hS3 : (L + 1 + 1 + 1, c3) ∈ ST) (hS4 : (L + 1 + 1 + 1 + 1, c4) ∈ ST) (hr : @LT.lt Nat _ dx r) (htn : @LT.lt Nat _ r tn) (hp0 : @LT.lt Nat _ r q0) (hp1 : @LT.lt Nat _ tn q0) (hT1 : ∀ p ∈ ST, p.1 ≠ r) (hT2 : ∀ p ∈ ST, p.1 ≠ dx) (hT3 : ∀ p ∈ ST, p.1 ≠ tn)
    (hf0 : 0 ≤ first) (hf1 : first < 5) (hs0 : 0 ≤ second) (hs1 : second < 5) (hmore : more.length ≤ 900) (htk : tk0.length ≤ 900) (hfit1 : fitF first wr) (hfit2 : fitF second wr) (ha : a.length ≤ 4) (hle : le.length ≤ 4)
    (hasc : W.cps.all (· < 128) = true) (hcs : W.cps.toList = [cc1, cc2])
    (hQ : ∀ h' tk' m' p1 p2 q n' nt' tks' tv' u1 u2 u3 u4 u5 u6, Fr h₀ L h' m' → News h₀ L h' ((r, rowO dx (more ++ [Value.ref p1] ++ [Value.ref p2]).toArray n') :: (dx, isD w.params tks' 0 tv') :: (tn, listOf (tk0 ++ [Value.ref q]).toArray nt') :: (p2, tupO #[.str (escF second wr) u1, .str ⟨#[cc2]⟩ u2]) :: (p1, tupO #[.str (escF first wr) u3, .str ⟨#[cc1]⟩ u4]) :: (q, tupO #[.str wr u5, .str le u6]) :: ST) → m' "row" = some (.ref r) → m' "escapes" = some (.ref es) → m' "taken" = some (.ref tn) → m' "doubles" = some (.str d td) → m' "most" = some (.int most tm) → m' "turns" = some (.int turns tt) →
      @LT.lt Nat _ r p1 → @LT.lt Nat _ r p2 → @LT.lt Nat _ r q → @LT.lt Nat _ tn p1 → @LT.lt Nat _ tn p2 → @LT.lt Nat _ tn q → Q .next { s with heap := h', toks := tk' })
    (hE : PassesOwn (model PySem.Challenge.rw_xo0036_01.row.prog w) (callerA.deeper (envOfC (Str.ofString "law") s22 L f cd)) (envOfC (Str.ofString "law") s22 L f cd) E) : wpAny (model PySem.Challenge.rw_xo0036_01.row.prog w) (callerA.deeper (envOfC (Str.ofString "law") s22 L f cd)) (execs fB7T (envOfC (Str.ofString "law") s22 L f cd)) Q E s := by
  revert X
  k_fill
  intro X
  have q_dx_tn : @LT.lt Nat _ dx tn := Nat.lt_trans hr htn
  have q_dx_q0 : @LT.lt Nat _ dx q0 := Nat.lt_trans hr hp0
  iterate 1 (first | walk1 | (dsimp only; walk1))
  (rename Fr _ _ _ _ => lF'); (with_unfolding_all refine' For_turns lF' ?_ (hE := ?ihE); (case ihE => assumption); k_whole)
  iterate 20 (first | walk1 | (dsimp only; walk1))
  k_dflt (first | (refine' ktu_zipS1 ?jkc ?jk1 ?jk2 ?jk3 ?jk4 ?jk5 ?jk6 ?jk7 ?jk8 ?_; (case jkc => assumption); (case jk1 => rfl); (case jk2 => k_asm); (case jk3 => k_asm); (case jk4 => assumption); (case jk6 => k_mem); (case jk7 => rfl); (case jk8 => rfl); (case jk5 => exact Nat.le_of_ble_eq_true rfl); intro I' hI'; (have hI9 := hI'); (try k_lt hI')) | fail "no")
  k_steps
  · refine' UnrEndW.five3 ?zk1 ?zk2 ?zk3 ?_
    case zk1 => k_asm
    case zk2 => k_asm
    case zk3 =>
      repeat (refine List.forall_mem_cons.mpr ⟨by first | exact five_lt (by (try dsimp only); first | assumption | omega) | exact five_gt (by (try dsimp only); first | assumption | omega), ?_⟩)
      intro pz hz
      refine five_lt (lt_drop (by assumption) ?_ pz hz)
      intro pz hz
      repeat (first | exact hz | apply List.mem_cons_of_mem)
    try dsimp only
    refine And.intro (And.intro (by k_mem) trivial) ?_
    k_steps
    · refine' UnrEndW.five3 ?yk1 ?yk2 ?yk3 ?_
      case yk1 => k_asm
      case yk2 => k_asm
      case yk3 =>
        repeat (refine List.forall_mem_cons.mpr ⟨by first | exact five_lt (by (try dsimp only); first | assumption | omega) | exact five_gt (by (try dsimp only); first | assumption | omega), ?_⟩)
        intro pz hz
        refine five_lt (lt_drop (by assumption) ?_ pz hz)
        intro pz hz
        repeat (first | exact hz | apply List.mem_cons_of_mem)
      try dsimp only
      refine And.intro (And.intro (by k_mem) trivial) ?_
      k_steps
      refine' hQ _ _ _ _ _ _ _ _ _ _ _ _ _ _ _ _ ?eF ?eN ?n1 ?n2 ?n3 ?n4 ?n5 ?n6 ?o1 ?o2 ?o3 ?o4 ?o5 ?o6
      case eF => assumption
      case eN =>
        refine cb_drop (by assumption) ?_
        repeat (refine List.forall_mem_cons.mpr ⟨by k_mem, ?_⟩)
        intro pz hz
        repeat (first | exact hz | apply List.mem_cons_of_mem)
      case n1 => exact m1
      case n2 => exact m2
      case n3 => exact m3
      case n4 => exact m4
      case n5 => exact m5
      case n6 => exact m6
      all_goals omega
theorem turn2i {ST : List (Addr × Obj)} (K : Below callerA base [] h₀) (X : (KK w.params).In h₀) (T : Top p loose mean mg mb h₀) (F : Fr h₀ L s.heap m) (d1 : c1.data = .cell (some (.str a t1))) (d3 : c3.data = .cell (some (.int first t3))) (d4 : c4.data = .cell (some (.int second t4)))
    (m1 : m "row" = some (.ref r)) (m2 : m "escapes" = some (.ref es)) (m3 : m "taken" = some (.ref tn)) (m4 : m "doubles" = some (.str d td)) (m5 : m "most" = some (.int most tm)) (m6 : m "turns" = some (.int turns tt))
    (N : News h₀ L s.heap ((r, rowO dx (.ref p0 :: more).toArray n) :: (dx, isD w.params tks v tv) :: (tn, listOf tk0.toArray nt) :: (p0, tupO #[.str wr tw, .str le tl]) :: ST)) (hSe : (es, listOf #[.ref 182, .ref 189, .ref 196, .ref 203, .ref 210] 0) ∈ ST) (hS1 : (L + 1, c1) ∈ ST) (hS3 : (L + 1 + 1 + 1, c3) ∈ ST) (hS4 : (L + 1 + 1 + 1 + 1, c4) ∈ ST) (hr : @LT.lt Nat _ dx r) (htn : @LT.lt Nat _ r tn) (hp0 : @LT.lt Nat _ r p0) (hp1 : @Ne Nat p0 tn) (hT1 : ∀ p ∈ ST, p.1 ≠ r) (hT2 : ∀ p ∈ ST, p.1 ≠ dx) (hT3 : ∀ p ∈ ST, p.1 ≠ tn)
    (hf0 : 0 ≤ first) (hf1 : first < 5) (hs0 : 0 ≤ second) (hs1 : second < 5) (hmore : more.length ≤ 900) (htk : tk0.length ≤ 900) (hfit1 : fitF first wr) (hfit2 : fitF second wr) (ha : a.length ≤ 4) (hle : le.length ≤ 4)
    (hsp : spelledPre a d (Txt.find a le) most x) (hsz : (spelledF a d (Txt.find a le) most x).cps.size ≤ 1000) (hjn : ((foldB (spelledF a d (Txt.find a le) most x).cps.toList).map (·.length)).sum + (foldB (spelledF a d (Txt.find a le) most x).cps.toList).length * 64 ≤ 16777216)
    (hasc : (Txt.join (Str.ofString "") (foldB (spelledF a d (Txt.find a le) most x).cps.toList)).cps.all (· < 128) = true) (hcs : (Txt.join (Str.ofString "") (foldB (spelledF a d (Txt.find a le) most x).cps.toList)).cps.toList = [cc1, cc2])
    (hQ : ∀ h' tk' m' p1 p2 q n' nt' tks' tv' u1 u2 u3 u4 u5 u6, Fr h₀ L h' m' → News h₀ L h' ((r, rowO dx (more ++ [Value.ref p1] ++ [Value.ref p2]).toArray n') :: (dx, isD w.params tks' 0 tv') :: (tn, listOf (tk0 ++ [Value.ref q]).toArray nt') :: (p2, tupO #[.str (escF second wr) u1, .str ⟨#[cc2]⟩ u2]) :: (p1, tupO #[.str (escF first wr) u3, .str ⟨#[cc1]⟩ u4]) :: (q, tupO #[.str wr u5, .str le u6]) :: ST) → m' "row" = some (.ref r) → m' "escapes" = some (.ref es) → m' "taken" = some (.ref tn) → m' "doubles" = some (.str d td) → m' "most" = some (.int most tm) → m' "turns" = some (.int turns tt) →
      @LT.lt Nat _ r p1 → @LT.lt Nat _ r p2 → @LT.lt Nat _ r q → @LT.lt Nat _ tn p1 → @LT.lt Nat _ tn p2 → @LT.lt Nat _ tn q → Q .next { s with heap := h', toks := tk' })
    (hE : PassesOwn (model PySem.Challenge.rw_xo0036_01.row.prog w) (callerA.deeper (envOfC (Str.ofString "law") s22 L f cd)) (envOfC (Str.ofString "law") s22 L f cd) E) : wpAny (model PySem.Challenge.rw_xo0036_01.row.prog w) (callerA.deeper (envOfC (Str.ofString "law") s22 L f cd)) (assign fT7 (envOfC (Str.ofString "law") s22 L f cd) (.int x tx)) (fun _ s₂ => wpAny (model PySem.Challenge.rw_xo0036_01.row.prog w) (callerA.deeper (envOfC (Str.ofString "law") s22 L f cd)) (execs fB7 (envOfC (Str.ofString "law") s22 L f cd)) Q E s₂) E s := by
  refine wpAny_mono (turnP (Q := fun fl s' => match fl with | .next => wpAny (model PySem.Challenge.rw_xo0036_01.row.prog w) (callerA.deeper (envOfC (Str.ofString "law") s22 L f cd)) (execs fB7T (envOfC (Str.ofString "law") s22 L f cd)) Q E s' | f' => Q f' s') K X T F d1 d3 d4 m1 m2 m3 m4 m5 m6 N hSe hS1 hS3 hS4 hr htn hp0 hp1 hT1 hT2 hT3 hf0 hf1 hs0 hs1 hmore htk hfit1 hfit2 ha hle hsp hsz hjn ?_ hE) (fun _ s2 h => wpAny_app9 (l1 := fB7P) (l2 := fB7T) h) fun _ _ e => e
  intro h' tk' m' q n' nt' tks' tv' tW F' N' k1 k2 k3 k4 k5 k6 k7 k8 o1 o2
  exact turnT2 K X T F' d3 d4 k1 k2 k3 k4 k5 k6 k7 k8 N' hSe hS3 hS4 hr htn o1 o2 hT1 hT2 hT3 hf0 hf1 hs0 hs1 hmore htk hfit1 hfit2 ha hle hasc hcs hQ hE
theorem turn2 (K : Below callerA base [] h₀) (X : (KK w.params).In h₀) (T : Top p loose mean mg mb h₀) (F : Fr h₀ L s.heap m) (d1 : c1.data = .cell (some (.str a t1))) (d3 : c3.data = .cell (some (.int first t3))) (d4 : c4.data = .cell (some (.int second t4)))
    (m1 : m "row" = some (.ref r)) (m2 : m "escapes" = some (.ref es)) (m3 : m "taken" = some (.ref tn)) (m4 : m "doubles" = some (.str d td)) (m5 : m "most" = some (.int most tm)) (m6 : m "turns" = some (.int turns tt))
    (N : News h₀ L s.heap ((r, rowO dx (.ref p0 :: more).toArray n) :: (dx, isD w.params tks v tv) :: (tn, listOf tk0.toArray nt) :: (es, listOf #[.ref 182, .ref 189, .ref 196, .ref 203, .ref 210] 0) :: (L + 1 + 1 + 1 + 1 + 1 + 1, c6) :: (L + 1 + 1 + 1 + 1 + 1, c5) :: (L + 1 + 1 + 1 + 1, c4) :: (L + 1 + 1 + 1, c3) :: (L + 1 + 1, c2) :: (L + 1, c1) :: (p0, tupO #[.str wr tw, .str le tl]) :: (D, listOf ws.toArray nD) :: (62, tabObj #[]) :: (69, tabObj #[]) :: TT)) (hL1 : @LT.lt Nat _ 62 L) (hL2 : @LT.lt Nat _ 69 L) (hD : @LT.lt Nat _ (L + 1 + 1 + 1 + 1 + 1 + 1) D) (hes : @LT.lt Nat _ D es) (hdx : @LT.lt Nat _ es dx) (hr : @LT.lt Nat _ dx r) (htn : @LT.lt Nat _ r tn) (hp0 : @LT.lt Nat _ r p0) (hp1 : @Ne Nat p0 tn) (hT1 : ∀ p ∈ TT, p.1 ≠ r) (hT2 : ∀ p ∈ TT, p.1 ≠ dx) (hT3 : ∀ p ∈ TT, p.1 ≠ tn)
    (hf0 : 0 ≤ first) (hf1 : first < 5) (hs0 : 0 ≤ second) (hs1 : second < 5) (hmore : more.length ≤ 900) (htk : tk0.length ≤ 900) (hfit1 : fitF first wr) (hfit2 : fitF second wr) (ha : a.length ≤ 4) (hle : le.length ≤ 4)
    (hsp : spelledPre a d (Txt.find a le) most x) (hsz : (spelledF a d (Txt.find a le) most x).cps.size ≤ 1000) (hjn : ((foldB (spelledF a d (Txt.find a le) most x).cps.toList).map (·.length)).sum + (foldB (spelledF a d (Txt.find a le) most x).cps.toList).length * 64 ≤ 16777216)
    (hasc : (Txt.join (Str.ofString "") (foldB (spelledF a d (Txt.find a le) most x).cps.toList)).cps.all (· < 128) = true) (hcs : (Txt.join (Str.ofString "") (foldB (spelledF a d (Txt.find a le) most x).cps.toList)).cps.toList = [cc1, cc2])
    (hQ : ∀ h' tk' m' p1 p2 q n' nt' tks' tv' u1 u2 u3 u4 u5 u6, Fr h₀ L h' m' → News h₀ L h' ((r, rowO dx (more ++ [Value.ref p1] ++ [Value.ref p2]).toArray n') :: (dx, isD w.params tks' 0 tv') :: (tn, listOf (tk0 ++ [Value.ref q]).toArray nt') :: (es, listOf #[.ref 182, .ref 189, .ref 196, .ref 203, .ref 210] 0) :: (L + 1 + 1 + 1 + 1 + 1 + 1, c6) :: (L + 1 + 1 + 1 + 1 + 1, c5) :: (L + 1 + 1 + 1 + 1, c4) :: (L + 1 + 1 + 1, c3) :: (L + 1 + 1, c2) :: (L + 1, c1) :: (D, listOf ws.toArray nD) :: (62, tabObj #[]) :: (69, tabObj #[]) :: (p2, tupO #[.str (escF second wr) u1, .str ⟨#[cc2]⟩ u2]) :: (p1, tupO #[.str (escF first wr) u3, .str ⟨#[cc1]⟩ u4]) :: (q, tupO #[.str wr u5, .str le u6]) :: TT) → m' "row" = some (.ref r) → m' "escapes" = some (.ref es) → m' "taken" = some (.ref tn) → m' "doubles" = some (.str d td) → m' "most" = some (.int most tm) → m' "turns" = some (.int turns tt) →
      @LT.lt Nat _ r p1 → @LT.lt Nat _ r p2 → @LT.lt Nat _ r q → @LT.lt Nat _ tn p1 → @LT.lt Nat _ tn p2 → @LT.lt Nat _ tn q → Q .next { s with heap := h', toks := tk' })
    (hE : PassesOwn (model PySem.Challenge.rw_xo0036_01.row.prog w) (callerA.deeper (envOfC (Str.ofString "law") s22 L f cd)) (envOfC (Str.ofString "law") s22 L f cd) E) : wpAny (model PySem.Challenge.rw_xo0036_01.row.prog w) (callerA.deeper (envOfC (Str.ofString "law") s22 L f cd)) (assign fT7 (envOfC (Str.ofString "law") s22 L f cd) (.int x tx)) (fun _ s₂ => wpAny (model PySem.Challenge.rw_xo0036_01.row.prog w) (callerA.deeper (envOfC (Str.ofString "law") s22 L f cd)) (execs fB7 (envOfC (Str.ofString "law") s22 L f cd)) Q E s₂) E s := by
  have q_k6_D : @LT.lt Nat _ (L + 1 + 1 + 1 + 1 + 1 + 1) D := hD
  have q_D_dx : @LT.lt Nat _ D dx := Nat.lt_trans hes hdx
  have q_k6_dx : @LT.lt Nat _ (L + 1 + 1 + 1 + 1 + 1 + 1) dx := Nat.lt_trans q_k6_D q_D_dx
  have q_k5_dx : @LT.lt Nat _ (L + 1 + 1 + 1 + 1 + 1) dx := Nat.lt_of_succ_lt q_k6_dx
  have q_k4_dx : @LT.lt Nat _ (L + 1 + 1 + 1 + 1) dx := Nat.lt_of_succ_lt q_k5_dx
  have q_k3_dx : @LT.lt Nat _ (L + 1 + 1 + 1) dx := Nat.lt_of_succ_lt q_k4_dx
  have q_k2_dx : @LT.lt Nat _ (L + 1 + 1) dx := Nat.lt_of_succ_lt q_k3_dx
  have q_k1_dx : @LT.lt Nat _ (L + 1) dx := Nat.lt_of_succ_lt q_k2_dx
  have q_L_dx : @LT.lt Nat _ L dx := Nat.lt_of_succ_lt q_k1_dx
  have q_A62_dx : @LT.lt Nat _ 62 dx := Nat.lt_trans hL1 q_L_dx
  have q_A69_dx : @LT.lt Nat _ 69 dx := Nat.lt_trans hL2 q_L_dx
  have q_es_r : @LT.lt Nat _ es r := Nat.lt_trans hdx hr
  have q_D_r : @LT.lt Nat _ D r := Nat.lt_trans q_D_dx hr
  have q_k6_r : @LT.lt Nat _ (L + 1 + 1 + 1 + 1 + 1 + 1) r := Nat.lt_trans q_k6_D q_D_r
  have q_k5_r : @LT.lt Nat _ (L + 1 + 1 + 1 + 1 + 1) r := Nat.lt_of_succ_lt q_k6_r
  have q_k4_r : @LT.lt Nat _ (L + 1 + 1 + 1 + 1) r := Nat.lt_of_succ_lt q_k5_r
  have q_k3_r : @LT.lt Nat _ (L + 1 + 1 + 1) r := Nat.lt_of_succ_lt q_k4_r
  have q_k2_r : @LT.lt Nat _ (L + 1 + 1) r := Nat.lt_of_succ_lt q_k3_r
  have q_k1_r : @LT.lt Nat _ (L + 1) r := Nat.lt_of_succ_lt q_k2_r
  have q_L_r : @LT.lt Nat _ L r := Nat.lt_of_succ_lt q_k1_r
  have q_A62_r : @LT.lt Nat _ 62 r := Nat.lt_trans hL1 q_L_r
  have q_A69_r : @LT.lt Nat _ 69 r := Nat.lt_trans hL2 q_L_r
  have q_dx_tn : @LT.lt Nat _ dx tn := Nat.lt_trans hr htn
  have q_es_tn : @LT.lt Nat _ es tn := Nat.lt_trans q_es_r htn
  have q_D_tn : @LT.lt Nat _ D tn := Nat.lt_trans q_D_r htn
  have q_k6_tn : @LT.lt Nat _ (L + 1 + 1 + 1 + 1 + 1 + 1) tn := Nat.lt_trans q_k6_D q_D_tn
  have q_k5_tn : @LT.lt Nat _ (L + 1 + 1 + 1 + 1 + 1) tn := Nat.lt_of_succ_lt q_k6_tn
  have q_k4_tn : @LT.lt Nat _ (L + 1 + 1 + 1 + 1) tn := Nat.lt_of_succ_lt q_k5_tn
  have q_k3_tn : @LT.lt Nat _ (L + 1 + 1 + 1) tn := Nat.lt_of_succ_lt q_k4_tn
  have q_k2_tn : @LT.lt Nat _ (L + 1 + 1) tn := Nat.lt_of_succ_lt q_k3_tn
  have q_k1_tn : @LT.lt Nat _ (L + 1) tn := Nat.lt_of_succ_lt q_k2_tn
  have q_L_tn : @LT.lt Nat _ L tn := Nat.lt_of_succ_lt q_k1_tn
  have q_A62_tn : @LT.lt Nat _ 62 tn := Nat.lt_trans hL1 q_L_tn
  have q_A69_tn : @LT.lt Nat _ 69 tn := Nat.lt_trans hL2 q_L_tn
  have q_dx_p0 : @LT.lt Nat _ dx p0 := Nat.lt_trans hr hp0
  refine turn2i (ST := (es, listOf #[.ref 182, .ref 189, .ref 196, .ref 203, .ref 210] 0) :: (L + 1 + 1 + 1 + 1 + 1 + 1, c6) :: (L + 1 + 1 + 1 + 1 + 1, c5) :: (L + 1 + 1 + 1 + 1, c4) :: (L + 1 + 1 + 1, c3) :: (L + 1 + 1, c2) :: (L + 1, c1) :: (D, listOf ws.toArray nD) :: (62, tabObj #[]) :: (69, tabObj #[]) :: TT) (tks := tks) (tv := tv) (v := v) (n := n) (nt := nt) (tw := tw) (tl := tl) (more := more) (tk0 := tk0) K X T F d1 d3 d4 m1 m2 m3 m4 m5 m6 ?_ (.head _) (by k_mem) (by k_mem) (by k_mem) hr htn hp0 hp1 (List.forall_mem_cons.mpr ⟨(Nat.ne_of_lt q_es_r), List.forall_mem_cons.mpr ⟨(Nat.ne_of_lt q_k6_r), List.forall_mem_cons.mpr ⟨(Nat.ne_of_lt q_k5_r), List.forall_mem_cons.mpr ⟨(Nat.ne_of_lt q_k4_r), List.forall_mem_cons.mpr ⟨(Nat.ne_of_lt q_k3_r), List.forall_mem_cons.mpr ⟨(Nat.ne_of_lt q_k2_r), List.forall_mem_cons.mpr ⟨(Nat.ne_of_lt q_k1_r), List.forall_mem_cons.mpr ⟨(Nat.ne_of_lt q_D_r), List.forall_mem_cons.mpr ⟨(Nat.ne_of_lt q_A62_r), List.forall_mem_cons.mpr ⟨(Nat.ne_of_lt q_A69_r), hT1⟩⟩⟩⟩⟩⟩⟩⟩⟩⟩) (List.forall_mem_cons.mpr ⟨(Nat.ne_of_lt hdx), List.forall_mem_cons.mpr ⟨(Nat.ne_of_lt q_k6_dx), List.forall_mem_cons.mpr ⟨(Nat.ne_of_lt q_k5_dx), List.forall_mem_cons.mpr ⟨(Nat.ne_of_lt q_k4_dx), List.forall_mem_cons.mpr ⟨(Nat.ne_of_lt q_k3_dx), List.forall_mem_cons.mpr ⟨(Nat.ne_of_lt q_k2_dx), List.forall_mem_cons.mpr ⟨(Nat.ne_of_lt q_k1_dx), List.forall_mem_cons.mpr ⟨(Nat.ne_of_lt q_D_dx), List.forall_mem_cons.mpr ⟨(Nat.ne_of_lt q_A62_dx), List.forall_mem_cons.mpr ⟨(Nat.ne_of_lt q_A69_dx), hT2⟩⟩⟩⟩⟩⟩⟩⟩⟩⟩) (List.forall_mem_cons.mpr ⟨(Nat.ne_of_lt q_es_tn), List.forall_mem_cons.mpr ⟨(Nat.ne_of_lt q_k6_tn), List.forall_mem_cons.mpr ⟨(Nat.ne_of_lt q_k5_tn), List.forall_mem_cons.mpr ⟨(Nat.ne_of_lt q_k4_tn), List.forall_mem_cons.mpr ⟨(Nat.ne_of_lt q_k3_tn), List.forall_mem_cons.mpr ⟨(Nat.ne_of_lt q_k2_tn), List.forall_mem_cons.mpr ⟨(Nat.ne_of_lt q_k1_tn), List.forall_mem_cons.mpr ⟨(Nat.ne_of_lt q_D_tn), List.forall_mem_cons.mpr ⟨(Nat.ne_of_lt q_A62_tn), List.forall_mem_cons.mpr ⟨(Nat.ne_of_lt q_A69_tn), hT3⟩⟩⟩⟩⟩⟩⟩⟩⟩⟩) hf0 hf1 hs0 hs1 hmore htk hfit1 hfit2 ha hle hsp hsz hjn hasc hcs ?_ hE
  · refine cb_drop N ?_
    iterate 14 (refine List.forall_mem_cons.mpr ⟨by k_mem, ?_⟩)
    intro pz hz
    repeat (first | exact hz | apply List.mem_cons_of_mem)
  · intros
    refine' hQ _ _ _ _ _ _ _ _ _ _ _ _ _ _ _ _ ?eF ?eN ?n1 ?n2 ?n3 ?n4 ?n5 ?n6 ?o1 ?o2 ?o3 ?o4 ?o5 ?o6
    case eF => assumption
    case eN =>
      refine cb_drop (by assumption) ?_
      repeat (refine List.forall_mem_cons.mpr ⟨by k_mem, ?_⟩)
      intro pz hz
      repeat (first | exact hz | apply List.mem_cons_of_mem)
    all_goals assumption
end
end
section
-- LT2
set_option maxRecDepth 100000
set_option maxHeartbeats 0
open PyProof.Rows.LCg PyProof.Rows.LCt
section
variable {w : World} {mean : ExcName → Option Value} {mg mb : Str → Option Value} {p : Program} {loose : List Str} {base h₀ : Heap} {s : Shared} {L f l : Addr} {cd : Value} {m : Str → Option Value} {Q : Flow → Shared → Prop} {E : Value → Shared → Prop} {its : List Value} {ns : List Int} {tabs : List (Addr × Obj)}
variable {c1 c2 c3 c4 c5 c6 : Obj} {D r dx es tn p0 : Addr} {ws : List Value} {nD n nt : Nat} {a d wr le sg : Str} {first second most x v rank turns : Int} {t1 t2 t3 t4 td tm tks tv tw tl tx tt : Tok} {more tk0 : List Value} {TT : List (Addr × Obj)} {cc1 cc2 : Nat}
theorem turnT1 {ST : List (Addr × Obj)} {W : Str} {tW : Tok} {q0 : Addr} (K : Below callerA base [] h₀) (X : (KK w.params).In h₀) (T : Top p loose mean mg mb h₀) (F : Fr h₀ L s.heap m) (d3 : c3.data = .cell (some (.int first t3))) (d4 : c4.data = .cell (some (.int second t4)))
    (m1 : m "row" = some (.ref r)) (m2 : m "escapes" = some (.ref es)) (m3 : m "taken" = some (.ref tn)) (m4 : m "doubles" = some (.str d td)) (m5 : m "most" = some (.int most tm)) (m6 : m "turns" = some (.int turns tt)) (mW : m "word" = some (.str W tW)) (mV : m "writing" = some (.str wr tw))
    (N : News h₀ L s.heap ((r, rowO dx more.toArray n) :: (dx, isD w.params tks 0 tv) :: (tn, listOf (tk0 ++ [Value.ref q0]).toArray nt) :: (q0, tupO #[.str wr tw, .str le tl]) :: ST)) (hSe : (es, listOf #[.ref 182, .ref 189, .ref 196, .ref 203, .ref 210] 0) ∈ ST) (hS3 : (L + 1 + 1 + 1, c3) ∈ ST) (hS4 : (L + 1 + 1 + 1 + 1, c4) ∈ ST) (hr : @LT.lt Nat _ dx r) (htn : @LT.lt Nat _ r tn) (hp0 : @LT.lt Nat _ r q0) (hp1 : @LT.lt Nat _ tn q0) (hT1 : ∀ p ∈ ST, p.1 ≠ r) (hT2 : ∀ p ∈ ST, p.1 ≠ dx) (hT3 : ∀ p ∈ ST, p.1 ≠ tn)
    (hf0 : 0 ≤ first) (hf1 : first < 5) (hs0 : 0 ≤ second) (hs1 : second < 5) (hmore : more.length ≤ 900) (htk : tk0.length ≤ 900) (hfit1 : fitF first wr) (hfit2 : fitF second wr) (ha : a.length ≤ 4) (hle : le.length ≤ 4)
    (hasc : W.cps.all (· < 128) = true) (hcs : W.cps.toList = [cc1])
    (hQ : ∀ h' tk' m' p1 q n' nt' tks' tv' u3 u4 u5 u6, Fr h₀ L h' m' → News h₀ L h' ((r, rowO dx (more ++ [Value.ref p1]).toArray n') :: (dx, isD w.params tks' 0 tv') :: (tn, listOf (tk0 ++ [Value.ref q]).toArray nt') :: (p1, tupO #[.str (escF first wr) u3, .str ⟨#[cc1]⟩ u4]) :: (q, tupO #[.str wr u5, .str le u6]) :: ST) → m' "row" = some (.ref r) → m' "escapes" = some (.ref es) → m' "taken" = some (.ref tn) → m' "doubles" = some (.str d td) → m' "most" = some (.int most tm) → m' "turns" = some (.int turns tt) →
      @LT.lt Nat _ r p1 → @LT.lt Nat _ r q → @LT.lt Nat _ tn p1 → @LT.lt Nat _ tn q → Q .next { s with heap := h', toks := tk' })
    (hE : PassesOwn (model PySem.Challenge.rw_xo0036_01.row.prog w) (callerA.deeper (envOfC (Str.ofString "law") s22 L f cd)) (envOfC (Str.ofString "law") s22 L f cd) E) : wpAny (model PySem.Challenge.rw_xo0036_01.row.prog w) (callerA.deeper (envOfC (Str.ofString "law") s22 L f cd)) (execs fB7T (envOfC (Str.ofString "law") s22 L f cd)) Q E s := by
  revert X
  k_fill
  intro X
  have q_dx_tn : @LT.lt Nat _ dx tn := Nat.lt_trans hr htn
  have q_dx_q0 : @LT.lt Nat _ dx q0 := Nat.lt_trans hr hp0
  iterate 1 (first | walk1 | (dsimp only; walk1))
  (rename Fr _ _ _ _ => lF'); (with_unfolding_all refine' For_turns lF' ?_ (hE := ?ihE); (case ihE => assumption); k_whole)
  iterate 20 (first | walk1 | (dsimp only; walk1))
  k_dflt (first | (refine' ktu_zipS1 ?jkc ?jk1 ?jk2 ?jk3 ?jk4 ?jk5 ?jk6 ?jk7 ?jk8 ?_; (case jkc => assumption); (case jk1 => rfl); (case jk2 => k_asm); (case jk3 => k_asm); (case jk4 => assumption); (case jk6 => k_mem); (case jk7 => rfl); (case jk8 => rfl); (case jk5 => exact Nat.le_of_ble_eq_true rfl); intro I' hI'; (have hI9 := hI'); (try k_lt hI')) | fail "no")
  k_steps
  · refine' UnrEndW.five3 ?zk1 ?zk2 ?zk3 ?_
    case zk1 => k_asm
    case zk2 => k_asm
    case zk3 =>
      repeat (refine List.forall_mem_cons.mpr ⟨by first | exact five_lt (by (try dsimp only); first | assumption | omega) | exact five_gt (by (try dsimp only); first | assumption | omega), ?_⟩)
      intro pz hz
      refine five_lt (lt_drop (by assumption) ?_ pz hz)
      intro pz hz
      repeat (first | exact hz | apply List.mem_cons_of_mem)
    try dsimp only
    refine And.intro (And.intro (by k_mem) trivial) ?_
    k_steps
    refine' hQ _ _ _ _ _ _ _ _ _ _ _ _ _ ?eF ?eN ?n1 ?n2 ?n3 ?n4 ?n5 ?n6 ?o1 ?o2 ?o3 ?o4
    case eF => assumption
    case eN =>
      refine cb_drop (by assumption) ?_
      repeat (refine List.forall_mem_cons.mpr ⟨by k_mem, ?_⟩)
      intro pz hz
      repeat (first | exact hz | apply List.mem_cons_of_mem)
    case n1 => exact m1
    case n2 => exact m2
    case n3 => exact m3
    case n4 => exact m4
    case n5 => exact m5
    case n6 => exact m6
    all_goals omega
include cc2 in
theorem turn1i {ST : List (Addr × Obj)} (K : Below callerA base [] h₀) (X : (KK w.params).In h₀) (T : Top p loose mean mg mb h₀) (F : Fr h₀ L s.heap m) (d1 : c1.data = .cell (some (.str a t1))) (d3 : c3.data = .cell (some (.int first t3))) (d4 : c4.data = .cell (some (.int second t4)))
    (m1 : m "row" = some (.ref r)) (m2 : m "escapes" = some (.ref es)) (m3 : m "taken" = some (.ref tn)) (m4 : m "doubles" = some (.str d td)) (m5 : m "most" = some (.int most tm)) (m6 : m "turns" = some (.int turns tt))
    (N : News h₀ L s.heap ((r, rowO dx (.ref p0 :: more).toArray n) :: (dx, isD w.params tks v tv) :: (tn, listOf tk0.toArray nt) :: (p0, tupO #[.str wr tw, .str le tl]) :: ST)) (hSe : (es, listOf #[.ref 182, .ref 189, .ref 196, .ref 203, .ref 210] 0) ∈ ST) (hS1 : (L + 1, c1) ∈ ST) (hS3 : (L + 1 + 1 + 1, c3) ∈ ST) (hS4 : (L + 1 + 1 + 1 + 1, c4) ∈ ST) (hr : @LT.lt Nat _ dx r) (htn : @LT.lt Nat _ r tn) (hp0 : @LT.lt Nat _ r p0) (hp1 : @Ne Nat p0 tn) (hT1 : ∀ p ∈ ST, p.1 ≠ r) (hT2 : ∀ p ∈ ST, p.1 ≠ dx) (hT3 : ∀ p ∈ ST, p.1 ≠ tn)
    (hf0 : 0 ≤ first) (hf1 : first < 5) (hs0 : 0 ≤ second) (hs1 : second < 5) (hmore : more.length ≤ 900) (htk : tk0.length ≤ 900) (hfit1 : fitF first wr) (hfit2 : fitF second wr) (ha : a.length ≤ 4) (hle : le.length ≤ 4)
    (hsp : spelledPre a d (Txt.find a le) most x) (hsz : (spelledF a d (Txt.find a le) most x).cps.size ≤ 1000) (hjn : ((foldB (spelledF a d (Txt.find a le) most x).cps.toList).map (·.length)).sum + (foldB (spelledF a d (Txt.find a le) most x).cps.toList).length * 64 ≤ 16777216)
    (hasc : (Txt.join (Str.ofString "") (foldB (spelledF a d (Txt.find a le) most x).cps.toList)).cps.all (· < 128) = true) (hcs : (Txt.join (Str.ofString "") (foldB (spelledF a d (Txt.find a le) most x).cps.toList)).cps.toList = [cc1])
    (hQ : ∀ h' tk' m' p1 q n' nt' tks' tv' u3 u4 u5 u6, Fr h₀ L h' m' → News h₀ L h' ((r, rowO dx (more ++ [Value.ref p1]).toArray n') :: (dx, isD w.params tks' 0 tv') :: (tn, listOf (tk0 ++ [Value.ref q]).toArray nt') :: (p1, tupO #[.str (escF first wr) u3, .str ⟨#[cc1]⟩ u4]) :: (q, tupO #[.str wr u5, .str le u6]) :: ST) → m' "row" = some (.ref r) → m' "escapes" = some (.ref es) → m' "taken" = some (.ref tn) → m' "doubles" = some (.str d td) → m' "most" = some (.int most tm) → m' "turns" = some (.int turns tt) →
      @LT.lt Nat _ r p1 → @LT.lt Nat _ r q → @LT.lt Nat _ tn p1 → @LT.lt Nat _ tn q → Q .next { s with heap := h', toks := tk' })
    (hE : PassesOwn (model PySem.Challenge.rw_xo0036_01.row.prog w) (callerA.deeper (envOfC (Str.ofString "law") s22 L f cd)) (envOfC (Str.ofString "law") s22 L f cd) E) : wpAny (model PySem.Challenge.rw_xo0036_01.row.prog w) (callerA.deeper (envOfC (Str.ofString "law") s22 L f cd)) (assign fT7 (envOfC (Str.ofString "law") s22 L f cd) (.int x tx)) (fun _ s₂ => wpAny (model PySem.Challenge.rw_xo0036_01.row.prog w) (callerA.deeper (envOfC (Str.ofString "law") s22 L f cd)) (execs fB7 (envOfC (Str.ofString "law") s22 L f cd)) Q E s₂) E s := by
  refine wpAny_mono (turnP (Q := fun fl s' => match fl with | .next => wpAny (model PySem.Challenge.rw_xo0036_01.row.prog w) (callerA.deeper (envOfC (Str.ofString "law") s22 L f cd)) (execs fB7T (envOfC (Str.ofString "law") s22 L f cd)) Q E s' | f' => Q f' s') K X T F d1 d3 d4 m1 m2 m3 m4 m5 m6 N hSe hS1 hS3 hS4 hr htn hp0 hp1 hT1 hT2 hT3 hf0 hf1 hs0 hs1 hmore htk hfit1 hfit2 ha hle hsp hsz hjn ?_ hE) (fun _ s2 h => wpAny_app9 (l1 := fB7P) (l2 := fB7T) h) fun _ _ e => e
  intro h' tk' m' q n' nt' tks' tv' tW F' N' k1 k2 k3 k4 k5 k6 k7 k8 o1 o2
  exact turnT1 K X T F' d3 d4 k1 k2 k3 k4 k5 k6 k7 k8 N' hSe hS3 hS4 hr htn o1 o2 hT1 hT2 hT3 hf0 hf1 hs0 hs1 hmore htk hfit1 hfit2 ha hle hasc hcs hQ hE
theorem turn1 (K : Below callerA base [] h₀) (X : (KK w.params).In h₀) (T : Top p loose mean mg mb h₀) (F : Fr h₀ L s.heap m) (d1 : c1.data = .cell (some (.str a t1))) (d3 : c3.data = .cell (some (.int first t3))) (d4 : c4.data = .cell (some (.int second t4)))
    (m1 : m "row" = some (.ref r)) (m2 : m "escapes" = some (.ref es)) (m3 : m "taken" = some (.ref tn)) (m4 : m "doubles" = some (.str d td)) (m5 : m "most" = some (.int most tm)) (m6 : m "turns" = some (.int turns tt))
    (N : News h₀ L s.heap ((r, rowO dx (.ref p0 :: more).toArray n) :: (dx, isD w.params tks v tv) :: (tn, listOf tk0.toArray nt) :: (es, listOf #[.ref 182, .ref 189, .ref 196, .ref 203, .ref 210] 0) :: (L + 1 + 1 + 1 + 1 + 1 + 1, c6) :: (L + 1 + 1 + 1 + 1 + 1, c5) :: (L + 1 + 1 + 1 + 1, c4) :: (L + 1 + 1 + 1, c3) :: (L + 1 + 1, c2) :: (L + 1, c1) :: (p0, tupO #[.str wr tw, .str le tl]) :: (D, listOf ws.toArray nD) :: (62, tabObj #[]) :: (69, tabObj #[]) :: TT)) (hL1 : @LT.lt Nat _ 62 L) (hL2 : @LT.lt Nat _ 69 L) (hD : @LT.lt Nat _ (L + 1 + 1 + 1 + 1 + 1 + 1) D) (hes : @LT.lt Nat _ D es) (hdx : @LT.lt Nat _ es dx) (hr : @LT.lt Nat _ dx r) (htn : @LT.lt Nat _ r tn) (hp0 : @LT.lt Nat _ r p0) (hp1 : @Ne Nat p0 tn) (hT1 : ∀ p ∈ TT, p.1 ≠ r) (hT2 : ∀ p ∈ TT, p.1 ≠ dx) (hT3 : ∀ p ∈ TT, p.1 ≠ tn)
    (hf0 : 0 ≤ first) (hf1 : first < 5) (hs0 : 0 ≤ second) (hs1 : second < 5) (hmore : more.length ≤ 900) (htk : tk0.length ≤ 900) (hfit1 : fitF first wr) (hfit2 : fitF second wr) (ha : a.length ≤ 4) (hle : le.length ≤ 4)
    (hsp : spelledPre a d (Txt.find a le) most x) (hsz : (spelledF a d (Txt.find a le) most x).cps.size ≤ 1000) (hjn : ((foldB (spelledF a d (Txt.find a le) most x).cps.toList).map (·.length)).sum + (foldB (spelledF a d (Txt.find a le) most x).cps.toList).length * 64 ≤ 16777216)
    (hasc : (Txt.join (Str.ofString "") (foldB (spelledF a d (Txt.find a le) most x).cps.toList)).cps.all (· < 128) = true) (hcs : (Txt.join (Str.ofString "") (foldB (spelledF a d (Txt.find a le) most x).cps.toList)).cps.toList = [cc1])
    (hQ : ∀ h' tk' m' p1 q n' nt' tks' tv' u3 u4 u5 u6, Fr h₀ L h' m' → News h₀ L h' ((r, rowO dx (more ++ [Value.ref p1]).toArray n') :: (dx, isD w.params tks' 0 tv') :: (tn, listOf (tk0 ++ [Value.ref q]).toArray nt') :: (es, listOf #[.ref 182, .ref 189, .ref 196, .ref 203, .ref 210] 0) :: (L + 1 + 1 + 1 + 1 + 1 + 1, c6) :: (L + 1 + 1 + 1 + 1 + 1, c5) :: (L + 1 + 1 + 1 + 1, c4) :: (L + 1 + 1 + 1, c3) :: (L + 1 + 1, c2) :: (L + 1, c1) :: (D, listOf ws.toArray nD) :: (62, tabObj #[]) :: (69, tabObj #[]) :: (p1, tupO #[.str (escF first wr) u3, .str ⟨#[cc1]⟩ u4]) :: (q, tupO #[.str wr u5, .str le u6]) :: TT) → m' "row" = some (.ref r) → m' "escapes" = some (.ref es) → m' "taken" = some (.ref tn) → m' "doubles" = some (.str d td) → m' "most" = some (.int most tm) → m' "turns" = some (.int turns tt) →
      @LT.lt Nat _ r p1 → @LT.lt Nat _ r q → @LT.lt Nat _ tn p1 → @LT.lt Nat _ tn q → Q .next { s with heap := h', toks := tk' })
    (hE : PassesOwn (model PySem.Challenge.rw_xo0036_01.row.prog w) (callerA.deeper (envOfC (Str.ofString "law") s22 L f cd)) (envOfC (Str.ofString "law") s22 L f cd) E) : wpAny (model PySem.Challenge.rw_xo0036_01.row.prog w) (callerA.deeper (envOfC (Str.ofString "law") s22 L f cd)) (assign fT7 (envOfC (Str.ofString "law") s22 L f cd) (.int x tx)) (fun _ s₂ => wpAny (model PySem.Challenge.rw_xo0036_01.row.prog w) (callerA.deeper (envOfC (Str.ofString "law") s22 L f cd)) (execs fB7 (envOfC (Str.ofString "law") s22 L f cd)) Q E s₂) E s := by
  have q_k6_D : @LT.lt Nat _ (L + 1 + 1 + 1 + 1 + 1 + 1) D := hD
  have q_D_dx : @LT.lt Nat _ D dx := Nat.lt_trans hes hdx
  have q_k6_dx : @LT.lt Nat _ (L + 1 + 1 + 1 + 1 + 1 + 1) dx := Nat.lt_trans q_k6_D q_D_dx
  have q_k5_dx : @LT.lt Nat _ (L + 1 + 1 + 1 + 1 + 1) dx := Nat.lt_of_succ_lt q_k6_dx
  have q_k4_dx : @LT.lt Nat _ (L + 1 + 1 + 1 + 1) dx := Nat.lt_of_succ_lt q_k5_dx
  have q_k3_dx : @LT.lt Nat _ (L + 1 + 1 + 1) dx := Nat.lt_of_succ_lt q_k4_dx
  have q_k2_dx : @LT.lt Nat _ (L + 1 + 1) dx := Nat.lt_of_succ_lt q_k3_dx
  have q_k1_dx : @LT.lt Nat _ (L + 1) dx := Nat.lt_of_succ_lt q_k2_dx
  have q_L_dx : @LT.lt Nat _ L dx := Nat.lt_of_succ_lt q_k1_dx
  have q_A62_dx : @LT.lt Nat _ 62 dx := Nat.lt_trans hL1 q_L_dx
  have q_A69_dx : @LT.lt Nat _ 69 dx := Nat.lt_trans hL2 q_L_dx
  have q_es_r : @LT.lt Nat _ es r := Nat.lt_trans hdx hr
  have q_D_r : @LT.lt Nat _ D r := Nat.lt_trans q_D_dx hr
  have q_k6_r : @LT.lt Nat _ (L + 1 + 1 + 1 + 1 + 1 + 1) r := Nat.lt_trans q_k6_D q_D_r
  have q_k5_r : @LT.lt Nat _ (L + 1 + 1 + 1 + 1 + 1) r := Nat.lt_of_succ_lt q_k6_r
  have q_k4_r : @LT.lt Nat _ (L + 1 + 1 + 1 + 1) r := Nat.lt_of_succ_lt q_k5_r
  have q_k3_r : @LT.lt Nat _ (L + 1 + 1 + 1) r := Nat.lt_of_succ_lt q_k4_r
  have q_k2_r : @LT.lt Nat _ (L + 1 + 1) r := Nat.lt_of_succ_lt q_k3_r
  have q_k1_r : @LT.lt Nat _ (L + 1) r := Nat.lt_of_succ_lt q_k2_r
  have q_L_r : @LT.lt Nat _ L r := Nat.lt_of_succ_lt q_k1_r
  have q_A62_r : @LT.lt Nat _ 62 r := Nat.lt_trans hL1 q_L_r
  have q_A69_r : @LT.lt Nat _ 69 r := Nat.lt_trans hL2 q_L_r
  have q_dx_tn : @LT.lt Nat _ dx tn := Nat.lt_trans hr htn
  have q_es_tn : @LT.lt Nat _ es tn := Nat.lt_trans q_es_r htn
  have q_D_tn : @LT.lt Nat _ D tn := Nat.lt_trans q_D_r htn
  have q_k6_tn : @LT.lt Nat _ (L + 1 + 1 + 1 + 1 + 1 + 1) tn := Nat.lt_trans q_k6_D q_D_tn
  have q_k5_tn : @LT.lt Nat _ (L + 1 + 1 + 1 + 1 + 1) tn := Nat.lt_of_succ_lt q_k6_tn
  have q_k4_tn : @LT.lt Nat _ (L + 1 + 1 + 1 + 1) tn := Nat.lt_of_succ_lt q_k5_tn
  have q_k3_tn : @LT.lt Nat _ (L + 1 + 1 + 1) tn := Nat.lt_of_succ_lt q_k4_tn
  have q_k2_tn : @LT.lt Nat _ (L + 1 + 1) tn := Nat.lt_of_succ_lt q_k3_tn
  have q_k1_tn : @LT.lt Nat _ (L + 1) tn := Nat.lt_of_succ_lt q_k2_tn
  have q_L_tn : @LT.lt Nat _ L tn := Nat.lt_of_succ_lt q_k1_tn
  have q_A62_tn : @LT.lt Nat _ 62 tn := Nat.lt_trans hL1 q_L_tn
  have q_A69_tn : @LT.lt Nat _ 69 tn := Nat.lt_trans hL2 q_L_tn
  have q_dx_p0 : @LT.lt Nat _ dx p0 := Nat.lt_trans hr hp0
  refine turn1i (cc2 := 0) (ST := (es, listOf #[.ref 182, .ref 189, .ref 196, .ref 203, .ref 210] 0) :: (L + 1 + 1 + 1 + 1 + 1 + 1, c6) :: (L + 1 + 1 + 1 + 1 + 1, c5) :: (L + 1 + 1 + 1 + 1, c4) :: (L + 1 + 1 + 1, c3) :: (L + 1 + 1, c2) :: (L + 1, c1) :: (D, listOf ws.toArray nD) :: (62, tabObj #[]) :: (69, tabObj #[]) :: TT) (tks := tks) (tv := tv) (v := v) (n := n) (nt := nt) (tw := tw) (tl := tl) (more := more) (tk0 := tk0) K X T F d1 d3 d4 m1 m2 m3 m4 m5 m6 ?_ (.head _) (by k_mem) (by k_mem) (by k_mem) hr htn hp0 hp1 (List.forall_mem_cons.mpr ⟨(Nat.ne_of_lt q_es_r), List.forall_mem_cons.mpr ⟨(Nat.ne_of_lt q_k6_r), List.forall_mem_cons.mpr ⟨(Nat.ne_of_lt q_k5_r), List.forall_mem_cons.mpr ⟨(Nat.ne_of_lt q_k4_r), List.forall_mem_cons.mpr ⟨(Nat.ne_of_lt q_k3_r), List.forall_mem_cons.mpr ⟨(Nat.ne_of_lt q_k2_r), List.forall_mem_cons.mpr ⟨(Nat.ne_of_lt q_k1_r), List.forall_mem_cons.mpr ⟨(Nat.ne_of_lt q_D_r), List.forall_mem_cons.mpr ⟨(Nat.ne_of_lt q_A62_r), List.forall_mem_cons.mpr ⟨(Nat.ne_of_lt q_A69_r), hT1⟩⟩⟩⟩⟩⟩⟩⟩⟩⟩) (List.forall_mem_cons.mpr ⟨(Nat.ne_of_lt hdx), List.forall_mem_cons.mpr ⟨(Nat.ne_of_lt q_k6_dx), List.forall_mem_cons.mpr ⟨(Nat.ne_of_lt q_k5_dx), List.forall_mem_cons.mpr ⟨(Nat.ne_of_lt q_k4_dx), List.forall_mem_cons.mpr ⟨(Nat.ne_of_lt q_k3_dx), List.forall_mem_cons.mpr ⟨(Nat.ne_of_lt q_k2_dx), List.forall_mem_cons.mpr ⟨(Nat.ne_of_lt q_k1_dx), List.forall_mem_cons.mpr ⟨(Nat.ne_of_lt q_D_dx), List.forall_mem_cons.mpr ⟨(Nat.ne_of_lt q_A62_dx), List.forall_mem_cons.mpr ⟨(Nat.ne_of_lt q_A69_dx), hT2⟩⟩⟩⟩⟩⟩⟩⟩⟩⟩) (List.forall_mem_cons.mpr ⟨(Nat.ne_of_lt q_es_tn), List.forall_mem_cons.mpr ⟨(Nat.ne_of_lt q_k6_tn), List.forall_mem_cons.mpr ⟨(Nat.ne_of_lt q_k5_tn), List.forall_mem_cons.mpr ⟨(Nat.ne_of_lt q_k4_tn), List.forall_mem_cons.mpr ⟨(Nat.ne_of_lt q_k3_tn), List.forall_mem_cons.mpr ⟨(Nat.ne_of_lt q_k2_tn), List.forall_mem_cons.mpr ⟨(Nat.ne_of_lt q_k1_tn), List.forall_mem_cons.mpr ⟨(Nat.ne_of_lt q_D_tn), List.forall_mem_cons.mpr ⟨(Nat.ne_of_lt q_A62_tn), List.forall_mem_cons.mpr ⟨(Nat.ne_of_lt q_A69_tn), hT3⟩⟩⟩⟩⟩⟩⟩⟩⟩⟩) hf0 hf1 hs0 hs1 hmore htk hfit1 hfit2 ha hle hsp hsz hjn hasc hcs ?_ hE
  · refine cb_drop N ?_
    iterate 14 (refine List.forall_mem_cons.mpr ⟨by k_mem, ?_⟩)
    intro pz hz
    repeat (first | exact hz | apply List.mem_cons_of_mem)
  · intros
    refine' hQ _ _ _ _ _ _ _ _ _ _ _ _ _ ?eF ?eN ?n1 ?n2 ?n3 ?n4 ?n5 ?n6 ?o1 ?o2 ?o3 ?o4
    case eF => assumption
    case eN =>
      refine cb_drop (by assumption) ?_
      repeat (refine List.forall_mem_cons.mpr ⟨by k_mem, ?_⟩)
      intro pz hz
      repeat (first | exact hz | apply List.mem_cons_of_mem)
    all_goals assumption
end
end
end
end
section
-- LS7
set_option maxRecDepth 100000
set_option maxHeartbeats 0
noncomputable abbrev PM := Str × Str
noncomputable def rkF (a le : Str) : Int := Txt.find a le
noncomputable def wordC (a : Str) (most : Int) (le : Str) : List Nat := (wordF a (Txt.find a le) most).cps.toList
noncomputable def pushesC (cs : List Nat) (first second : Int) (wr : Str) : List PM := match cs with
  | [c1, c2] => [(escF first wr, ⟨#[c1]⟩), (escF second wr, ⟨#[c2]⟩)]
  | [c1] => [(escF first wr, ⟨#[c1]⟩)]
  | _ => []
structure OkX (a d : Str) (most : Int) (le : Str) (x : Int) : Prop where
  pre : spelledPre a d (Txt.find a le) most x
  sz : (spelledF a d (Txt.find a le) most x).cps.size ≤ 1000
  jn : ((foldB (spelledF a d (Txt.find a le) most x).cps.toList).map (·.length)).sum + (foldB (spelledF a d (Txt.find a le) most x).cps.toList).length * 64 ≤ 16777216
  asc : (Txt.join (Str.ofString "") (foldB (spelledF a d (Txt.find a le) most x).cps.toList)).cps.all (· < 128) = true
  cs : (Txt.join (Str.ofString "") (foldB (spelledF a d (Txt.find a le) most x).cps.toList)).cps.toList = wordC a most le
structure OkT (a d : Str) (most first second : Int) (wr le : Str) : Prop where
  fit1 : fitF first wr
  fit2 : fitF second wr
  len : le.length ≤ 4
  ox : ∀ x, 0 ≤ x → OkX a d most le x
  two : (∃ c1 c2, wordC a most le = [c1, c2]) ∨ ∃ c1, wordC a most le = [c1]
noncomputable def okRun (a d : Str) (most first second : Int) (Fi : List PM → List PM → Prop) : Nat → List PM → List PM → Prop
  | 0, row, tk => Fi row tk
  | _ + 1, [], _ => False
  | k + 1, (wr, le) :: more, tk => OkT a d most first second wr le ∧ okRun a d most first second Fi k (more ++ pushesC (wordC a most le) first second wr) (tk ++ [(wr, le)])
noncomputable def Pc (TT : List (Addr × Obj)) (r tn : Addr) (v : Value) (q : PM) : Prop := ∃ p t u, v = .ref p ∧ (p, tupO #[.str q.1 t, .str q.2 u]) ∈ TT ∧ @LT.lt Nat _ r p ∧ @Ne Nat p tn
noncomputable def PcAll (TT : List (Addr × Obj)) (r tn : Addr) : List Value → List PM → Prop
  | [], [] => True
  | v :: vs, q :: qs => Pc TT r tn v q ∧ PcAll TT r tn vs qs
  | _, _ => False
theorem Pc.mono {TT TT' : List (Addr × Obj)} {r tn : Addr} {v : Value} {q : PM} (h : Pc TT r tn v q) (hs : ∀ p ∈ TT, p ∈ TT') : Pc TT' r tn v q := let ⟨p, t, u, e, hm, h1, h2⟩ := h; ⟨p, t, u, e, hs _ hm, h1, h2⟩
theorem PcAll.mono {TT TT' : List (Addr × Obj)} {r tn : Addr} (hs : ∀ p ∈ TT, p ∈ TT') : ∀ {vs : List Value} {qs : List PM}, PcAll TT r tn vs qs → PcAll TT' r tn vs qs
  | [], [], _ => trivial
  | _ :: _, _ :: _, h => ⟨h.1.mono hs, PcAll.mono hs h.2⟩
  | [], _ :: _, h => h.elim
  | _ :: _, [], h => h.elim
theorem PcAll.app {TT : List (Addr × Obj)} {r tn : Addr} : ∀ {vs ws : List Value} {qs ps : List PM}, PcAll TT r tn vs qs → PcAll TT r tn ws ps → PcAll TT r tn (vs ++ ws) (qs ++ ps)
  | [], _, [], _, _, g => g
  | _ :: _, _, _ :: _, _, h, g => ⟨h.1, PcAll.app h.2 g⟩
  | [], _, _ :: _, _, h, _ => h.elim
  | _ :: _, _, [], _, h, _ => h.elim
theorem PcAll.len {TT : List (Addr × Obj)} {r tn : Addr} : ∀ {vs : List Value} {qs : List PM}, PcAll TT r tn vs qs → vs.length = qs.length
  | [], [], _ => rfl
  | _ :: _, _ :: _, h => congrArg (· + 1) (PcAll.len h.2)
  | [], _ :: _, h => h.elim
  | _ :: _, [], h => h.elim
section
variable {w : World} {mean : ExcName → Option Value} {mg mb : Str → Option Value} {p : Program} {loose : List Str} {base h₀ : Heap} {s : Shared} {L f l : Addr} {cd : Value} {m : Str → Option Value} {Q : Flow → Shared → Prop} {E : Value → Shared → Prop} {its : List Value} {ns : List Int} {tabs : List (Addr × Obj)}
variable {c1 c2 c3 c4 c5 c6 : Obj} {D r dx es tn : Addr} {ws : List Value} {nD : Nat} {a d : Str} {first second most turns : Int} {t1 t3 t4 td tm tt : Tok} {kp : Addr × Obj} {Fi : List PM → List PM → Prop}
structure LJ (w : World) (L r dx tn es D : Addr) (c1 c2 c3 c4 c5 c6 : Obj) (ws : List Value) (nD : Nat) (a d : Str) (first second most turns : Int) (td tm tt : Tok) (kp : Addr × Obj) (Fi : List PM → List PM → Prop) (vs : List Value) (m : Str → Option Value) (news : List (Addr × Obj)) : Prop where
  m1 : m "row" = some (.ref r)
  m2 : m "escapes" = some (.ref es)
  m3 : m "taken" = some (.ref tn)
  m4 : m "doubles" = some (.str d td)
  m5 : m "most" = some (.int most tm)
  m6 : m "turns" = some (.int turns tt)
  ex : ∃ rowV rowM tkV tkM n nt tks tv v TT zs, (∀ p ∈ (r, rowO dx rowV.toArray n) :: (dx, isD w.params tks v tv) :: (tn, listOf tkV.toArray nt) :: (es, listOf #[.ref 182, .ref 189, .ref 196, .ref 203, .ref 210] 0) :: (L + 1 + 1 + 1 + 1 + 1 + 1, c6) :: (L + 1 + 1 + 1 + 1 + 1, c5) :: (L + 1 + 1 + 1 + 1, c4) :: (L + 1 + 1 + 1, c3) :: (L + 1 + 1, c2) :: (L + 1, c1) :: (D, listOf ws.toArray nD) :: (62, tabObj #[]) :: (69, tabObj #[]) ::  TT, p ∈ news) ∧ PcAll TT r tn rowV rowM ∧ PcAll TT r tn tkV tkM ∧ (∀ p ∈ TT, p.1 ≠ r) ∧ (∀ p ∈ TT, p.1 ≠ dx) ∧ (∀ p ∈ TT, p.1 ≠ tn) ∧ kp ∈ TT ∧
    IntsAre vs zs ∧ (∀ z ∈ zs, 0 ≤ z) ∧ okRun a d most first second Fi vs.length rowM tkM ∧ rowM.length + 2 * vs.length ≤ 100 ∧ tkM.length + 2 * vs.length ≤ 100 ∧ (vs = [] → v = 0)
theorem ne1 {a I : Addr} {o : Obj} (h : a ≠ I) : ∀ q ∈ [(I, o)], a ≠ q.1 := fun q hq => by rw [List.mem_singleton.mp hq]; exact h
theorem fresh_ne {h₀ h : Heap} {L p I : Addr} {o : Obj} {x : Array Value} {news : List (Addr × Obj)} (N : News h₀ L h news) (h1 : (p, tupO x) ∈ news) (h2 : (I, o) ∈ news) (ho : o.cls = .type "list_iterator") : p ≠ I := fun e => by
  have e1 : h.get? p = some (tupO x) := (N _ h1).1
  have e2 : h.get? I = some o := (N _ h2).1
  rw [e, e2] at e1
  cases e1
  simp at ho
theorem step_J (K : Below callerA base [] h₀) (X : (KK w.params).In h₀) (T : Top p loose mean mg mb h₀) {hh : Heap} {tkk : Nat} (F : Fr h₀ L hh m) (d1 : c1.data = .cell (some (.str a t1))) (d3 : c3.data = .cell (some (.int first t3))) (d4 : c4.data = .cell (some (.int second t4)))
    (hL1 : @LT.lt Nat _ 62 L) (hL2 : @LT.lt Nat _ 69 L) (hD : @LT.lt Nat _ (L + 1 + 1 + 1 + 1 + 1 + 1) D) (hes : @LT.lt Nat _ D es) (hdx : @LT.lt Nat _ es dx) (hr : @LT.lt Nat _ dx r) (htn : @LT.lt Nat _ r tn)
    (hf0 : 0 ≤ first) (hf1 : first < 5) (hs0 : 0 ≤ second) (hs1 : second < 5) (ha : a.length ≤ 4) (hE : PassesOwn (model PySem.Challenge.rw_xo0036_01.row.prog w) (callerA.deeper (envOfC (Str.ofString "law") s22 L f cd)) (envOfC (Str.ofString "law") s22 L f cd) E)
    {I : Addr} {o : Obj} {v : Value} {vr : List Value} {news : List (Addr × Obj)} {s0 : Shared} (ho : o.cls = .type "list_iterator") (J : LJ w L r dx tn es D c1 c2 c3 c4 c5 c6 ws nD a d first second most turns td tm tt kp Fi (v :: vr) m news) (hI : ∀ p ∈ news, p.1 ≠ I) (N : News h₀ L hh ((I, o) :: news)) :
    wpAny (model PySem.Challenge.rw_xo0036_01.row.prog w) (callerA.deeper (envOfC (Str.ofString "law") s22 L f cd)) (assign fT7 (envOfC (Str.ofString "law") s22 L f cd) v) (fun _ s₂ => wpAny (model PySem.Challenge.rw_xo0036_01.row.prog w) (callerA.deeper (envOfC (Str.ofString "law") s22 L f cd)) (execs fB7 (envOfC (Str.ofString "law") s22 L f cd)) (TurnPost h₀ L [(I, o)] [kp] (LJ w L r dx tn es D c1 c2 c3 c4 c5 c6 ws nD a d first second most turns td tm tt kp Fi vr) s0 Q) E s₂) E { s0 with heap := hh, toks := tkk } := by
  obtain ⟨m1, m2, m3, m4, m5, m6, rowV, rowM, tkV, tkM, n, nt, tks, tv, vv, TT, zs, hx9, hR, hK, hT1, hT2, hT3, hkp, hz, hz0, hok, hb1, hb2, hv9⟩ := J
  replace N : News h₀ L hh ((I, o) :: (r, rowO dx rowV.toArray n) :: (dx, isD w.params tks vv tv) :: (tn, listOf tkV.toArray nt) :: (es, listOf #[.ref 182, .ref 189, .ref 196, .ref 203, .ref 210] 0) :: (L + 1 + 1 + 1 + 1 + 1 + 1, c6) :: (L + 1 + 1 + 1 + 1 + 1, c5) :: (L + 1 + 1 + 1 + 1, c4) :: (L + 1 + 1 + 1, c3) :: (L + 1 + 1, c2) :: (L + 1, c1) :: (D, listOf ws.toArray nD) :: (62, tabObj #[]) :: (69, tabObj #[]) ::  TT) := cb_drop N (List.forall_mem_cons.mpr ⟨.head _, fun pz hz => .tail _ (hx9 pz hz)⟩)
  replace hI : ∀ p ∈ (r, rowO dx rowV.toArray n) :: (dx, isD w.params tks vv tv) :: (tn, listOf tkV.toArray nt) :: (es, listOf #[.ref 182, .ref 189, .ref 196, .ref 203, .ref 210] 0) :: (L + 1 + 1 + 1 + 1 + 1 + 1, c6) :: (L + 1 + 1 + 1 + 1 + 1, c5) :: (L + 1 + 1 + 1 + 1, c4) :: (L + 1 + 1 + 1, c3) :: (L + 1 + 1, c2) :: (L + 1, c1) :: (D, listOf ws.toArray nD) :: (62, tabObj #[]) :: (69, tabObj #[]) ::  TT, p.1 ≠ I := fun pz hz => hI pz (hx9 pz hz)
  cases hz with
  | @cons z zt _ zs9 hz =>
  have hx0 : 0 ≤ z := hz0 z (.head _)
  have hIT : ∀ p ∈ TT, p.1 ≠ I := fun p hp => hI p (by repeat (first | exact hp | apply List.mem_cons_of_mem))
  have hIr : r ≠ I := hI _ (.head _)
  have hId : dx ≠ I := hI _ (.tail _ (.head _))
  have hIt : tn ≠ I := hI _ (.tail _ (.tail _ (.head _)))
  have len1 := hR.len
  have len2 := hK.len
  cases rowM with
  | nil => exact hok.elim
  | cons q0 moreM =>
  obtain ⟨wr, le⟩ := q0
  cases rowV with
  | nil => exact hR.elim
  | cons v0 moreV =>
  obtain ⟨hok1, hok⟩ := hok
  obtain ⟨⟨p0, tw, tl, rfl, hp0m, hp0, hp1⟩, hR⟩ := hR
  have ox := hok1.ox z hx0
  have len3 := hR.len
  simp only [List.length_cons] at hb1 hb2 len1
  rcases hok1.two with ⟨cc1, cc2, hcc⟩ | ⟨cc1, hcc⟩
  · skip
    refine turn2 (TT := (I, o) :: TT) (more := moreV) (tk0 := tkV) (tl := tl) (tw := tw) (tks := tks) (tv := tv) (v := vv) (n := n) (nt := nt) (c2 := c2) (c5 := c5) (c6 := c6) (ws := ws) (nD := nD) K X T F d1 d3 d4 m1 m2 m3 m4 m5 m6 ?_ hL1 hL2 hD hes hdx hr htn hp0 hp1 (List.forall_mem_cons.mpr ⟨hIr.symm, hT1⟩) (List.forall_mem_cons.mpr ⟨hId.symm, hT2⟩) (List.forall_mem_cons.mpr ⟨hIt.symm, hT3⟩) hf0 hf1 hs0 hs1 (by omega) (by omega) hok1.fit1 hok1.fit2 ha hok1.len ox.pre ox.sz ox.jn ox.asc (ox.cs.trans hcc) ?_ hE
    · refine cb_drop N ?_
      repeat (refine List.forall_mem_cons.mpr ⟨by first | k_mem | (repeat (first | exact hp0m | apply List.mem_cons_of_mem)), ?_⟩)
      intro pz hz
      repeat (first | exact hz | apply List.mem_cons_of_mem)
    · intro h' tk' m' p1 p2 q n' nt' tks' tv' u1 u2 u3 u4 u5 u6 F' N' m1' m2' m3' m4' m5' m6' o1 o2 o3 o4 o5 o6
      have f1 : p1 ≠ I := fresh_ne N' (by k_mem) (by k_mem) ho
      have f3 : q ≠ I := fresh_ne N' (by k_mem) (by k_mem) ho
      have f2 : p2 ≠ I := fresh_ne N' (by k_mem) (by k_mem) ho
      have hin : ∀ p ∈ TT, p ∈ (p2, tupO #[.str (escF second wr) u1, .str ⟨#[cc2]⟩ u2]) :: (p1, tupO #[.str (escF first wr) u3, .str ⟨#[cc1]⟩ u4]) :: (q, tupO #[.str wr u5, .str le u6]) :: TT := fun pz hz => by repeat (first | exact hz | apply List.mem_cons_of_mem)
      refine TurnPost.nextI (news' := (r, rowO dx (moreV ++ [Value.ref p1] ++ [Value.ref p2]).toArray n') :: (dx, isD w.params tks' 0 tv') :: (tn, listOf (tkV ++ [Value.ref q]).toArray nt') :: (es, listOf #[.ref 182, .ref 189, .ref 196, .ref 203, .ref 210] 0) :: (L + 1 + 1 + 1 + 1 + 1 + 1, c6) :: (L + 1 + 1 + 1 + 1 + 1, c5) :: (L + 1 + 1 + 1 + 1, c4) :: (L + 1 + 1 + 1, c3) :: (L + 1 + 1, c2) :: (L + 1, c1) :: (D, listOf ws.toArray nD) :: (62, tabObj #[]) :: (69, tabObj #[]) ::  (p2, tupO #[.str (escF second wr) u1, .str ⟨#[cc2]⟩ u2]) :: (p1, tupO #[.str (escF first wr) u3, .str ⟨#[cc1]⟩ u4]) :: (q, tupO #[.str wr u5, .str le u6]) :: TT) F' ?_ ?_ ?_ ⟨m1', m2', m3', m4', m5', m6', _, moreM ++ [(escF first wr, ⟨#[cc1]⟩)] ++ [(escF second wr, ⟨#[cc2]⟩)], _, tkM ++ [(wr, le)], _, _, _, _, _, (p2, tupO #[.str (escF second wr) u1, .str ⟨#[cc2]⟩ u2]) :: (p1, tupO #[.str (escF first wr) u3, .str ⟨#[cc1]⟩ u4]) :: (q, tupO #[.str wr u5, .str le u6]) :: TT, zs9, (fun _ hh9 => hh9), ?_, ?_, ?_, ?_, ?_, hin _ hkp, hz, fun z hz => hz0 z (.tail _ hz), ?_, ?_, ?_, fun _ => rfl⟩
      · refine cb_drop N' ?_
        repeat (refine List.forall_mem_cons.mpr ⟨by k_mem, ?_⟩)
        intro pz hz
        repeat (first | exact hz | apply List.mem_cons_of_mem)
      · refine List.forall_mem_cons.mpr ⟨ne1 hIr, List.forall_mem_cons.mpr ⟨ne1 hId, List.forall_mem_cons.mpr ⟨ne1 hIt, ?_⟩⟩⟩
        repeat (refine List.forall_mem_cons.mpr ⟨by first | exact ne1 f1 | exact ne1 f3 | exact ne1 f2 | exact ne1 (hI _ (by k_mem)), ?_⟩)
        intro pz hz
        exact ne1 (hIT pz hz)
      · intro pz hz
        rw [List.mem_singleton.mp hz]
        have := hin _ hkp
        repeat (first | exact this | apply List.mem_cons_of_mem)
      · refine PcAll.app (PcAll.app (hR.mono hin) ⟨?_, trivial⟩) ⟨?_, trivial⟩
        · exact ⟨p1, u3, u4, rfl, by k_mem, o1, Nat.ne_of_gt o4⟩
        · exact ⟨p2, u1, u2, rfl, by k_mem, o2, Nat.ne_of_gt o5⟩
      · exact PcAll.app (hK.mono hin) ⟨⟨q, u5, u6, rfl, by k_mem, o3, Nat.ne_of_gt o6⟩, trivial⟩
      · exact List.forall_mem_cons.mpr ⟨Nat.ne_of_gt o2, List.forall_mem_cons.mpr ⟨Nat.ne_of_gt o1, List.forall_mem_cons.mpr ⟨Nat.ne_of_gt o3, hT1⟩⟩⟩
      · exact List.forall_mem_cons.mpr ⟨Nat.ne_of_gt (Nat.lt_trans hr o2), List.forall_mem_cons.mpr ⟨Nat.ne_of_gt (Nat.lt_trans hr o1), List.forall_mem_cons.mpr ⟨Nat.ne_of_gt (Nat.lt_trans hr o3), hT2⟩⟩⟩
      · exact List.forall_mem_cons.mpr ⟨Nat.ne_of_gt o5, List.forall_mem_cons.mpr ⟨Nat.ne_of_gt o4, List.forall_mem_cons.mpr ⟨Nat.ne_of_gt o6, hT3⟩⟩⟩
      · rw [hcc] at hok
        rw [List.append_assoc]; exact hok
      · simp only [List.length_append, List.length_cons, List.length_nil] at hb1 ⊢; omega
      · simp only [List.length_append, List.length_cons, List.length_nil] at hb2 ⊢; omega
  · skip
    refine turn1 (TT := (I, o) :: TT) (more := moreV) (tk0 := tkV) (tl := tl) (tw := tw) (tks := tks) (tv := tv) (v := vv) (n := n) (nt := nt) (c2 := c2) (c5 := c5) (c6 := c6) (ws := ws) (nD := nD) K X T F d1 d3 d4 m1 m2 m3 m4 m5 m6 ?_ hL1 hL2 hD hes hdx hr htn hp0 hp1 (List.forall_mem_cons.mpr ⟨hIr.symm, hT1⟩) (List.forall_mem_cons.mpr ⟨hId.symm, hT2⟩) (List.forall_mem_cons.mpr ⟨hIt.symm, hT3⟩) hf0 hf1 hs0 hs1 (by omega) (by omega) hok1.fit1 hok1.fit2 ha hok1.len ox.pre ox.sz ox.jn ox.asc (ox.cs.trans hcc) ?_ hE
    · refine cb_drop N ?_
      repeat (refine List.forall_mem_cons.mpr ⟨by first | k_mem | (repeat (first | exact hp0m | apply List.mem_cons_of_mem)), ?_⟩)
      intro pz hz
      repeat (first | exact hz | apply List.mem_cons_of_mem)
    · intro h' tk' m' p1 q n' nt' tks' tv' u3 u4 u5 u6 F' N' m1' m2' m3' m4' m5' m6' o1 o3 o4 o6
      have f1 : p1 ≠ I := fresh_ne N' (by k_mem) (by k_mem) ho
      have f3 : q ≠ I := fresh_ne N' (by k_mem) (by k_mem) ho
      skip
      have hin : ∀ p ∈ TT, p ∈ (p1, tupO #[.str (escF first wr) u3, .str ⟨#[cc1]⟩ u4]) :: (q, tupO #[.str wr u5, .str le u6]) :: TT := fun pz hz => by repeat (first | exact hz | apply List.mem_cons_of_mem)
      refine TurnPost.nextI (news' := (r, rowO dx (moreV ++ [Value.ref p1]).toArray n') :: (dx, isD w.params tks' 0 tv') :: (tn, listOf (tkV ++ [Value.ref q]).toArray nt') :: (es, listOf #[.ref 182, .ref 189, .ref 196, .ref 203, .ref 210] 0) :: (L + 1 + 1 + 1 + 1 + 1 + 1, c6) :: (L + 1 + 1 + 1 + 1 + 1, c5) :: (L + 1 + 1 + 1 + 1, c4) :: (L + 1 + 1 + 1, c3) :: (L + 1 + 1, c2) :: (L + 1, c1) :: (D, listOf ws.toArray nD) :: (62, tabObj #[]) :: (69, tabObj #[]) ::  (p1, tupO #[.str (escF first wr) u3, .str ⟨#[cc1]⟩ u4]) :: (q, tupO #[.str wr u5, .str le u6]) :: TT) F' ?_ ?_ ?_ ⟨m1', m2', m3', m4', m5', m6', _, moreM ++ [(escF first wr, ⟨#[cc1]⟩)], _, tkM ++ [(wr, le)], _, _, _, _, _, (p1, tupO #[.str (escF first wr) u3, .str ⟨#[cc1]⟩ u4]) :: (q, tupO #[.str wr u5, .str le u6]) :: TT, zs9, (fun _ hh9 => hh9), ?_, ?_, ?_, ?_, ?_, hin _ hkp, hz, fun z hz => hz0 z (.tail _ hz), ?_, ?_, ?_, fun _ => rfl⟩
      · refine cb_drop N' ?_
        repeat (refine List.forall_mem_cons.mpr ⟨by k_mem, ?_⟩)
        intro pz hz
        repeat (first | exact hz | apply List.mem_cons_of_mem)
      · refine List.forall_mem_cons.mpr ⟨ne1 hIr, List.forall_mem_cons.mpr ⟨ne1 hId, List.forall_mem_cons.mpr ⟨ne1 hIt, ?_⟩⟩⟩
        repeat (refine List.forall_mem_cons.mpr ⟨by first | exact ne1 f1 | exact ne1 f3 | exact ne1 (hI _ (by k_mem)), ?_⟩)
        intro pz hz
        exact ne1 (hIT pz hz)
      · intro pz hz
        rw [List.mem_singleton.mp hz]
        have := hin _ hkp
        repeat (first | exact this | apply List.mem_cons_of_mem)
      · refine PcAll.app (hR.mono hin) ⟨?_, trivial⟩
        · exact ⟨p1, u3, u4, rfl, by k_mem, o1, Nat.ne_of_gt o4⟩

      · exact PcAll.app (hK.mono hin) ⟨⟨q, u5, u6, rfl, by k_mem, o3, Nat.ne_of_gt o6⟩, trivial⟩
      · exact List.forall_mem_cons.mpr ⟨Nat.ne_of_gt o1, List.forall_mem_cons.mpr ⟨Nat.ne_of_gt o3, hT1⟩⟩
      · exact List.forall_mem_cons.mpr ⟨Nat.ne_of_gt (Nat.lt_trans hr o1), List.forall_mem_cons.mpr ⟨Nat.ne_of_gt (Nat.lt_trans hr o3), hT2⟩⟩
      · exact List.forall_mem_cons.mpr ⟨Nat.ne_of_gt o4, List.forall_mem_cons.mpr ⟨Nat.ne_of_gt o6, hT3⟩⟩
      · rw [hcc] at hok
        exact hok
      · simp only [List.length_append, List.length_cons, List.length_nil] at hb1 ⊢; omega
      · simp only [List.length_append, List.length_cons, List.length_nil] at hb2 ⊢; omega
end
end
section
-- LSa
set_option maxRecDepth 100000
set_option maxHeartbeats 0
open PyProof.Rows.LCg PyProof.Rows.LCt PyProof.Rows.LCp
open Classical in
theorem kqd_true {prog : Program} {w : World} {A : Around} {E : Value → Shared → Prop} {s : Shared} {h₀ : Heap} {L : Addr} {news n₁ n₂ : List (Addr × Obj)} {a b : Addr} {oa ob : Obj} {xs ys : List Value} {ka kb : Nat} {ds : List PySem.W.Dat} {Q : Value → Shared → Prop} (N : News h₀ L s.heap news) (ma : (a, oa) ∈ news) (ca : oa.cls = .type "list") (da : oa.data = .seq xs.toArray ka) (Da : DatAll n₁ xs ds) (sa : ∀ p ∈ n₁, p ∈ news)
    (mb : (b, ob) ∈ news) (cb : ob.cls = .type "list") (db : ob.data = .seq ys.toArray kb) (Db : DatAll n₂ ys ds) (sb : ∀ p ∈ n₂, p ∈ news)
    (ha : ∀ d ∈ ds, kqdOk 8 d = true) (hu : A.units + 64 < cLine) (h : Q (.bool true) s) : wpAny (model prog w) A (compareOp .Eq (.ref a) (.ref b)) Q E s :=
  kqd_eq N ma ca da Da sa mb cb db Db sb ha ha hu (by rw [decide_eq_true rfl]; exact h)
noncomputable def pmD (q : Str × Str) : PySem.W.Dat := .tuple [.str q.1, .str q.2]
theorem PdAll.dat {nw : List (Addr × Obj)} : ∀ {vs : List Value} {qs : List (Str × Str)}, PdAll nw vs qs → DatAll nw vs (qs.map pmD)
  | [], [], _ => .nil
  | _ :: _, _ :: _, h => by
    obtain ⟨⟨p, t, u, rfl, hm⟩, h2⟩ := h
    exact .cons (.tuple hm (.cons (.str _ _) (.cons (.str _ _) .nil))) (PdAll.dat h2)
  | [], _ :: _, h => h.elim
  | _ :: _, [], h => h.elim
section
variable {w : World} {mean : ExcName → Option Value} {mg mb : Str → Option Value} {p : Program} {loose : List Str} {base h₀ : Heap} {s : Shared} {L f l : Addr} {cd : Value} {m : Str → Option Value} {Q : Flow → Shared → Prop} {E : Value → Shared → Prop} {its : List Value} {ns : List Int} {tabs : List (Addr × Obj)}
variable {c1 c2 c3 c4 c5 c6 : Obj} {D Dd r dx es tn : Addr} {ws ys rowV tkV : List Value} {nD n nt : Nat} {turns v count : Int} {tt tc tv tks : Tok} {news : List (Addr × Obj)} {dueM rowM tkM : List (Str × Str)}
@[reducible] noncomputable def g11a : List Stmt := gl1 _ (rfl : g11.take 1 = [_])
@[reducible] noncomputable def g11b : List Stmt := gl1 _ (rfl : g11.drop 1 = [_])
theorem g11_eq : g11 = g11a ++ g11b := rfl
theorem seg11a (K : Below callerA base [] h₀) (X : (KK w.params).In h₀) (T : Top p loose mean mg mb h₀) (F : Fr h₀ L s.heap m) (m6 : m "turns" = some (.int turns tt)) (m8 : m "due" = some (.ref Dd)) (ht0 : 0 ≤ turns) (ht1 : turns ≤ 10)
    (N : News h₀ L s.heap ((Dd, lst ys) :: news)) (hlen : ys.length ≤ 100) (hd : PdAll news ys dueM) (hq : ∀ q ∈ dueM, q.1.length ≤ 5000 ∧ q.2.length ≤ 5000)
    (hjn : (((dueM.drop turns.toNat).map fun q => q.1 ++ q.2).map (·.length)).sum + ((dueM.drop turns.toNat).map fun q => q.1 ++ q.2).length * 64 ≤ 16777216)
    (hQ : ∀ h' tk' t, Fr h₀ L h' (fun y => if y = "left" then some (.str (Txt.join (Str.ofString "") ((dueM.drop turns.toNat).map fun q => q.1 ++ q.2)) t) else m y) → News h₀ L h' ((Dd, lst ys) :: news) → Q .next { s with heap := h', toks := tk' }) :
    wpAny (model PySem.Challenge.rw_xo0036_01.row.prog w) (callerA.deeper (envOfC (Str.ofString "law") s22 L f cd)) (execs g11a (envOfC (Str.ofString "law") s22 L f cd)) Q E s := by
  revert X
  k_fill
  intro X
  iterate 7 (first | walk1 | (dsimp only; walk1))
  k_dflt (first | (refine' ListComp_P ?ak1 ?ak2 ?ak3 ?ak4 ?ak5 ?ak6 ?ak8 ?ak9 ?_ ?ak7; (case ak1 => k_asm); (case ak2 => rfl); (case ak3 => decide); (case ak4 => rfl); (case ak5 => decide); (case ak6 => rfl); (case ak8 => rfl); (case ak9 => decide); (case ak7 => intro _; rfl)) | fail "no")
  k_steps
  refine SrcLP.ledger rfl (by assumption) (by assumption) (.head _) (Nat.le_trans (slicePick_size_le _ _ _ _) (by rw [sizeLine_eq]; simp; omega)) fun g => ?_
  refine lef_rest (qs := dueM.drop turns.toNat) K T X (.inr ⟨_, .head _, rfl, _, rfl⟩) ?_ (fun q h => hq q (List.mem_of_mem_drop h)) fun zs hz D9 h9 tk9 F9 N9 off9 => ?_
  · rw [show turns = ((turns.toNat : Nat) : Int) by omega, slicePick_from']
    rw [Int.toNat_natCast]
    exact PdAll.drop _ (hd.mono fun p hp => .tail _ (.tail _ hp))
  · dsimp only
    iterate 1 (first | walk1 | (dsimp only; walk1))
    (try dsimp only)
    k_dflt (first | (refine' join_listC ?bk1 ?bk2 ?bk3 ?bk4 ?_; (case bk1 => exact News.isList (by k_asm) (by k_mem)); (case bk2 => assumption); (case bk3 => decide); (case bk4 => assumption); intro t' k') | fail "no")
    k_steps
    exact hQ _ _ _ (by assumption) (cb_drop (by assumption) (fun p hp => .tail _ (.tail _ hp)))
theorem seg11b (K : Below callerA base [] h₀) (X : (KK w.params).In h₀) (T : Top p loose mean mg mb h₀) (F : Fr h₀ L s.heap m) {S lf : Str} {Ln Pk : Int} {ts tl tp tf : Tok} {sn : Addr} {nS : Nat} (m1 : m "row" = some (.ref r)) (m3 : m "taken" = some (.ref tn)) (m8 : m "due" = some (.ref Dd)) (m9 : m "seen" = some (.ref sn)) (ma : m "left" = some (.str lf tf)) (m7 : m "count" = some (.int count tc)) (m6 : m "turns" = some (.int turns tt))
    (N : News h₀ L s.heap ((r, rowO dx rowV.toArray n) :: (dx, isD w.params tks v tv) :: (tn, listOf tkV.toArray nt) :: (Dd, lst ys) :: (sn, listOf #[.str S ts, .int Ln tl, .int Pk tp] nS) :: news))
    (hrd : @Ne Nat r dx) (h1 : ∀ p ∈ (tn, listOf tkV.toArray nt) :: (Dd, lst ys) :: (sn, listOf #[.str S ts, .int Ln tl, .int Pk tp] nS) :: news, p.1 ≠ r) (h2 : ∀ p ∈ (tn, listOf tkV.toArray nt) :: (Dd, lst ys) :: (sn, listOf #[.str S ts, .int Ln tl, .int Pk tp] nS) :: news, p.1 ≠ dx)
    (hrow : rowV.length ≤ 900) (htk : tkV.length ≤ 900) (hlf : lf.length ≤ 100000) (hy : ys.length ≤ 900) (hc0 : 0 ≤ count) (hc1 : count ≤ 100) (ht0 : 0 ≤ turns) (ht1 : turns ≤ 10) (hS : S = lf) (hLn : Ln = lf.length) (hPk : Pk = count - turns)
    (hR : PdAll news rowV rowM) (hK : PdAll news tkV tkM) (hD : PdAll news ys dueM) (hEq : tkM ++ rowM = dueM) (hlo : PyData.strOk lf = true) (hok : ∀ q ∈ dueM, PyData.strOk q.1 = true ∧ PyData.strOk q.2 = true)
    (hQ : ∀ h' tk' news', Fr h₀ L h' m → News h₀ L h' news' → (∀ p ∈ news, p ∈ news') → Q (.ret (.bool true)) { s with heap := h', toks := tk' }) :
    wpAny (model PySem.Challenge.rw_xo0036_01.row.prog w) (callerA.deeper (envOfC (Str.ofString "law") s22 L f cd)) (execs g11b (envOfC (Str.ofString "law") s22 L f cd)) Q E s := by
  revert X
  k_fill
  intro X
  subst hS hLn hPk
  have hA9 : DatAll news (tkV ++ rowV) (dueM.map pmD) := hEq ▸ (PdAll.app hK hR).dat
  have hB9 : DatAll news ys (dueM.map pmD) := hD.dat
  have hk9 : ∀ d ∈ dueM.map pmD, kqdOk 8 d = true := fun d hd => by
    obtain ⟨q, hq, rfl⟩ := List.mem_map.mp hd
    simp [pmD, kqdOk, hok q hq]
  have hs9 : ∀ d ∈ [PySem.W.Dat.str S, .int S.length, .int (count - turns)], kqdOk 8 d = true := fun d hd => by
    simp only [List.mem_cons, List.not_mem_nil, or_false] at hd
    rcases hd with rfl | rfl | rfl
    · exact hlo
    · rfl
    · rfl
  iterate 10 walk1
  dsimp only [List.cons_append, List.nil_append]
  k_dflt (first | (refine' Claim.use (popA_claim ?cg1 ?cg2 ?cg3) ?ckB ?ckF ?ckX ?ckN ?ckT ?ckk ?ckp ?ckd ?cku ?_; (case ckB => k_asm); (case ckF => k_asm); (case ckX => k_asm); (case ckN => k_asm); (case ckT => k_asm); (case ckk => rfl); (case ckp => assumption); (case ckd => decide +kernel); (case cku => decide +kernel); ((case cg1 => first | assumption | (refine neN ?_; omega)); (case cg2 => k_all); (case cg3 => k_all); (intro v0 n0 hp0; obtain ⟨p', n', hv0, hn0, l1⟩ := hp0; subst hv0; subst hn0; intro h' tk' F' N'; (try k_lt l1)))) | fail "no")
  k_dflt (first | (refine' add_lists ?dk1 ?dk2 ?dk3 ?dk4 ?_ ?dk5; (case dk1 => k_asm); (case dk2 => k_asm); (case dk3 => exact News.isList (by k_asm) (by k_mem)); (case dk4 => exact News.isList (by k_asm) (by k_mem)); (case dk5 => rw [sizeLine_eq]; omega); intro h' F' N') | fail "no")
  iterate 1 (first | walk1 | (dsimp only; walk1))
  (try dsimp only)
  k_dflt (refine' kqd_true ?ek1 ?ek2 ?ek3 ?ek4 ?ek5 ?ek6 ?ek7 ?ek8 ?ek9 ?eka ?ekb ?ekc ?ekd ?_; (case ek1 => k_asm); (case ek2 => k_mem); (case ek3 => rfl); (case ek4 => rfl); (case ek5 => assumption); (case ek6 => exact fun p hp => by repeat (first | exact hp | apply List.mem_cons_of_mem)); (case ek7 => k_mem); (case ek8 => rfl); (case ek9 => rfl); (case eka => assumption); (case ekb => exact fun p hp => by repeat (first | exact hp | apply List.mem_cons_of_mem)); (case ekc => assumption); (case ekd => exact Nat.le_of_ble_eq_true rfl))
  k_steps
  refine kqd_true (n₁ := []) (n₂ := []) (xs := [.str S ts, .int S.length tl, .int (count - turns) tp]) (ys := [.str S tf, .int S.length _, .int (count - turns) _]) (by assumption) (by k_mem) rfl rfl (.cons (.str _ _) (.cons (.int _ _) (.cons (.int _ _) .nil))) (fun _ h => nomatch h) (by k_mem) rfl rfl (.cons (.str _ _) (.cons (.int _ _) (.cons (.int _ _) .nil))) (fun _ h => nomatch h) hs9 (by show callerA.units + 3 + 64 < cLine; decide +kernel) ?_
  exact hQ _ _ _ (by assumption) (by assumption) (fun p hp => by repeat (first | exact hp | apply List.mem_cons_of_mem))
end
end
section
-- WG7
set_option maxRecDepth 100000
set_option maxHeartbeats 0
theorem ClaimG.use {w : World} {mean : ExcName → Option Value} {mg mb : Str → Option Value} {f : Addr} {news : List (Addr × Obj)} {pre : Prop} {vs : List Value} {Post : Value → List (Addr × Obj) → Prop} {p : Program} {loose : List Str} {dp un : Nat} {gd : Option (List Code)} {cn : Str} {cs : Scope} {a : Addr} {ccd : Value} {cl : List (Str × Addr)} {outer : List Env} {A₀ : Around} {base h₀ : Heap} {L : Addr} {m : Str → Option Value} {s : Shared} {Q E : Value → Shared → Prop}
    (C : ClaimG w mean mg mb f news pre vs Post) (B : Below A₀ base outer h₀) (F : Fr h₀ L s.heap m) (X : (KK w.params).In h₀) (N : News h₀ L s.heap news) (T : Top p loose mean mg mb h₀) (hk : cs.kind = .function) (hp : pre) (hd : dp + 2 < recursionLimit) (hu : un + 16 < cLine) (hG : AllBare s.gens)
    (h : ∀ v news', Post v news' → ∀ h' tk' gs', Fr h₀ L h' m → News h₀ L h' news' → AllBare gs' → Q v { s with heap := h', toks := tk', gens := gs' }) :
    wpAny (model PySem.Challenge.rw_xo0036_01.row.prog w) (ktrTop dp un gd cn cs L a ccd cl outer) (call (.ref f) vs) Q E s :=
  C p loose dp un gd cn cs a ccd cl outer A₀ base h₀ L m s Q E B F X N T hk hp hd hu hG fun v news' h' tk' gs' hp' F' N' G' => h v news' hp' h' tk' gs' F' N' G'
theorem PdAll.funs {TT : List (Addr × Obj)} : ∀ {vs : List Value} {qs : List (Str × Str)}, PdAll TT vs qs → ∀ j, j < vs.length → ∃ p t u, vs[j]? = some (.ref p) ∧ (p, tupO #[.str (qs.getD j ("", "")).1 t, .str (qs.getD j ("", "")).2 u]) ∈ TT
  | [], [], _, j, hj => absurd hj (Nat.not_lt_zero _)
  | _ :: _, _ :: _, h, 0, _ => by
    obtain ⟨⟨p, t, u, rfl, hm⟩, _⟩ := h
    exact ⟨p, t, u, rfl, hm⟩
  | _ :: vs, _ :: qs, h, j + 1, hj => by
    obtain ⟨p, t, u, e, hm⟩ := PdAll.funs (vs := vs) (qs := qs) h.2 j (Nat.lt_of_succ_lt_succ hj)
    exact ⟨p, t, u, e, hm⟩
  | [], _ :: _, h, _, _ => h.elim
  | _ :: _, [], h, _, _ => h.elim
theorem PdAll.len9 {TT : List (Addr × Obj)} : ∀ {vs : List Value} {qs : List (Str × Str)}, PdAll TT vs qs → vs.length = qs.length
  | [], [], _ => rfl
  | _ :: _, _ :: _, h => congrArg (· + 1) (PdAll.len9 h.2)
  | [], _ :: _, h => h.elim
  | _ :: _, [], h => h.elim
theorem range_getD {α β : Type} (f : α → β) (d : α) (qs : List α) {n : Nat} (h : n = qs.length) : (List.range n).map (fun j => f (qs.getD j d)) = qs.map f := by
  subst h
  apply List.ext_getElem?
  intro j
  by_cases hj : j < qs.length
  · simp [hj]
  · simp [Nat.le_of_not_lt hj]
theorem preSum_map (f : Nat → Int) : ∀ n, preSum f n = ((List.range n).map f).sum
  | 0 => rfl
  | n + 1 => by
    rw [List.range_succ, List.map_append, List.sum_append, ← preSum_map f n]
    simp [preSum]
open Classical in
theorem PdAll.all {TT : List (Addr × Obj)} {vs : List Value} {qs : List (Str × Str)} (h : PdAll TT vs qs) : ∃ (Ts : Nat → Addr) (tvs uvs : Nat → Tok), ∀ j, j < vs.length → vs[j]? = some (.ref (Ts j)) ∧ (Ts j, tupO #[.str (qs.getD j ("", "")).1 (tvs j), .str (qs.getD j ("", "")).2 (uvs j)]) ∈ TT := by
  have hh : ∀ j, ∃ x : Addr × Tok × Tok, j < vs.length → vs[j]? = some (.ref x.1) ∧ (x.1, tupO #[.str (qs.getD j ("", "")).1 x.2.1, .str (qs.getD j ("", "")).2 x.2.2]) ∈ TT := fun j => by
    by_cases hj : j < vs.length
    · obtain ⟨p, t, u, e, hm⟩ := h.funs j hj
      exact ⟨(p, t, u), fun _ => ⟨e, hm⟩⟩
    · exact ⟨(0, 0, 0), fun hj' => absurd hj' hj⟩
  obtain ⟨f, hf⟩ := Classical.axiomOfChoice hh
  exact ⟨fun j => (f j).1, fun j => (f j).2.1, fun j => (f j).2.2, hf⟩
section
variable {w : World} {mean : ExcName → Option Value} {mg mb : Str → Option Value} {p : Program} {loose : List Str} {base h₀ : Heap} {s : Shared} {L f l : Addr} {cd : Value} {m : Str → Option Value} {E : Value → Shared → Prop} {its : List Value} {ns : List Int} {tabs : List (Addr × Obj)}
variable {r dx : Addr} {rowV : List Value} {n : Nat} {tks tv : Tok} {TT : List (Addr × Obj)} {rowM : List (Str × Str)} {o6 : Obj}
theorem str_rowL {Q : Value → Shared → Prop} (K : Below callerA base [] h₀) (X : (KK w.params).In h₀) (T : Top p loose mean mg mb h₀) (F : Fr h₀ L s.heap m) (G : AllBare s.gens)
    (N : News h₀ L s.heap ((r, rowO dx rowV.toArray n) :: (dx, isD w.params tks 0 tv) :: (62, o6) :: (69, tabObj #[]) :: TT)) (hrd : @Ne Nat r dx) (hr2 : @Ne Nat r 69) (hd2 : @Ne Nat dx 69) (h4 : ∀ p ∈ TT, p.1 ≠ 69)
    (hR : PdAll TT rowV rowM) (hq : ∀ q ∈ rowM, q.1.length ≤ 10000 ∧ q.2.length ≤ 10000) (hj : JoinOk "" (rowM.map fun q => Txt.join "" [q.1, q.2]) = true) (hsz : rowV.length ≤ 1000)
    (h : ∀ h' tk' gs' t ps, Fr h₀ L h' m → News h₀ L h' ((r, rowO dx rowV.toArray n) :: (dx, isD w.params tks 0 tv) :: (62, o6) :: (69, tabObj ps) :: TT) → AllBare gs' → Q (.str (Txt.join "" (rowM.map fun q => Txt.join "" [q.1, q.2])) t) { s with heap := h', toks := tk', gens := gs' }) :
    wpAny (model PySem.Challenge.rw_xo0036_01.row.prog w) (callerA.deeper (envOfC (Str.ofString "law") s22 L f cd)) (call (.type "str") [.ref r]) Q E s := by
  obtain ⟨Ts, tvs, uvs, hf⟩ := hR.all
  have e0 := range_getD (fun q : Str × Str => Txt.join "" [q.1, q.2]) ("", "") rowM (n := rowV.toArray.size) (by rw [← hR.len9]; simp)
  have hb : ∀ j, j < rowV.toArray.size → (rowM.getD j ("", "")).1.length ≤ 10000 ∧ (rowM.getD j ("", "")).2.length ≤ 10000 := fun j hj => by
    have hj' : j < rowM.length := by rw [← hR.len9]; simpa using hj
    refine hq _ ?_
    rw [List.getD_eq_getElem?_getD, List.getElem?_eq_getElem hj']
    exact List.getElem_mem hj'
  refine str_row (by show callerA.units + 3 + 2 < cLine; decide +kernel) (X.keeps F.keep) (rowInst N (.head _) (.tail _ (.head _))) ?_
  refine ClaimG.use (str_claim (Ts := Ts) (tvs := tvs) (uvs := uvs) (tx := fun j => (rowM.getD j ("", "")).1) (ty := fun j => (rowM.getD j ("", "")).2) hrd hr2 hd2 (List.forall_mem_cons.mpr ⟨(by show @Ne Nat 62 69; decide), h4⟩) (fun j hj => by have := (hf j (by simpa using hj)).1; simpa using this) (rest := (62, o6) :: TT) (fun j hj => .tail _ (hf j (by simpa using hj)).2)) K F X (cb_drop N (List.forall_mem_cons.mpr ⟨.head _, List.forall_mem_cons.mpr ⟨.tail _ (.head _), List.forall_mem_cons.mpr ⟨.tail _ (.tail _ (.tail _ (.head _))), List.forall_mem_cons.mpr ⟨.tail _ (.tail _ (.head _)), fun p hp => .tail _ (.tail _ (.tail _ (.tail _ hp)))⟩⟩⟩⟩)) T rfl ⟨hb, by rw [e0]; exact hj, by simpa using hsz⟩ (Nat.le_of_ble_eq_true rfl) (Nat.le_of_ble_eq_true rfl) G ?_
  rintro v news' ⟨t, ps, rfl, rfl⟩ h' tk' gs' F' N' G'
  rw [e0]
  exact h _ _ _ _ _ F' (cb_drop N' (List.forall_mem_cons.mpr ⟨.head _, List.forall_mem_cons.mpr ⟨.tail _ (.head _), List.forall_mem_cons.mpr ⟨.tail _ (.tail _ (.tail _ (.head _))), List.forall_mem_cons.mpr ⟨.tail _ (.tail _ (.head _)), fun p hp => .tail _ (.tail _ (.tail _ (.tail _ hp)))⟩⟩⟩⟩)) G'
theorem len_rowL {Q : Value → Shared → Prop} (K : Below callerA base [] h₀) (X : (KK w.params).In h₀) (T : Top p loose mean mg mb h₀) (F : Fr h₀ L s.heap m) (G : AllBare s.gens)
    (N : News h₀ L s.heap ((r, rowO dx rowV.toArray n) :: (dx, isD w.params tks 0 tv) :: (62, tabObj #[]) :: (69, o6) :: TT)) (hrd : @Ne Nat r dx) (hr2 : @Ne Nat r 62) (hd2 : @Ne Nat dx 62) (h4 : ∀ p ∈ TT, p.1 ≠ 62)
    (hR : PdAll TT rowV rowM) (hq : ∀ q ∈ rowM, q.1.length ≤ 10000 ∧ q.2.length ≤ 10000) (hb0 : (rowM.map fun q => (q.1.length : Int) + (q.2.length : Int)).sum < 2 ^ 63) (hb1 : 0 ≤ (rowM.map fun q => (q.1.length : Int) + (q.2.length : Int)).sum)
    (h : ∀ h' tk' gs' t ps, Fr h₀ L h' m → News h₀ L h' ((r, rowO dx rowV.toArray n) :: (dx, isD w.params tks 0 tv) :: (62, tabObj ps) :: (69, o6) :: TT) → AllBare gs' → Q (.int (rowM.map fun q => (q.1.length : Int) + (q.2.length : Int)).sum t) { s with heap := h', toks := tk', gens := gs' }) :
    wpAny (model PySem.Challenge.rw_xo0036_01.row.prog w) (callerA.deeper (envOfC (Str.ofString "law") s22 L f cd)) (call (.builtin "len") [.ref r]) Q E s := by
  obtain ⟨Ts, tvs, uvs, hf⟩ := hR.all
  have e0 := range_getD (fun q : Str × Str => (q.1.length : Int) + (q.2.length : Int)) ("", "") rowM (n := rowV.toArray.size) (by rw [← hR.len9]; simp)
  have hb : ∀ j, j < rowV.toArray.size → (rowM.getD j ("", "")).1.length ≤ 10000 ∧ (rowM.getD j ("", "")).2.length ≤ 10000 := fun j hj => by
    have hj' : j < rowM.length := by rw [← hR.len9]; simpa using hj
    refine hq _ ?_
    rw [List.getD_eq_getElem?_getD, List.getElem?_eq_getElem hj']
    exact List.getElem_mem hj'
  refine len_row (X.keeps F.keep) (rowInst N (.head _) (.tail _ (.head _))) ?_
  refine ClaimG.use (len_claim (Ts := Ts) (tvs := tvs) (uvs := uvs) (tx := fun j => (rowM.getD j ("", "")).1) (ty := fun j => (rowM.getD j ("", "")).2) hrd hr2 hd2 (List.forall_mem_cons.mpr ⟨(by show @Ne Nat 69 62; decide), h4⟩) (fun j hj => by have := (hf j (by simpa using hj)).1; simpa using this) (rest := (69, o6) :: TT) (fun j hj => .tail _ (hf j (by simpa using hj)).2)) K.in1 F X N T rfl hb (Nat.le_of_ble_eq_true rfl) (Nat.le_of_ble_eq_true rfl) G ?_
  rintro v news' ⟨t, ps, rfl, rfl⟩ h' tk' gs' F' N' G'
  rw [preSum_map, e0]
  exact ⟨_, _, rfl, hb1, hb0, h _ _ _ _ _ F' N' G'⟩
theorem pc_rowL {o7 : Obj} {Q : Value → Shared → Prop} (K : Below callerA base [] h₀) (X : (KK w.params).In h₀) (T : Top p loose mean mg mb h₀) (F : Fr h₀ L s.heap m) (N : News h₀ L s.heap ((r, rowO dx rowV.toArray n) :: (dx, isD w.params tks 0 tv) :: (62, o6) :: (69, o7) :: TT)) (hrd : @Ne Nat r dx) (hr1 : @Ne Nat r 62) (hr2 : @Ne Nat r 69) (hd1 : @Ne Nat dx 62) (hd2 : @Ne Nat dx 69) (h1 : ∀ p ∈ TT, p.1 ≠ r) (h2 : ∀ p ∈ TT, p.1 ≠ dx)
    (h : ∀ h' tk' t, Fr h₀ L h' m → News h₀ L h' ((r, rowO dx rowV.toArray n) :: (dx, isD w.params tks 0 tv) :: (62, o6) :: (69, o7) :: TT) → Q (.int rowV.toArray.size t) { s with heap := h', toks := tk' }) :
    wpAny (model PySem.Challenge.rw_xo0036_01.row.prog w) (callerA.deeper (envOfC (Str.ofString "law") s22 L f cd)) (call (.ref 97) [.ref r]) Q E s := by
  refine Claim.use (part_count_claim hrd (List.forall_mem_cons.mpr ⟨Ne.symm hr1, List.forall_mem_cons.mpr ⟨Ne.symm hr2, h1⟩⟩) (List.forall_mem_cons.mpr ⟨Ne.symm hd1, List.forall_mem_cons.mpr ⟨Ne.symm hd2, h2⟩⟩)) K F X N T rfl trivial (Nat.le_of_ble_eq_true rfl) (Nat.le_of_ble_eq_true rfl) ?_
  rintro v news' ⟨t, rfl, rfl⟩ h' tk' F' N'
  exact h _ _ _ F' N'
end
section
variable {w : World} {mean : ExcName → Option Value} {mg mb : Str → Option Value} {p : Program} {loose : List Str} {base h₀ : Heap} {s : Shared} {L f l : Addr} {cd : Value} {m : Str → Option Value} {Q : Flow → Shared → Prop} {E : Value → Shared → Prop} {its : List Value} {ns : List Int} {tabs : List (Addr × Obj)}
variable {r dx : Addr} {rowV : List Value} {n : Nat} {tks tv : Tok} {TT : List (Addr × Obj)} {rowM : List (Str × Str)}
theorem seg8 (K : Below callerA base [] h₀) (X : (KK w.params).In h₀) (T : Top p loose mean mg mb h₀) (F : Fr h₀ L s.heap m) (G : AllBare s.gens) (m1 : m "row" = some (.ref r))
    (N : News h₀ L s.heap ((r, rowO dx rowV.toArray n) :: (dx, isD w.params tks 0 tv) :: (62, tabObj #[]) :: (69, tabObj #[]) :: TT)) (hrd : @Ne Nat r dx) (hr1 : @Ne Nat r 62) (hr2 : @Ne Nat r 69) (hd1 : @Ne Nat dx 62) (hd2 : @Ne Nat dx 69) (h1 : ∀ p ∈ TT, p.1 ≠ r) (h2 : ∀ p ∈ TT, p.1 ≠ dx) (h3 : ∀ p ∈ TT, p.1 ≠ 62) (h4 : ∀ p ∈ TT, p.1 ≠ 69)
    (hR : PdAll TT rowV rowM) (hq : ∀ q ∈ rowM, q.1.length ≤ 10000 ∧ q.2.length ≤ 10000) (hj : JoinOk "" (rowM.map fun q => Txt.join "" [q.1, q.2]) = true) (hsz : rowV.length ≤ 1000) (hb0 : (rowM.map fun q => (q.1.length : Int) + (q.2.length : Int)).sum < 2 ^ 63) (hb1 : 0 ≤ (rowM.map fun q => (q.1.length : Int) + (q.2.length : Int)).sum)
    (hQ : ∀ h' tk' gs' sn nS ts tl tp ps1 ps2, Fr h₀ L h' (fun y => if y = "seen" then some (.ref sn) else m y) → News h₀ L h' ((sn, listOf #[.str (Txt.join "" (rowM.map fun q => Txt.join "" [q.1, q.2])) ts, .int (rowM.map fun q => (q.1.length : Int) + (q.2.length : Int)).sum tl, .int rowV.toArray.size tp] nS) :: (r, rowO dx rowV.toArray n) :: (dx, isD w.params tks 0 tv) :: (62, tabObj ps1) :: (69, tabObj ps2) :: TT) → AllBare gs' → @LT.lt Nat _ r sn → @LT.lt Nat _ dx sn → Q .next { s with heap := h', toks := tk', gens := gs' }) :
    wpAny (model PySem.Challenge.rw_xo0036_01.row.prog w) (callerA.deeper (envOfC (Str.ofString "law") s22 L f cd)) (execs g8 (envOfC (Str.ofString "law") s22 L f cd)) Q E s := by
  revert X
  k_fill
  intro X
  iterate 10 (first | walk1 | (dsimp only; walk1))
  k_dflt (first | (refine' str_rowL ?ak1 ?ak2 ?ak3 ?ak4 ?ak5 ?ak6 ?ak7 ?ak8 ?ak9 ?aka ?akb ?akc ?akd ?ake ?_; (case ak1 => k_asm); (case ak2 => k_asm); (case ak3 => k_asm); (case ak4 => k_asm); (case ak5 => assumption); (case ak6 => k_asm); (case ak7 => assumption); (case ak8 => assumption); (case ak9 => assumption); (case aka => assumption); (case akb => assumption); (case akc => assumption); (case akd => assumption); (case ake => assumption); intro h' tk' gs' t' ps' F' N' G') | fail "no")
  iterate 7 (first | walk1 | (dsimp only; walk1))
  k_dflt (first | (refine' len_rowL ?bk1 ?bk2 ?bk3 ?bk4 ?bk5 ?bk6 ?bk7 ?bk8 ?bk9 ?bka ?bkb ?bkc ?bkd ?bke ?_; (case bk1 => k_asm); (case bk2 => k_asm); (case bk3 => k_asm); (case bk4 => k_asm); (case bk5 => assumption); (case bk6 => k_asm); (case bk7 => assumption); (case bk8 => assumption); (case bk9 => assumption); (case bka => assumption); (case bkb => assumption); (case bkc => assumption); (case bkd => assumption); (case bke => assumption); intro h' tk' gs' t' ps' F' N' G') | fail "no")
  iterate 5 (first | walk1 | (dsimp only; walk1))
  k_dflt (first | (refine' pc_rowL ?ck1 ?ck2 ?ck3 ?ck4 ?ck6 ?ck7 ?ck8 ?ck9 ?cka ?ckb ?ckc ?ckd ?_; (case ck1 => k_asm); (case ck2 => k_asm); (case ck3 => k_asm); (case ck4 => k_asm); (case ck6 => k_asm); (case ck7 => assumption); (case ck8 => assumption); (case ck9 => assumption); (case cka => assumption); (case ckb => assumption); (case ckc => assumption); (case ckd => assumption); intro h' tk' t' F' N') | fail "no")
  k_steps
  rename Fr h₀ L _ (fun y => if y = "seen" then _ else m y) => FE
  rename News h₀ L _ _ => NE
  exact hQ _ _ _ _ _ _ _ _ _ _ FE (cb_drop NE (List.forall_mem_cons.mpr ⟨.head _, List.forall_mem_cons.mpr ⟨by k_mem, List.forall_mem_cons.mpr ⟨by k_mem, List.forall_mem_cons.mpr ⟨by k_mem, List.forall_mem_cons.mpr ⟨by k_mem, fun pz hz => by repeat (first | exact hz | apply List.mem_cons_of_mem)⟩⟩⟩⟩⟩)) (by assumption) (by omega) (by omega)
end
end
end
end Mine
end
noncomputable section
open PySem PySem.W PyProof.Rows
namespace Mine
open PySem.Calls PyProof.V PySem.Spec Builtin
local macro_rules | `(tactic| walk_at "eval Name") => `(tactic| (k_here; name_kind "local"; k_dflt (first | (refine' ldLoc ?k1 ?k2 ?_ ?k3 ?k4; (case k1 => k_asm); (case k2 => assumption); (case k3 => rfl); (case k4 => rfl); k_whole) | fail "no")))
section
-- LS4
set_option maxRecDepth 100000
set_option maxHeartbeats 0
section
variable {w : World} {mean : ExcName → Option Value} {mg mb : Str → Option Value} {p : Program} {loose : List Str} {base h₀ : Heap} {s : Shared} {L f l : Addr} {cd : Value} {m : Str → Option Value} {Q : Flow → Shared → Prop} {E : Value → Shared → Prop} {its : List Value} {ns : List Int} {tabs : List (Addr × Obj)}
variable {c1 c2 c3 c4 c5 c6 : Obj} {code : Int} {t : Tok} {D : Addr} {ws : List Value} {nD : Nat}
theorem seg3a (K : Below callerA base [] h₀) (X : (KK w.params).In h₀) (T : Top p loose mean mg mb h₀) (F : Fr h₀ L s.heap m) {most : Int} {tm : Tok} (hm : m "most" = some (.int most tm)) 
    (N : News h₀ L s.heap ((L + 1 + 1 + 1 + 1 + 1 + 1, c6) :: (L + 1 + 1 + 1 + 1 + 1, c5) :: (L + 1 + 1 + 1 + 1, c4) :: (L + 1 + 1 + 1, c3) :: (L + 1 + 1, c2) :: (L + 1, c1) :: (D, listOf ws.toArray nD) :: (62, tabObj #[]) :: (69, tabObj #[]) :: [])) (hL1 : @LT.lt Nat _ 62 L) (hL2 : @LT.lt Nat _ 69 L) (hD : @LT.lt Nat _ (L + 1 + 1 + 1 + 1 + 1 + 1) D)
    (hQ : ∀ h' tk' es r dx tks, Fr h₀ L h' (fun y => if y = "row" then some (.ref r) else if y = "escapes" then some (.ref es) else m y) → News h₀ L h' ((r, rowO dx #[] 0) :: (dx, isD w.params tks most tm) :: (es, listOf #[.ref 182, .ref 189, .ref 196, .ref 203, .ref 210] 0) :: (L + 1 + 1 + 1 + 1 + 1 + 1, c6) :: (L + 1 + 1 + 1 + 1 + 1, c5) :: (L + 1 + 1 + 1 + 1, c4) :: (L + 1 + 1 + 1, c3) :: (L + 1 + 1, c2) :: (L + 1, c1) :: (D, listOf ws.toArray nD) :: (62, tabObj #[]) :: (69, tabObj #[]) :: []) → @LT.lt Nat _ D es → @LT.lt Nat _ es dx → @LT.lt Nat _ dx r → Q .next { s with heap := h', toks := tk' }) :
    wpAny (model PySem.Challenge.rw_xo0036_01.row.prog w) (callerA.deeper (envOfC (Str.ofString "law") s22 L f cd)) (execs g4 (envOfC (Str.ofString "law") s22 L f cd)) Q E s := by
  revert X
  k_fill
  intro X
  iterate 26 (first | walk1 | (dsimp only; walk1))
  k_dflt (first | (refine' make_row ?akB ?akF ?akX ?akN ?akT ?akk ?akd ?aku ?_; (case akB => k_asm); (case akF => k_asm); (case akX => k_asm); (case akN => k_asm); (case akT => k_asm); (case akk => rfl); (case akd => decide +kernel); (case aku => decide +kernel); (intro r' dx' tk2' h' tk' l1 l2 F' N'; (try k_lt l1); (try k_lt l2))) | fail "no")
  k_steps
  exact hQ _ _ _ _ _ _ (by assumption) (by assumption) (by omega) (by omega) (by omega)
end
end
section
-- LS8
set_option maxRecDepth 100000
set_option maxHeartbeats 0
local macro_rules | `(tactic| walk_at "exec For Name Subscript cons nil") => `(tactic| (k_here; (rename Fr _ _ _ _ => lF'); (with_unfolding_all refine' For_turns lF' ?_ (hE := ?hE); (case hE => assumption); k_whole)))
local macro_rules | `(tactic| walk_at "pyIter ref") => `(tactic| (k_here; (with_reducible show wpAny _ _ (pyIter (Value.ref _)) (fun it s₂ => TurnsAt _ _ _ _ _ _ _ _ _ it s₂) _ _); k_dflt (first | (refine' iter_listTurns ?k1 ?k2 ?k3 ?k4 ?k5 ?k6 ?_; (case k1 => rfl); (case k2 => k_asm); (case k3 => k_asm); (case k4 => k_mem); (case k5 => rfl); (case k6 => rfl); intro I' hI') | fail "no")))
section
variable {w : World} {mean : ExcName → Option Value} {mg mb : Str → Option Value} {p : Program} {loose : List Str} {base h₀ : Heap} {s : Shared} {L f l : Addr} {cd : Value} {m : Str → Option Value} {Q : Flow → Shared → Prop} {E : Value → Shared → Prop} {its : List Value} {ns : List Int} {tabs : List (Addr × Obj)}
variable {c1 c2 c3 c4 c5 c6 : Obj} {D r dx es tn p0 : Addr} {ws : List Value} {nD n nt : Nat} {a d sg w0 l0 : Str} {first second most turns v : Int} {t1 t3 t4 td tm tt tks tv t5 t6 : Tok} {zs : List Int} {Fi : List PM → List PM → Prop}
theorem seg7 (K : Below callerA base [] h₀) (X : (KK w.params).In h₀) (T : Top p loose mean mg mb h₀) (F : Fr h₀ L s.heap m) (d1 : c1.data = .cell (some (.str a t1))) (d3 : c3.data = .cell (some (.int first t3))) (d4 : c4.data = .cell (some (.int second t4)))
    (m0 : m "numbers" = some (.ref D)) (m6 : m "turns" = some (.int turns tt)) (m1 : m "row" = some (.ref r)) (m2 : m "escapes" = some (.ref es)) (m3 : m "taken" = some (.ref tn)) (m4 : m "doubles" = some (.str d td)) (m5 : m "most" = some (.int most tm))
    (N : News h₀ L s.heap ((r, rowO dx #[.ref p0] n) :: (dx, isD w.params tks v tv) :: (tn, listOf #[] nt) :: (es, listOf #[.ref 182, .ref 189, .ref 196, .ref 203, .ref 210] 0) :: (L + 1 + 1 + 1 + 1 + 1 + 1, c6) :: (L + 1 + 1 + 1 + 1 + 1, c5) :: (L + 1 + 1 + 1 + 1, c4) :: (L + 1 + 1 + 1, c3) :: (L + 1 + 1, c2) :: (L + 1, c1) :: (D, listOf ws.toArray nD) :: (62, tabObj #[]) :: (69, tabObj #[]) ::  (p0, tupO #[.str w0 t5, .str l0 t6]) :: []))
    (hL1 : @LT.lt Nat _ 62 L) (hL2 : @LT.lt Nat _ 69 L) (hD : @LT.lt Nat _ (L + 1 + 1 + 1 + 1 + 1 + 1) D) (hes : @LT.lt Nat _ D es) (hdx : @LT.lt Nat _ es dx) (hr : @LT.lt Nat _ dx r) (htn : @LT.lt Nat _ r tn) (hp0 : @LT.lt Nat _ r p0) (hp1 : @LT.lt Nat _ p0 tn)
    (hf0 : 0 ≤ first) (hf1 : first < 5) (hs0 : 0 ≤ second) (hs1 : second < 5) (ha : a.length ≤ 4) (hE : PassesOwn (model PySem.Challenge.rw_xo0036_01.row.prog w) (callerA.deeper (envOfC (Str.ofString "law") s22 L f cd)) (envOfC (Str.ofString "law") s22 L f cd) E)
    (hI : IntsAre ws zs) (ht0 : 1 ≤ turns) (ht1 : turns ≤ 10) (hz1 : 10 ≤ zs.length) (hz2 : zs.length ≤ 30) (hz0 : ∀ z ∈ zs, 0 ≤ z)
    (hok : okRun a d most first second Fi turns.toNat [(w0, l0)] [])
    (hQ : ∀ kp h' tk' m' news', LJ w L r dx tn es D c1 c2 c3 c4 c5 c6 ws nD a d first second most turns td tm tt kp Fi [] m' news' → Fr h₀ L h' m' → News h₀ L h' news' → Q .next { s with heap := h', toks := tk' }) :
    wpAny (model PySem.Challenge.rw_xo0036_01.row.prog w) (callerA.deeper (envOfC (Str.ofString "law") s22 L f cd)) (execs g7 (envOfC (Str.ofString "law") s22 L f cd)) Q E s := by
  revert X
  k_fill
  intro X
  k_steps
  rename_i D8 ws8 h8 F8 N8 hIw hCw hLw hl1 I8 hI9
  refine items_ind (LJ w L r dx tn es D c1 c2 c3 c4 c5 c6 ws nD a d first second most turns td tm tt (D8, listOf ws8.toArray 0) Fi) ?hc ?hn _ _ _ ?h0 ?hk ?hi
  case hi => exact fun p hp => Nat.ne_of_lt (hI9 p hp)
  case hk => exact fun p hp => by rw [List.mem_singleton.mp hp]; exact .head _
  case hn =>
    intro m' news' J hk h tk F N
    exact wpAny_execs_nil (hQ _ h tk m' news' J F N)
  case hc =>
    intro v vr m' news' J hk hI h tk o F ho N
    exact step_J K X T F d1 d3 d4 hL1 hL2 hD hes hdx hr htn hf0 hf1 hs0 hs1 ha hE ho J hI N
  case h0 =>
    have e9 := hIw.length
    have e8 : ws8.length = turns.toNat := by rw [e9, hCw]; omega
    refine ⟨m1, m2, m3, m4, m5, m6, [.ref p0], [(w0, l0)], [], [], n, nt, tks, tv, v, [(D8, listOf ws8.toArray 0), (p0, tupO #[.str w0 t5, .str l0 t6])], _, ?_, ?_, trivial, ?_, ?_, ?_, .head _, hIw, fun z hz => hz0 z (List.mem_of_mem_take hz), ?_, ?_, ?_, fun hh => by rw [hh] at e8; simp only [List.length_nil] at e8; omega⟩
    · repeat (refine List.forall_mem_cons.mpr ⟨by k_mem, ?_⟩)
      exact List.forall_mem_nil _
    · exact ⟨⟨p0, t5, t6, rfl, .tail _ (.head _), hp0, Nat.ne_of_lt hp1⟩, trivial⟩
    · exact List.forall_mem_cons.mpr ⟨by (refine neN ?_; omega), List.forall_mem_cons.mpr ⟨by (refine neN ?_; omega), List.forall_mem_nil _⟩⟩
    · exact List.forall_mem_cons.mpr ⟨by (refine neN ?_; omega), List.forall_mem_cons.mpr ⟨by (refine neN ?_; omega), List.forall_mem_nil _⟩⟩
    · exact List.forall_mem_cons.mpr ⟨by (refine neN ?_; omega), List.forall_mem_cons.mpr ⟨by (refine neN ?_; omega), List.forall_mem_nil _⟩⟩
    · rw [e8]; exact hok
    · rw [e8]; simp only [List.length_cons, List.length_nil]; omega
    · rw [e8]; simp only [List.length_nil]; omega
end
end
end Mine
end
noncomputable section
-- LB0
open PySem PySem.W PyProof.Rows
set_option maxRecDepth 100000
set_option maxHeartbeats 0
namespace Mine
open PySem.Calls PyProof.V PySem.Spec Builtin
noncomputable def ahF (most turns : Int) (tb : Tok) : Str := Txt.sliceBy (digitsF (turns + 1) (weightsF most)) none none (-1, tb)
noncomputable def FiF (sg a : Str) (i j most turns : Int) (count : Nat) (row tk : List PM) : Prop :=
  tk = (dueL sg a i j (weightsF most) count).take turns.toNat ∧ row = (dueL sg a i j (weightsF most) count).drop turns.toNat
structure PF (a d sg : Str) (most i j turns : Int) (count : Nat) : Prop where
  a3 : 3 ≤ a.length
  a4 : a.length ≤ 4
  i0 : 0 ≤ i
  i5 : i < 5
  j0 : 0 ≤ j
  j5 : j < 5
  fit : fitF j sg
  t7 : 7 ≤ turns
  t10 : turns ≤ 10
  mo : most = 2 ∨ most = 3 ∨ most = 4
  dl : (digitsF (turns + 1) (weightsF most)).length ≤ 6
  ah : ∀ tb, (ahF most turns tb).length ≤ 6
  fits : ∀ tb, PyProof.Rows.SumFits (cntL (ahF most turns tb) (weightsF most) (ahF most turns tb).length)
  cn : ∀ tb, (cntL (ahF most turns tb) (weightsF most) (ahF most turns tb).length).sum - 1 = (count : Int)
  c1 : turns ≤ count
  c2 : count ≤ 100
  run : okRun a d most i j (FiF sg a i j most turns count) turns.toNat [(escF j sg, Txt.item a 1)] []
  pk : ∀ k : Nat, k < count → pieceOk sg (digitsF (1 + (k : Int)) (weightsF most)) a i j
  len : ∀ q ∈ dueL sg a i j (weightsF most) count, q.1.length ≤ 100 ∧ q.2.length ≤ 100 ∧ PyData.strOk q.1 = true ∧ PyData.strOk q.2 = true
open Classical in
noncomputable def tups (TT : List (Addr × Obj)) : List (Addr × Obj) := TT.filter fun p => decide (∃ x, p.2 = tupO x)
open Classical in
theorem mem_tups {TT : List (Addr × Obj)} {p : Addr} {x : Array Value} (h : (p, tupO x) ∈ TT) : (p, tupO x) ∈ tups TT := by
  unfold tups
  exact List.mem_filter.mpr ⟨h, decide_eq_true ⟨x, rfl⟩⟩
open Classical in
theorem tups_mem {TT : List (Addr × Obj)} {p : Addr × Obj} (h : p ∈ tups TT) : p ∈ TT ∧ ∃ x, p.2 = tupO x := by
  unfold tups at h
  exact ⟨(List.mem_filter.mp h).1, of_decide_eq_true (List.mem_filter.mp h).2⟩
theorem PcAll.pd {TT TT' : List (Addr × Obj)} {r tn : Addr} (hs : ∀ p x, (p, tupO x) ∈ TT → (p, tupO x) ∈ TT') : ∀ {vs : List Value} {qs : List PM}, PcAll TT r tn vs qs → PdAll TT' vs qs
  | [], [], _ => trivial
  | _ :: _, _ :: _, h => by
    obtain ⟨⟨p, t, u, e, hm, _, _⟩, h2⟩ := h
    exact ⟨⟨p, t, u, e, hs _ _ hm⟩, PcAll.pd hs h2⟩
  | [], _ :: _, h => h.elim
  | _ :: _, [], h => h.elim
theorem PdAll.tup {TT TT' : List (Addr × Obj)} (hs : ∀ p x, (p, tupO x) ∈ TT → (p, tupO x) ∈ TT') : ∀ {vs : List Value} {qs : List (Str × Str)}, PdAll TT vs qs → PdAll TT' vs qs
  | [], [], _ => trivial
  | _ :: _, _ :: _, h => by
    obtain ⟨⟨p, t, u, e, hm⟩, h2⟩ := h
    exact ⟨⟨p, t, u, e, hs _ _ hm⟩, PdAll.tup hs h2⟩
  | [], _ :: _, h => h.elim
  | _ :: _, [], h => h.elim
theorem News.ne9 {h₀ h : Heap} {L a b : Addr} {o o' : Obj} {news : List (Addr × Obj)} (N : News h₀ L h news) (ha : (a, o) ∈ news) (hb : (b, o') ∈ news) (hne : o ≠ o') : a ≠ b := fun e => by
  have e1 : h.get? a = some o := (N _ ha).1
  have e2 : h.get? b = some o' := (N _ hb).1
  rw [e, e2] at e1
  exact hne (Option.some.inj e1).symm
theorem tups_ne {h₀ h : Heap} {L b : Addr} {o : Obj} {news TT : List (Addr × Obj)} (N : News h₀ L h news) (hb : (b, o) ∈ news) (ho : ∀ x, o ≠ tupO x) (hs : ∀ p ∈ TT, p ∈ news) : ∀ p ∈ tups TT, p.1 ≠ b := fun p hp => by
  obtain ⟨h1, x, e⟩ := tups_mem hp
  obtain ⟨a, o'⟩ := p
  have e : o' = tupO x := e
  subst e
  exact News.ne9 N (hs _ h1) hb fun q => ho x q.symm
theorem tab_ne (ps : Array Value) (x : Array Value) : tabObj ps ≠ tupO x := fun e => by
  have := congrArg Obj.cls e
  simp [tabObj] at this
theorem row_ne (dx : Addr) (its : Array Value) (n : Nat) (x : Array Value) : rowO dx its n ≠ tupO x := fun e => by
  have := congrArg Obj.cls e
  cases this
theorem isD_ne (P : Params) (tk : Tok) (v : Int) (t : Tok) (x : Array Value) : isD P tk v t ≠ tupO x := fun e => by
  have := congrArg Obj.cls e
  simp [isD, dictOf] at this
theorem cell_ne {c : Obj} {v : Option Value} (h : c.data = .cell v) (x : Array Value) : c ≠ tupO x := fun e => by
  rw [e] at h
  cases h
theorem ofs_nil : (Str.ofString "").cps = #[] := rfl
theorem join2 (x y : Str) : Txt.join "" [x, y] = x ++ y := by
  show (⟨x.cps ++ (Str.ofString "").cps ++ y.cps⟩ : Str) = ⟨x.cps ++ y.cps⟩
  rw [ofs_nil, Array.append_empty]
theorem join_len (l : List Str) : (Txt.join "" l).length = (l.map (·.length)).sum := by
  have := size_glued (Str.ofString "") l
  rw [show (Str.ofString "").length = 0 from rfl, Nat.mul_zero, Nat.add_zero] at this
  exact this
theorem fold_ok (l : List Str) (acc : Array Nat) (h0 : acc.all (· < 0x110000) = true) (h : ∀ x ∈ l, PyData.strOk x = true) : (l.foldl (fun acc p => acc ++ (Str.ofString "").cps ++ p.cps) acc).all (· < 0x110000) = true := by
  induction l generalizing acc with
  | nil => exact h0
  | cons x r ih =>
    refine ih _ ?_ fun y hy => h y (.tail _ hy)
    have hx : x.cps.all (· < 0x110000) = true := h x (.head _)
    show (acc ++ (Str.ofString "").cps ++ x.cps).all (· < 0x110000) = true
    rw [ofs_nil, Array.append_empty, Array.all_append, h0, hx]
    rfl
theorem join_ok (l : List Str) (h : ∀ x ∈ l, PyData.strOk x = true) : PyData.strOk (Txt.join "" l) = true := by
  cases l with
  | nil => decide +kernel
  | cons x r => exact fold_ok r x.cps (h x (.head _)) fun y hy => h y (.tail _ hy)
theorem app_ok {x y : Str} (hx : PyData.strOk x = true) (hy : PyData.strOk y = true) : PyData.strOk (x ++ y) = true := by
  show (x.cps ++ y.cps).all _ = true
  rw [Array.all_append]
  have h1 : x.cps.all (· < 0x110000) = true := hx
  have h2 : y.cps.all (· < 0x110000) = true := hy
  rw [h1, h2]
  rfl
theorem fold_len (l : List Str) : ∀ b : Nat, l.foldl (fun n (x : Str) => n + x.length + (Str.ofString "").length) b = b + (l.map (·.length)).sum := by
  induction l with
  | nil => intro b; rfl
  | cons x r ih =>
    intro b
    rw [List.foldl_cons, ih, List.map_cons, List.sum_cons, show (Str.ofString "").length = 0 from rfl]
    omega
theorem sum_le {l : List Str} {k : Nat} (h : ∀ x ∈ l, x.length ≤ k) : (l.map (·.length)).sum ≤ l.length * k := by
  induction l with
  | nil => exact Nat.zero_le _
  | cons x r ih =>
    rw [List.map_cons, List.sum_cons, List.length_cons, Nat.succ_mul]
    have := h x (.head _)
    have := ih fun y hy => h y (.tail _ hy)
    omega
theorem joinOk9 {l : List Str} (h : (l.map (·.length)).sum ≤ 1000000) : JoinOk "" l = true := by
  unfold JoinOk
  rw [List.foldl_toArray, fold_len, Nat.zero_add]
  unfold Builtin.Str.tooLong
  rw [sizeLine_eq]
  simp
  omega
theorem off1_ne {D : Addr} : ∀ {l : List (Addr × Obj)}, PyProof.Rows.LCg.Off1 D l → ∀ p ∈ l, p.1 ≠ D
  | [], _, _, h => nomatch h
  | q :: r, o, p, h => by
    rcases List.mem_cons.mp h with rfl | h
    · exact o.1
    · exact off1_ne o.2 p h
theorem due_len {sg a : Str} {i j : Int} {wl : List Int} : ∀ n, (dueL sg a i j wl n).length = n
  | 0 => rfl
  | n + 1 => by
    show (dueL sg a i j wl n ++ [_]).length = n + 1
    rw [List.length_append, due_len n]
    rfl
theorem lens_sum (l : List (Str × Str)) : (l.map fun q => (q.1.length : Int) + (q.2.length : Int)).sum = ((Txt.join "" (l.map fun q => q.1 ++ q.2)).length : Int) := by
  rw [join_len]
  induction l with
  | nil => rfl
  | cons q r ih =>
    simp only [List.map_cons, List.sum_cons, PySem.Str.length_append]
    rw [ih]
    omega
theorem join_size {l : List (Str × Str)} {n : Nat} (h : ∀ q ∈ l, q.1.length ≤ 100 ∧ q.2.length ≤ 100) (hn : l.length ≤ n) : ((l.map fun q => q.1 ++ q.2).map (·.length)).sum ≤ n * 200 := by
  refine Nat.le_trans (sum_le (k := 200) fun x hx => ?_) ?_
  · obtain ⟨q, hq, rfl⟩ := List.mem_map.mp hx
    rw [PySem.Str.length_append]
    have := h q hq
    omega
  · rw [List.length_map]
    exact Nat.mul_le_mul_right _ hn
end Mine
end
noncomputable section
-- LB1
open PySem PySem.W PyProof.Rows
set_option maxRecDepth 100000
set_option maxHeartbeats 0
namespace Mine
open PySem.Calls PyProof.V PySem.Spec Builtin
section
variable {w : World} {mean : ExcName → Option Value} {mg mb : Str → Option Value} {p : Program} {loose : List Str} {base h₀ : Heap} {s : Shared} {L f l : Addr} {cd : Value} {m : Str → Option Value} {Q : Flow → Shared → Prop} {E : Value → Shared → Prop} {its : List Value} {ns : List Int} {tabs : List (Addr × Obj)}
variable {c1 c2 c3 c4 c5 c6 : Obj}
theorem law_body (K : Below callerA base [] h₀) (X : (KK w.params).In h₀) (T : Top p loose mean mg mb h₀) (F : Fr h₀ L s.heap m) (G : AllBare s.gens) (hE : PassesOwn (model PySem.Challenge.rw_xo0036_01.row.prog w) (callerA.deeper (envOfC (Str.ofString "law") s22 L f cd)) (envOfC (Str.ofString "law") s22 L f cd) E) (hm : m "script" = some (.ref l))
    (N : News h₀ L s.heap ((L + 1 + 1 + 1 + 1 + 1 + 1, c6) :: (L + 1 + 1 + 1 + 1 + 1, c5) :: (L + 1 + 1 + 1 + 1, c4) :: (L + 1 + 1 + 1, c3) :: (L + 1 + 1, c2) :: (L + 1, c1) :: (62, tabObj #[]) :: (69, tabObj #[]) :: [])) (hl : h₀.IsList l its.toArray) (hI : IntsAre its ns) (hn : ns.length ≤ 63) (hL1 : @LT.lt Nat _ 62 L) (hL2 : @LT.lt Nat _ 69 L)
    (d1 : c1.data = .cell none) (d2 : c2.data = .cell none) (d3 : c3.data = .cell none) (d4 : c4.data = .cell none) (d5 : c5.data = .cell none) (d6 : c6.data = .cell none)
    (hc0 : 0 ≤ codeF ns) (hc1 : codeF ns ≤ 100000000) (hz1 : 10 ≤ (numbersF ns).length) (hz2 : (numbersF ns).length ≤ 30) (hz0 : ∀ z ∈ numbersF ns, 0 ≤ z) {count : Nat}
    (P : PF (lettersF ((codeF ns).fmod 6)) (doublesF ((codeF ns).fmod 6)) (signF (codeF ns)) (mostF (lettersF ((codeF ns).fmod 6)).length (codeF ns)) (((codeF ns).fdiv 252).fmod 5) (((codeF ns).fdiv 1260).fmod 5) (turnsF (codeF ns)) count)
    (hQ : ∀ h' tk' gs' m' news' ps1 ps2, Fr h₀ L h' m' → News h₀ L h' news' → (62, tabObj ps1) ∈ news' → (69, tabObj ps2) ∈ news' → AllBare gs' → Q (.ret (.bool true)) { s with heap := h', toks := tk', gens := gs' }) :
    wpAny (model PySem.Challenge.rw_xo0036_01.row.prog w) (callerA.deeper (envOfC (Str.ofString "law") s22 L f cd)) (execs b22 (envOfC (Str.ofString "law") s22 L f cd)) Q E s := by
  rw [b22_eq, g9_eq, g11_eq, List.append_assoc, List.append_assoc]
  refine wpAny_execs_append (seg1 K X T F hm N hl hI hn hL1 hL2 fun h1 tk1 D tc ws nD m1 en ec F1 N1 hIw hD => ?_)
  generalize codeF ns = code at *
  generalize numbersF ns = zs at *
  refine wpAny_execs_append (seg2a K X T F1 d1 d2 d3 d4 d5 d6 N1 ec hL1 hL2 hD fun h2 tk2 o1 t1 t2 do1 F2 N2 => ?_)
  refine wpAny_execs_append (seg2b K X T F2 do1 d2 d3 d4 d5 d6 N2 ((if_neg (by decide)).trans ec) hc0 hc1 P.a3 P.a4 hL1 hL2 hD fun h3 tk3 o2 o3 o4 t22 t33 t44 tm tt m3 do2 do3 do4 em et eo htk F3 N3 => ?_)
  have en3 : m3 "numbers" = some (.ref D) := (eo "numbers" (by decide) (by decide)).trans ((if_neg (by decide)).trans en)
  have ed3 : m3 "doubles" = some (.str (doublesF (code.fmod 6)) t2) := (eo "doubles" (by decide) (by decide)).trans (if_pos rfl)
  generalize lettersF (code.fmod 6) = a at *
  generalize doublesF (code.fmod 6) = d at *
  generalize signF code = sg at *
  generalize mostF a.length code = most at *
  generalize (code.fdiv 252).fmod 5 = i at *
  generalize (code.fdiv 1260).fmod 5 = j at *
  generalize turnsF code = turns at *
  clear eo en ec F1 N1 F2 N2 N F hm
  refine wpAny_execs_append (seg3a K X T F3 em N3 hL1 hL2 hD fun h4 tk4 es r dx tks4 F4 N4 hes hdx hr => ?_)
  refine wpAny_execs_append (seg3b K X T F4 (if_pos rfl) ((if_neg (by decide)).trans (if_pos rfl)) do1 do2 do4 P.j0 P.j5 P.a3 P.a4 P.fit N4 hL1 hL2 hD hes hdx hr fun h5 tk5 p0 t5 t6 F5 N5 hp0 => ?_)
  refine wpAny_execs_append (seg3c K X T F5 N5 fun h6 tk6 tn F6 N6 htn => ?_)
  have htn1 : @LT.lt Nat _ p0 tn := htn _ (.head _)
  have htn2 : @LT.lt Nat _ r tn := htn _ (.tail _ (.head _))
  clear F4 N4 F5 N5 htn F3 N3
  refine wpAny_execs_append (seg7 (t5 := t5) (t6 := t6) (tks := tks4) (tv := tm) (v := most) (n := 1) (nt := 0) (c2 := o2) (c5 := c5) (c6 := c6) (nD := nD) (D := D) K X T F6 do1 do3 do4 ((if_neg (by decide)).trans ((if_neg (by decide)).trans ((if_neg (by decide)).trans en3))) ((if_neg (by decide)).trans ((if_neg (by decide)).trans ((if_neg (by decide)).trans et))) ((if_neg (by decide)).trans (if_pos rfl)) ((if_neg (by decide)).trans ((if_neg (by decide)).trans (if_pos rfl))) (if_pos rfl) ((if_neg (by decide)).trans ((if_neg (by decide)).trans ((if_neg (by decide)).trans ed3))) ((if_neg (by decide)).trans ((if_neg (by decide)).trans ((if_neg (by decide)).trans em))) (cb_drop N6 ?_) hL1 hL2 hD hes hdx hr htn2 hp0 htn1 P.i0 P.i5 P.j0 P.j5 P.a4 ?_ hIw (by have := P.t7; omega) P.t10 hz1 hz2 hz0 P.run fun kp h7 tk7 m7 news7 J F7 N7 => ?_)
  · repeat (refine List.forall_mem_cons.mpr ⟨by k_mem, ?_⟩)
    exact List.forall_mem_nil _
  · exact hE
  obtain ⟨m71, m72, m73, m74, m75, m76, rowV, rowM, tkV, tkM, n, nt, tks, tv, v, TT, zs7, hx7, hR, hK, hT1, hT2, hT3, hkp, hz, _, hok, hb1, hb2, hv⟩ := J
  have hv0 : v = 0 := hv rfl
  subst hv0
  obtain ⟨hk1, hk2⟩ : FiF sg a i j most turns count rowM tkM := hok
  replace N7 := cb_drop N7 hx7
  clear hx7 hv hz F6 N6
  have q_k6_D : @LT.lt Nat _ (L + 1 + 1 + 1 + 1 + 1 + 1) D := hD
  have q_k5_D : @LT.lt Nat _ (L + 1 + 1 + 1 + 1 + 1) D := Nat.lt_of_succ_lt q_k6_D
  have q_k4_D : @LT.lt Nat _ (L + 1 + 1 + 1 + 1) D := Nat.lt_of_succ_lt q_k5_D
  have q_k3_D : @LT.lt Nat _ (L + 1 + 1 + 1) D := Nat.lt_of_succ_lt q_k4_D
  have q_k2_D : @LT.lt Nat _ (L + 1 + 1) D := Nat.lt_of_succ_lt q_k3_D
  have q_k1_D : @LT.lt Nat _ (L + 1) D := Nat.lt_of_succ_lt q_k2_D
  have q_L_D : @LT.lt Nat _ L D := Nat.lt_of_succ_lt q_k1_D
  have q_A62_D : @LT.lt Nat _ 62 D := Nat.lt_trans hL1 q_L_D
  have q_A69_D : @LT.lt Nat _ 69 D := Nat.lt_trans hL2 q_L_D
  have q_D_es : @LT.lt Nat _ D es := hes
  have q_es_dx : @LT.lt Nat _ es dx := hdx
  have q_dx_r : @LT.lt Nat _ dx r := hr
  have q_r_tn : @LT.lt Nat _ r tn := htn2
  have q_k6_es : @LT.lt Nat _ (L + 1 + 1 + 1 + 1 + 1 + 1) es := Nat.lt_trans q_k6_D q_D_es
  have q_k5_es : @LT.lt Nat _ (L + 1 + 1 + 1 + 1 + 1) es := Nat.lt_of_succ_lt q_k6_es
  have q_k4_es : @LT.lt Nat _ (L + 1 + 1 + 1 + 1) es := Nat.lt_of_succ_lt q_k5_es
  have q_k3_es : @LT.lt Nat _ (L + 1 + 1 + 1) es := Nat.lt_of_succ_lt q_k4_es
  have q_k2_es : @LT.lt Nat _ (L + 1 + 1) es := Nat.lt_of_succ_lt q_k3_es
  have q_k1_es : @LT.lt Nat _ (L + 1) es := Nat.lt_of_succ_lt q_k2_es
  have q_L_es : @LT.lt Nat _ L es := Nat.lt_of_succ_lt q_k1_es
  have q_A62_es : @LT.lt Nat _ 62 es := Nat.lt_trans hL1 q_L_es
  have q_A69_es : @LT.lt Nat _ 69 es := Nat.lt_trans hL2 q_L_es
  have q_D_dx : @LT.lt Nat _ D dx := Nat.lt_trans q_D_es q_es_dx
  have q_k6_dx : @LT.lt Nat _ (L + 1 + 1 + 1 + 1 + 1 + 1) dx := Nat.lt_trans q_k6_D q_D_dx
  have q_k5_dx : @LT.lt Nat _ (L + 1 + 1 + 1 + 1 + 1) dx := Nat.lt_of_succ_lt q_k6_dx
  have q_k4_dx : @LT.lt Nat _ (L + 1 + 1 + 1 + 1) dx := Nat.lt_of_succ_lt q_k5_dx
  have q_k3_dx : @LT.lt Nat _ (L + 1 + 1 + 1) dx := Nat.lt_of_succ_lt q_k4_dx
  have q_k2_dx : @LT.lt Nat _ (L + 1 + 1) dx := Nat.lt_of_succ_lt q_k3_dx
  have q_k1_dx : @LT.lt Nat _ (L + 1) dx := Nat.lt_of_succ_lt q_k2_dx
  have q_L_dx : @LT.lt Nat _ L dx := Nat.lt_of_succ_lt q_k1_dx
  have q_A62_dx : @LT.lt Nat _ 62 dx := Nat.lt_trans hL1 q_L_dx
  have q_A69_dx : @LT.lt Nat _ 69 dx := Nat.lt_trans hL2 q_L_dx
  have q_es_r : @LT.lt Nat _ es r := Nat.lt_trans q_es_dx q_dx_r
  have q_D_r : @LT.lt Nat _ D r := Nat.lt_trans q_D_dx q_dx_r
  have q_k6_r : @LT.lt Nat _ (L + 1 + 1 + 1 + 1 + 1 + 1) r := Nat.lt_trans q_k6_D q_D_r
  have q_k5_r : @LT.lt Nat _ (L + 1 + 1 + 1 + 1 + 1) r := Nat.lt_of_succ_lt q_k6_r
  have q_k4_r : @LT.lt Nat _ (L + 1 + 1 + 1 + 1) r := Nat.lt_of_succ_lt q_k5_r
  have q_k3_r : @LT.lt Nat _ (L + 1 + 1 + 1) r := Nat.lt_of_succ_lt q_k4_r
  have q_k2_r : @LT.lt Nat _ (L + 1 + 1) r := Nat.lt_of_succ_lt q_k3_r
  have q_k1_r : @LT.lt Nat _ (L + 1) r := Nat.lt_of_succ_lt q_k2_r
  have q_L_r : @LT.lt Nat _ L r := Nat.lt_of_succ_lt q_k1_r
  have q_A62_r : @LT.lt Nat _ 62 r := Nat.lt_trans hL1 q_L_r
  have q_A69_r : @LT.lt Nat _ 69 r := Nat.lt_trans hL2 q_L_r
  have q_dx_tn : @LT.lt Nat _ dx tn := Nat.lt_trans q_dx_r q_r_tn
  have q_es_tn : @LT.lt Nat _ es tn := Nat.lt_trans q_es_r q_r_tn
  have q_D_tn : @LT.lt Nat _ D tn := Nat.lt_trans q_D_r q_r_tn
  have q_k6_tn : @LT.lt Nat _ (L + 1 + 1 + 1 + 1 + 1 + 1) tn := Nat.lt_trans q_k6_D q_D_tn
  have q_k5_tn : @LT.lt Nat _ (L + 1 + 1 + 1 + 1 + 1) tn := Nat.lt_of_succ_lt q_k6_tn
  have q_k4_tn : @LT.lt Nat _ (L + 1 + 1 + 1 + 1) tn := Nat.lt_of_succ_lt q_k5_tn
  have q_k3_tn : @LT.lt Nat _ (L + 1 + 1 + 1) tn := Nat.lt_of_succ_lt q_k4_tn
  have q_k2_tn : @LT.lt Nat _ (L + 1 + 1) tn := Nat.lt_of_succ_lt q_k3_tn
  have q_k1_tn : @LT.lt Nat _ (L + 1) tn := Nat.lt_of_succ_lt q_k2_tn
  have q_L_tn : @LT.lt Nat _ L tn := Nat.lt_of_succ_lt q_k1_tn
  have q_A62_tn : @LT.lt Nat _ 62 tn := Nat.lt_trans hL1 q_L_tn
  have q_A69_tn : @LT.lt Nat _ 69 tn := Nat.lt_trans hL2 q_L_tn
  have q_L_k1 : @LT.lt Nat _ L (L + 1) := Nat.lt_succ_self _
  have q_A62_k1 : @LT.lt Nat _ 62 (L + 1) := Nat.lt_trans hL1 q_L_k1
  have q_A69_k1 : @LT.lt Nat _ 69 (L + 1) := Nat.lt_trans hL2 q_L_k1
  have q_L_k2 : @LT.lt Nat _ L (L + 1 + 1) := Nat.lt_succ_of_lt q_L_k1
  have q_A62_k2 : @LT.lt Nat _ 62 (L + 1 + 1) := Nat.lt_trans hL1 q_L_k2
  have q_A69_k2 : @LT.lt Nat _ 69 (L + 1 + 1) := Nat.lt_trans hL2 q_L_k2
  have q_L_k3 : @LT.lt Nat _ L (L + 1 + 1 + 1) := Nat.lt_succ_of_lt q_L_k2
  have q_A62_k3 : @LT.lt Nat _ 62 (L + 1 + 1 + 1) := Nat.lt_trans hL1 q_L_k3
  have q_A69_k3 : @LT.lt Nat _ 69 (L + 1 + 1 + 1) := Nat.lt_trans hL2 q_L_k3
  have q_L_k4 : @LT.lt Nat _ L (L + 1 + 1 + 1 + 1) := Nat.lt_succ_of_lt q_L_k3
  have q_A62_k4 : @LT.lt Nat _ 62 (L + 1 + 1 + 1 + 1) := Nat.lt_trans hL1 q_L_k4
  have q_A69_k4 : @LT.lt Nat _ 69 (L + 1 + 1 + 1 + 1) := Nat.lt_trans hL2 q_L_k4
  have q_L_k5 : @LT.lt Nat _ L (L + 1 + 1 + 1 + 1 + 1) := Nat.lt_succ_of_lt q_L_k4
  have q_A62_k5 : @LT.lt Nat _ 62 (L + 1 + 1 + 1 + 1 + 1) := Nat.lt_trans hL1 q_L_k5
  have q_A69_k5 : @LT.lt Nat _ 69 (L + 1 + 1 + 1 + 1 + 1) := Nat.lt_trans hL2 q_L_k5
  have q_L_k6 : @LT.lt Nat _ L (L + 1 + 1 + 1 + 1 + 1 + 1) := Nat.lt_succ_of_lt q_L_k5
  have q_A62_k6 : @LT.lt Nat _ 62 (L + 1 + 1 + 1 + 1 + 1 + 1) := Nat.lt_trans hL1 q_L_k6
  have q_A69_k6 : @LT.lt Nat _ 69 (L + 1 + 1 + 1 + 1 + 1 + 1) := Nat.lt_trans hL2 q_L_k6
  have hTs : ∀ p ∈ TT, p ∈ (r, rowO dx rowV.toArray n) :: (dx, isD w.params tks 0 tv) :: (tn, listOf tkV.toArray nt) :: (es, listOf #[.ref 182, .ref 189, .ref 196, .ref 203, .ref 210] 0) :: (L + 1 + 1 + 1 + 1 + 1 + 1, c6) :: (L + 1 + 1 + 1 + 1 + 1, c5) :: (L + 1 + 1 + 1 + 1, o4) :: (L + 1 + 1 + 1, o3) :: (L + 1 + 1, o2) :: (L + 1, o1) :: (D, listOf ws.toArray nD) :: (62, tabObj #[]) :: (69, tabObj #[]) :: TT := fun p hp => by repeat (first | exact hp | apply List.mem_cons_of_mem)
  have t62 := tups_ne N7 (b := 62) (o := tabObj #[]) (by k_mem) (tab_ne _) hTs
  have t69 := tups_ne N7 (b := 69) (o := tabObj #[]) (by k_mem) (tab_ne _) hTs
  have tc5 := tups_ne N7 (b := L + 1 + 1 + 1 + 1 + 1) (o := c5) (by k_mem) (cell_ne d5) hTs
  have tc6 := tups_ne N7 (b := L + 1 + 1 + 1 + 1 + 1 + 1) (o := c6) (by k_mem) (cell_ne d6) hTs
  have tr : ∀ p ∈ tups TT, p.1 ≠ r := fun p hp => hT1 p (tups_mem hp).1
  have tdx : ∀ p ∈ tups TT, p.1 ≠ dx := fun p hp => hT2 p (tups_mem hp).1
  have lR := hR.len
  have hR8 : PdAll (tups TT) rowV rowM := hR.pd fun _ _ h => mem_tups h
  have hK8 : PdAll (tups TT) tkV tkM := hK.pd fun _ _ h => mem_tups h
  have lK := hK.len
  have lD := due_len (sg := sg) (a := a) (i := i) (j := j) (wl := weightsF most) count
  have ht7 := P.t7
  have ht10 := P.t10
  have hcc1 := P.c1
  have hcc2 := P.c2
  have hrm : ∀ q ∈ rowM, q ∈ dueL sg a i j (weightsF most) count := fun q hq => by rw [hk2] at hq; exact List.mem_of_mem_drop hq
  have hql : ∀ q ∈ rowM, q.1.length ≤ 100 ∧ q.2.length ≤ 100 := fun q hq => ⟨(P.len q (hrm q hq)).1, (P.len q (hrm q hq)).2.1⟩
  have hrl : rowM.length = count - turns.toNat := by rw [hk2, List.length_drop, lD]
  have hsm := join_size hql (n := 100) (by omega)
  have ej : (rowM.map fun q => Txt.join "" [q.1, q.2]) = rowM.map fun q => q.1 ++ q.2 := List.map_congr_left fun q _ => join2 _ _
  have N8 : News h₀ L h7 ((r, rowO dx rowV.toArray n) :: (dx, isD w.params tks 0 tv) :: (62, tabObj #[]) :: (69, tabObj #[]) :: (tn, listOf tkV.toArray nt) :: (es, listOf #[.ref 182, .ref 189, .ref 196, .ref 203, .ref 210] 0) :: (L + 1 + 1 + 1 + 1 + 1 + 1, c6) :: (L + 1 + 1 + 1 + 1 + 1, c5) :: (L + 1 + 1 + 1 + 1, o4) :: (L + 1 + 1 + 1, o3) :: (L + 1 + 1, o2) :: (L + 1, o1) :: (D, listOf ws.toArray nD) :: tups TT) := by
    refine cb_drop N7 ?_
    iterate 13 (refine List.forall_mem_cons.mpr ⟨by k_mem, ?_⟩)
    exact fun p hp => hTs p (tups_mem hp).1
  refine wpAny_execs_append (seg8 (rowM := rowM) K X T F7 G m71 N8 (Nat.ne_of_gt q_dx_r) (Nat.ne_of_gt q_A62_r) (Nat.ne_of_gt q_A69_r) (Nat.ne_of_gt q_A62_dx) (Nat.ne_of_gt q_A69_dx) ?_ ?_ ?_ ?_ (PdAll.tup (fun p x h => by repeat (first | exact h | apply List.mem_cons_of_mem)) hR8) (fun q hq => ⟨Nat.le_trans (hql q hq).1 (by decide), Nat.le_trans (hql q hq).2 (by decide)⟩) (by rw [ej]; exact joinOk9 (Nat.le_trans hsm (by decide))) (by omega) ?_ ?_ fun h8 tk8 gs8 sn nS ts tl tp ps1 ps2 F8 N8' G8 hsn1 hsn2 => ?_)
  · exact List.forall_mem_cons.mpr ⟨(Nat.ne_of_gt q_r_tn), List.forall_mem_cons.mpr ⟨(Nat.ne_of_lt q_es_r), List.forall_mem_cons.mpr ⟨(Nat.ne_of_lt q_k6_r), List.forall_mem_cons.mpr ⟨(Nat.ne_of_lt q_k5_r), List.forall_mem_cons.mpr ⟨(Nat.ne_of_lt q_k4_r), List.forall_mem_cons.mpr ⟨(Nat.ne_of_lt q_k3_r), List.forall_mem_cons.mpr ⟨(Nat.ne_of_lt q_k2_r), List.forall_mem_cons.mpr ⟨(Nat.ne_of_lt q_k1_r), List.forall_mem_cons.mpr ⟨(Nat.ne_of_lt q_D_r), tr⟩⟩⟩⟩⟩⟩⟩⟩⟩
  · exact List.forall_mem_cons.mpr ⟨(Nat.ne_of_gt q_dx_tn), List.forall_mem_cons.mpr ⟨(Nat.ne_of_lt q_es_dx), List.forall_mem_cons.mpr ⟨(Nat.ne_of_lt q_k6_dx), List.forall_mem_cons.mpr ⟨(Nat.ne_of_lt q_k5_dx), List.forall_mem_cons.mpr ⟨(Nat.ne_of_lt q_k4_dx), List.forall_mem_cons.mpr ⟨(Nat.ne_of_lt q_k3_dx), List.forall_mem_cons.mpr ⟨(Nat.ne_of_lt q_k2_dx), List.forall_mem_cons.mpr ⟨(Nat.ne_of_lt q_k1_dx), List.forall_mem_cons.mpr ⟨(Nat.ne_of_lt q_D_dx), tdx⟩⟩⟩⟩⟩⟩⟩⟩⟩
  · exact List.forall_mem_cons.mpr ⟨(Nat.ne_of_gt q_A62_tn), List.forall_mem_cons.mpr ⟨(Nat.ne_of_gt q_A62_es), List.forall_mem_cons.mpr ⟨(Nat.ne_of_gt q_A62_k6), List.forall_mem_cons.mpr ⟨(Nat.ne_of_gt q_A62_k5), List.forall_mem_cons.mpr ⟨(Nat.ne_of_gt q_A62_k4), List.forall_mem_cons.mpr ⟨(Nat.ne_of_gt q_A62_k3), List.forall_mem_cons.mpr ⟨(Nat.ne_of_gt q_A62_k2), List.forall_mem_cons.mpr ⟨(Nat.ne_of_gt q_A62_k1), List.forall_mem_cons.mpr ⟨(Nat.ne_of_gt q_A62_D), t62⟩⟩⟩⟩⟩⟩⟩⟩⟩
  · exact List.forall_mem_cons.mpr ⟨(Nat.ne_of_gt q_A69_tn), List.forall_mem_cons.mpr ⟨(Nat.ne_of_gt q_A69_es), List.forall_mem_cons.mpr ⟨(Nat.ne_of_gt q_A69_k6), List.forall_mem_cons.mpr ⟨(Nat.ne_of_gt q_A69_k5), List.forall_mem_cons.mpr ⟨(Nat.ne_of_gt q_A69_k4), List.forall_mem_cons.mpr ⟨(Nat.ne_of_gt q_A69_k3), List.forall_mem_cons.mpr ⟨(Nat.ne_of_gt q_A69_k2), List.forall_mem_cons.mpr ⟨(Nat.ne_of_gt q_A69_k1), List.forall_mem_cons.mpr ⟨(Nat.ne_of_gt q_A69_D), t69⟩⟩⟩⟩⟩⟩⟩⟩⟩
  · rw [lens_sum, join_len]; omega
  · rw [lens_sum]; omega
  rw [ej, lens_sum] at N8'
  clear N7 N8 F7
  refine wpAny_execs_append (seg9a (c1 := o1) (c2 := o2) (c3 := o3) (c4 := o4) (c5 := c5) (c6 := c6) (TT := (sn, listOf #[.str (Txt.join "" (rowM.map fun q => q.1 ++ q.2)) ts, .int (Txt.join "" (rowM.map fun q => q.1 ++ q.2)).length tl, .int rowV.toArray.size tp] nS) :: (r, rowO dx rowV.toArray n) :: (dx, isD w.params tks 0 tv) :: (62, tabObj ps1) :: (69, tabObj ps2) :: (tn, listOf tkV.toArray nt) :: (es, listOf #[.ref 182, .ref 189, .ref 196, .ref 203, .ref 210] 0) :: (D, listOf ws.toArray nD) :: tups TT) K X T F8 d5 ((if_neg (by decide)).trans m75) P.mo (cb_drop N8' ?_) ?_ fun h9 tk9 pw itsW cw o5 do5 hIW F9 N9 hpw => ?_)
  · iterate 14 (refine List.forall_mem_cons.mpr ⟨by k_mem, ?_⟩)
    exact fun p hp => by repeat (first | exact hp | apply List.mem_cons_of_mem)
  · exact List.forall_mem_cons.mpr ⟨(Nat.ne_of_gt (Nat.lt_trans q_k5_r hsn1)), List.forall_mem_cons.mpr ⟨(Nat.ne_of_gt q_k5_r), List.forall_mem_cons.mpr ⟨(Nat.ne_of_gt q_k5_dx), List.forall_mem_cons.mpr ⟨(Nat.ne_of_lt q_A62_k5), List.forall_mem_cons.mpr ⟨(Nat.ne_of_lt q_A69_k5), List.forall_mem_cons.mpr ⟨(Nat.ne_of_gt q_k5_tn), List.forall_mem_cons.mpr ⟨(Nat.ne_of_gt q_k5_es), List.forall_mem_cons.mpr ⟨(Nat.ne_of_gt q_k5_D), tc5⟩⟩⟩⟩⟩⟩⟩⟩
  clear N8' F8
  refine wpAny_execs_append (seg9b (most := most) K X T F9 do5 d6 ((if_neg (by decide)).trans m76) P.t7 P.t10 hIW P.dl N9 ?_ hpw fun h10 tk10 o6 ta tb do6 F10 N10 => ?_)
  · exact List.forall_mem_cons.mpr ⟨(Nat.ne_of_gt (Nat.lt_trans q_k6_r hsn1)), List.forall_mem_cons.mpr ⟨(Nat.ne_of_gt q_k6_r), List.forall_mem_cons.mpr ⟨(Nat.ne_of_gt q_k6_dx), List.forall_mem_cons.mpr ⟨(Nat.ne_of_lt q_A62_k6), List.forall_mem_cons.mpr ⟨(Nat.ne_of_lt q_A69_k6), List.forall_mem_cons.mpr ⟨(Nat.ne_of_gt q_k6_tn), List.forall_mem_cons.mpr ⟨(Nat.ne_of_gt q_k6_es), List.forall_mem_cons.mpr ⟨(Nat.ne_of_gt q_k6_D), tc6⟩⟩⟩⟩⟩⟩⟩⟩
  clear N9 F9
  refine wpAny_execs_append (seg9c (ah := ahF most turns tb) (most := most) K X T F10 do5 do6 hIW (P.ah tb) (P.fits tb) N10 fun h11 tk11 tc9 F11 N11 => ?_)
  rw [P.cn tb] at F11
  clear N10 F10
  refine wpAny_execs_append (seg10 (count := (count : Int)) K X T F11 (if_pos rfl) (Int.natCast_nonneg _) (by omega) do1 do2 do3 do4 do5 hIW (by rw [IntsAre.length hIW, weights_len]) (fun k hk => P.pk k (by omega)) N11 fun h12 tk12 Dd ys nw F12 N12 off hs12 hpd => ?_)
  rw [Int.toNat_natCast] at hpd
  have hyl : ys.length = count := hpd.len9.trans lD
  have hdl : ∀ q ∈ dueL sg a i j (weightsF most) count, q.1.length ≤ 100 ∧ q.2.length ≤ 100 := fun q hq => ⟨(P.len q hq).1, (P.len q hq).2.1⟩
  clear N11 F11
  refine wpAny_execs_append (seg11a K X T F12 ((if_neg (by decide)).trans ((if_neg (by decide)).trans ((if_neg (by decide)).trans m76))) (if_pos rfl) (by omega) P.t10 N12 (by omega) hpd (fun q hq => ⟨Nat.le_trans (hdl q hq).1 (by decide), Nat.le_trans (hdl q hq).2 (by decide)⟩) (by rw [← hk2, List.length_map]; omega) fun h13 tk13 tf F13 N13 => ?_)
  rw [← hk2] at F13
  clear N12 F12
  have hsub : ∀ p x, (p, tupO x) ∈ tups TT → (p, tupO x) ∈ (62, tabObj ps1) :: (69, tabObj ps2) :: tups nw := fun p x h => .tail _ (.tail _ (mem_tups (hs12 _ (by repeat (first | exact h | apply List.mem_cons_of_mem)))))
  have hnd : ∀ p ∈ nw, p.1 ≠ Dd := off1_ne off
  have hrD : @Ne Nat r Dd := hnd (r, rowO dx rowV.toArray n) (hs12 _ (by k_mem))
  have hdD : @Ne Nat dx Dd := hnd (dx, isD w.params tks 0 tv) (hs12 _ (by k_mem))
  have ur := tups_ne N13 (b := r) (o := rowO dx rowV.toArray n) (.tail _ (hs12 _ (by k_mem))) (row_ne _ _ _) fun p hp => .tail _ hp
  have ud := tups_ne N13 (b := dx) (o := isD w.params tks 0 tv) (.tail _ (hs12 _ (by k_mem))) (isD_ne _ _ _ _) fun p hp => .tail _ hp
  refine seg11b (Pk := (rowV.toArray.size : Nat)) (nt := nt) (nS := nS) (ts := ts) (tl := tl) (tp := tp) (n := n) (tks := tks) (tv := tv) (v := 0) (dx := dx) (rowV := rowV) (tkV := tkV) (ys := ys) (rowM := rowM) (tkM := tkM) (dueM := dueL sg a i j (weightsF most) count) (news := (62, tabObj ps1) :: (69, tabObj ps2) :: tups nw) K X T F13 ((if_neg (by decide)).trans ((if_neg (by decide)).trans ((if_neg (by decide)).trans ((if_neg (by decide)).trans m71)))) ((if_neg (by decide)).trans ((if_neg (by decide)).trans ((if_neg (by decide)).trans ((if_neg (by decide)).trans m73)))) ((if_neg (by decide)).trans (if_pos rfl)) ((if_neg (by decide)).trans ((if_neg (by decide)).trans ((if_neg (by decide)).trans (if_pos rfl)))) (if_pos rfl) ((if_neg (by decide)).trans ((if_neg (by decide)).trans (if_pos rfl))) ((if_neg (by decide)).trans ((if_neg (by decide)).trans ((if_neg (by decide)).trans ((if_neg (by decide)).trans m76)))) (cb_drop N13 ?_) (Nat.ne_of_gt q_dx_r) ?_ ?_ (by omega) (by omega) (by rw [join_len]; omega) (by omega) (Int.natCast_nonneg _) (by omega) (by omega) P.t10 rfl rfl (by rw [List.size_toArray, lR, hrl]; omega) (hR8.tup hsub) (hK8.tup hsub) (hpd.tup fun p x h => .tail _ (.tail _ (mem_tups h))) (by rw [hk1, hk2, List.take_append_drop]) (join_ok _ fun x hx => ?_) (fun q hq => (P.len q hq).2.2) fun h' tk' news' F' N' hs => hQ _ _ _ _ _ ps1 ps2 F' N' (hs _ (.head _)) (hs _ (.tail _ (.head _))) G8
  · iterate 2 (refine List.forall_mem_cons.mpr ⟨.tail _ (hs12 _ (by k_mem)), ?_⟩)
    refine List.forall_mem_cons.mpr ⟨.tail _ (hs12 _ (by k_mem)), List.forall_mem_cons.mpr ⟨.head _, ?_⟩⟩
    iterate 3 (refine List.forall_mem_cons.mpr ⟨.tail _ (hs12 _ (by k_mem)), ?_⟩)
    exact fun p hp => .tail _ (tups_mem hp).1
  · exact List.forall_mem_cons.mpr ⟨Nat.ne_of_gt q_r_tn, List.forall_mem_cons.mpr ⟨Ne.symm hrD, List.forall_mem_cons.mpr ⟨Nat.ne_of_gt hsn1, List.forall_mem_cons.mpr ⟨Nat.ne_of_lt q_A62_r, List.forall_mem_cons.mpr ⟨Nat.ne_of_lt q_A69_r, ur⟩⟩⟩⟩⟩
  · exact List.forall_mem_cons.mpr ⟨Nat.ne_of_gt q_dx_tn, List.forall_mem_cons.mpr ⟨Ne.symm hdD, List.forall_mem_cons.mpr ⟨Nat.ne_of_gt hsn2, List.forall_mem_cons.mpr ⟨Nat.ne_of_lt q_A62_dx, List.forall_mem_cons.mpr ⟨Nat.ne_of_lt q_A69_dx, ud⟩⟩⟩⟩⟩
  · obtain ⟨q, hq, rfl⟩ := List.mem_map.mp hx
    exact app_ok (P.len q (hrm q hq)).2.2.1 (P.len q (hrm q hq)).2.2.2
end
end Mine
end
noncomputable section
-- LC0
open PySem PySem.W PyProof.Rows
set_option maxRecDepth 100000
set_option maxHeartbeats 0
namespace Mine
open PySem.Calls PyProof.V PySem.Spec Builtin
theorem drawn_in (ns : List Int) : ∀ z ∈ drawnF ns, 0 ≤ z ∧ z < 1000000 := fun z hz => by
  obtain ⟨k, _, rfl⟩ := List.mem_map.mp hz
  have e : (10 : Int) ^ Int.toNat 6 = 1000000 := by decide
  rw [e]
  exact ⟨Int.fmod_nonneg_of_pos _ (by decide), Int.fmod_lt_of_pos _ (by decide)⟩
theorem drawn_len (ns : List Int) : (drawnF ns).length ≤ 10 := by
  unfold drawnF
  rw [List.length_map, List.length_take]
  omega
theorem sum_in : ∀ {l : List Int} {n : Nat}, (∀ z ∈ l, 0 ≤ z ∧ z < 1000000) → l.length ≤ n → 0 ≤ l.sum ∧ l.sum ≤ 1000000 * (n : Int)
  | [], n, _, _ => by simp; omega
  | z :: r, 0, _, h => absurd h (by simp)
  | z :: r, n + 1, h, hl => by
    have := sum_in (l := r) (n := n) (fun y hy => h y (.tail _ hy)) (Nat.le_of_succ_le_succ hl)
    have := h z (.head _)
    rw [List.sum_cons]
    omega
theorem code_in (ns : List Int) : 0 ≤ codeF ns ∧ codeF ns ≤ 100000000 := by
  have := sum_in (drawn_in ns) (drawn_len ns)
  unfold codeF
  omega
theorem nums_len (ns : List Int) : 10 ≤ (numbersF ns).length ∧ (numbersF ns).length ≤ 30 := by
  have := drawn_len ns
  unfold numbersF
  rw [List.length_append]
  simp
  omega
theorem nums_nn (ns : List Int) : ∀ z ∈ numbersF ns, 0 ≤ z := fun z hz => by
  unfold numbersF at hz
  rcases List.mem_append.mp hz with h | h
  · exact (drawn_in ns z h).1
  · exact (by decide : ∀ z ∈ ([5, 0, 11, 2, 7, 4, 13, 10, 3, 6] : List Int), 0 ≤ z) z h
end Mine
end
noncomputable section
-- PL1
open PySem PySem.W PyProof.Rows
set_option maxRecDepth 100000
set_option maxHeartbeats 0
namespace Mine
open PySem.Calls PyProof.V PySem.Spec Builtin
noncomputable def subL (c : Nat) (z l : List Nat) : List Nat := l.flatMap fun k => if k = c then z else [k]
theorem subL_append (c : Nat) (z a b : List Nat) : subL c z (a ++ b) = subL c z a ++ subL c z b := List.flatMap_append
theorem subL_free (c : Nat) (z : List Nat) : ∀ l : List Nat, c ∉ l → subL c z l = l
  | [], _ => rfl
  | k :: r, h => by
    have h1 : ¬ k = c := fun e => h (e ▸ List.mem_cons_self ..)
    show (if k = c then z else [k]) ++ subL c z r = k :: r
    rw [if_neg h1, subL_free c z r fun m => h (List.mem_cons_of_mem _ m)]
    rfl
theorem subL_one (c : Nat) (z : List Nat) : subL c z [c] = z := by simp [subL]
theorem sub_join (c : Nat) (z : Str) : ∀ parts : List Str, (∀ p ∈ parts, c ∉ p.cps.toList) → subL c z.cps.toList (Str.join ⟨#[c]⟩ parts).cps.toList = (Str.join z parts).cps.toList
  | [], _ => rfl
  | [p], h => subL_free c _ _ (h p (List.mem_singleton.mpr rfl))
  | p :: q :: r, h => by
    have ih := sub_join c z (q :: r) fun a ha => h a (List.mem_cons_of_mem _ ha)
    show subL c z.cps.toList (p ++ ⟨#[c]⟩ ++ Str.join ⟨#[c]⟩ (q :: r)).cps.toList = (p ++ z ++ Str.join z (q :: r)).cps.toList
    simp only [PySem.Str.cps_append, Array.toList_append]
    rw [subL_append, subL_append, ih, subL_free c _ _ (h p (List.mem_cons_self ..))]
    show p.cps.toList ++ subL c z.cps.toList [c] ++ _ = _
    rw [subL_one]
theorem replace_sub (x z : Str) (c : Nat) : (Txt.replace x ⟨#[c]⟩ z).cps.toList = subL c z.cps.toList x.cps.toList := by
  rw [StrLaws.replace_one, ← sub_join c z _ (StrLaws.split_free x c), StrLaws.join_split]
theorem rep1_sub {x y z : Str} {c : Nat} {l : List Nat} (hy : y = ⟨#[c]⟩) (hl : x.cps.toList = l) : (rep1 x y z).cps.toList = subL c z.cps.toList l := by
  subst hy
  have h := StrLaws.found_one x c
  unfold rep1
  rw [← hl]
  split
  · rename_i e
    rw [e] at h
    exact (subL_free c _ _ (of_decide_eq_false h.symm)).symm
  · exact replace_sub x z c
noncomputable def zl (s : String) : List Nat := (Str.ofString s).cps.toList
theorem c38 : Str.ofString "&" = ⟨#[38]⟩ := by decide +kernel
theorem c60 : Str.ofString "<" = ⟨#[60]⟩ := by decide +kernel
theorem c62 : Str.ofString ">" = ⟨#[62]⟩ := by decide +kernel
theorem c34 : Str.ofString "\"" = ⟨#[34]⟩ := by decide +kernel
theorem c13 : Str.ofString "\r" = ⟨#[13]⟩ := by decide +kernel
theorem c10 : Str.ofString "\n" = ⟨#[10]⟩ := by decide +kernel
theorem c9 : Str.ofString "\t" = ⟨#[9]⟩ := by decide +kernel
noncomputable def e0L (l : List Nat) : List (List Nat) := let a := subL 38 (zl "&amp;") l; let b := subL 60 (zl "&lt;") a; [l, a, b, subL 62 (zl "&gt;") b]
noncomputable def e1L (l : List Nat) : List (List Nat) := let a := subL 38 (zl "&amp;") l; let b := subL 60 (zl "&lt;") a; let c := subL 62 (zl "&gt;") b; let d := subL 34 (zl "&quot;") c; let e := subL 13 (zl "&#13;") d; let f := subL 10 (zl "&#10;") e; [l, a, b, c, d, e, f, subL 9 (zl "&#09;") f]
noncomputable def e2L (l : List Nat) : List (List Nat) := let a := subL 38 (zl "&amp;") l; let b := subL 62 (zl "&gt;") a; [l, a, b, subL 34 (zl "&quot;") b]
noncomputable def e3L (l : List Nat) : List (List Nat) := let a := subL 38 (zl "&amp;") l; let b := subL 60 (zl "&lt;") a; let c := subL 62 (zl "&gt;") b; [l, a, b, c, subL 13 (zl "&#xD;") c]
noncomputable def e4L (l : List Nat) : List (List Nat) := let a := subL 38 (zl "&amp;") l; let b := subL 60 (zl "&lt;") a; let c := subL 34 (zl "&quot;") b; let d := subL 9 (zl "&#x9;") c; let e := subL 10 (zl "&#xA;") d; [l, a, b, c, d, e, subL 13 (zl "&#xD;") e]
noncomputable def eL (k : Int) (l : List Nat) : List (List Nat) := if k = 0 then e0L l else if k = 1 then e1L l else if k = 2 then e2L l else if k = 3 then e3L l else e4L l
noncomputable def escOk (k : Int) (l r : List Nat) : Bool := let x := eL k l; x.all (fun y => decide (y.length ≤ 1048576)) && decide (x.getLast? = some r)
theorem str_of {x y : Str} (h : x.cps.toList = y.cps.toList) : x = y := PySem.Str.ext' (Array.toList_inj.mp h)
theorem len_of {x : Str} {l : List Nat} (h : x.cps.toList = l) (hl : l.length ≤ 1048576) : x.length ≤ 1048576 := by
  rw [← h] at hl
  exact hl
theorem esc_of {k : Int} {x y : Str} (h : escOk k x.cps.toList y.cps.toList = true) : escF k x = y ∧ fitF k x := by
  unfold escOk eL at h
  unfold escF fitF
  split
  · rename_i hk
    rw [if_pos hk] at h
    simp only [e0L, List.all_cons, List.all_nil, Bool.and_eq_true, decide_eq_true_eq, List.getLast?_cons_cons, List.getLast?_singleton, Option.some.injEq] at h
    have r1 := rep1_sub (x := x) (z := Str.ofString "&amp;") c38 rfl
    have r2 := rep1_sub (z := Str.ofString "&lt;") c60 r1
    have r3 := rep1_sub (z := Str.ofString "&gt;") c62 r2
    exact ⟨str_of (r3.trans h.2), len_of rfl h.1.1, len_of r1 h.1.2.1, len_of r2 h.1.2.2.1⟩
  rename_i n0
  rw [if_neg n0] at h
  split
  · rename_i hk
    rw [if_pos hk] at h
    simp only [e1L, List.all_cons, List.all_nil, Bool.and_eq_true, decide_eq_true_eq, List.getLast?_cons_cons, List.getLast?_singleton, Option.some.injEq] at h
    have r1 := rep1_sub (x := x) (z := Str.ofString "&amp;") c38 rfl
    have r2 := rep1_sub (z := Str.ofString "&lt;") c60 r1
    have r3 := rep1_sub (z := Str.ofString "&gt;") c62 r2
    have r4 := rep1_sub (z := Str.ofString "&quot;") c34 r3
    have r5 := rep1_sub (z := Str.ofString "&#13;") c13 r4
    have r6 := rep1_sub (z := Str.ofString "&#10;") c10 r5
    have r7 := rep1_sub (z := Str.ofString "&#09;") c9 r6
    exact ⟨str_of (r7.trans h.2), len_of rfl h.1.1, len_of r1 h.1.2.1, len_of r2 h.1.2.2.1, len_of r3 h.1.2.2.2.1, len_of r4 h.1.2.2.2.2.1, len_of r5 h.1.2.2.2.2.2.1, len_of r6 h.1.2.2.2.2.2.2.1⟩
  rename_i n1
  rw [if_neg n1] at h
  split
  · rename_i hk
    rw [if_pos hk] at h
    simp only [e2L, List.all_cons, List.all_nil, Bool.and_eq_true, decide_eq_true_eq, List.getLast?_cons_cons, List.getLast?_singleton, Option.some.injEq] at h
    have r1 := rep1_sub (x := x) (z := Str.ofString "&amp;") c38 rfl
    have r2 := rep1_sub (z := Str.ofString "&gt;") c62 r1
    have r3 := rep1_sub (z := Str.ofString "&quot;") c34 r2
    exact ⟨str_of (r3.trans h.2), len_of rfl h.1.1, len_of r1 h.1.2.1, len_of r2 h.1.2.2.1⟩
  rename_i n2
  rw [if_neg n2] at h
  split
  · rename_i hk
    rw [if_pos hk] at h
    simp only [e3L, List.all_cons, List.all_nil, Bool.and_eq_true, decide_eq_true_eq, List.getLast?_cons_cons, List.getLast?_singleton, Option.some.injEq] at h
    have r1 := rep1_sub (x := x) (z := Str.ofString "&amp;") c38 rfl
    have r2 := rep1_sub (z := Str.ofString "&lt;") c60 r1
    have r3 := rep1_sub (z := Str.ofString "&gt;") c62 r2
    have r4 := rep1_sub (z := Str.ofString "&#xD;") c13 r3
    exact ⟨str_of (r4.trans h.2), len_of rfl h.1.1, len_of r1 h.1.2.1, len_of r2 h.1.2.2.1, len_of r3 h.1.2.2.2.1⟩
  rename_i n3
  rw [if_neg n3] at h
  simp only [e4L, List.all_cons, List.all_nil, Bool.and_eq_true, decide_eq_true_eq, List.getLast?_cons_cons, List.getLast?_singleton, Option.some.injEq] at h
  have r1 := rep1_sub (x := x) (z := Str.ofString "&amp;") c38 rfl
  have r2 := rep1_sub (z := Str.ofString "&lt;") c60 r1
  have r3 := rep1_sub (z := Str.ofString "&quot;") c34 r2
  have r4 := rep1_sub (z := Str.ofString "&#x9;") c9 r3
  have r5 := rep1_sub (z := Str.ofString "&#xA;") c10 r4
  have r6 := rep1_sub (z := Str.ofString "&#xD;") c13 r5
  exact ⟨str_of (r6.trans h.2), len_of rfl h.1.1, len_of r1 h.1.2.1, len_of r2 h.1.2.2.1, len_of r3 h.1.2.2.2.1, len_of r4 h.1.2.2.2.2.1, len_of r5 h.1.2.2.2.2.2.1⟩
noncomputable def KS : List Int := [0, 1, 2, 3, 4]
noncomputable def CS : List Nat := [38, 60, 62, 34, 9, 10, 13]
theorem mem_KS {k : Int} (h0 : 0 ≤ k) (h1 : k < 5) : k ∈ KS := by
  have : k = 0 ∨ k = 1 ∨ k = 2 ∨ k = 3 ∨ k = 4 := by omega
  rcases this with rfl | rfl | rfl | rfl | rfl <;> simp [KS]
theorem base_all : (KS.all fun k => CS.all fun c => if notIn k ⟨#[c]⟩ = true then escOk k [c] [c] else escOk k [c] (layF 1 k ⟨#[c]⟩).cps.toList) = true := by decide +kernel
theorem lay_all : (([0, 1] : List Int).all fun q => CS.all fun c => (List.range 5).all fun n => KS.all fun k => escOk k (layF (n + 1 : Nat) q ⟨#[c]⟩).cps.toList (layF (n + 2 : Nat) q ⟨#[c]⟩).cps.toList) = true := by decide +kernel
theorem size_all : (([0, 1] : List Int).all fun q => CS.all fun c => (List.range 7).all fun n => decide ((layF (n : Nat) q ⟨#[c]⟩).length ≤ 100) && PyData.strOk (layF (n : Nat) q ⟨#[c]⟩)) = true := by decide +kernel
end Mine
end
noncomputable section
-- PL2
open PySem PySem.W PyProof.Rows
set_option maxRecDepth 100000
set_option maxHeartbeats 0
namespace Mine
open PySem.Calls PyProof.V PySem.Spec Builtin
noncomputable def WF (n1 n2 c : Nat) (i j : Int) : Str := if notIn j ⟨#[c]⟩ = true then (if notIn i ⟨#[c]⟩ = true then ⟨#[c]⟩ else layF (n2 : Nat) i ⟨#[c]⟩) else layF (n1 : Nat) j ⟨#[c]⟩
theorem writeF_eq (D : Str) (c : Nat) (i j : Int) : writeF D ⟨#[c]⟩ i j = WF D.length (Txt.lstripChars D (Str.ofString "1")).length c i j := rfl
theorem lay_q (n : Int) (q : Int) (sg : Str) : layF n q sg = layF n (if q = 1 then 1 else 0) sg := by
  unfold layF
  by_cases h : q = 1
  · subst h; rfl
  · simp only [if_neg h]; rfl
theorem lay_step {c n : Nat} {k : Int} (q : Int) (hc : c ∈ CS) (hk : k ∈ KS) (hn : n < 5) : escF k (layF (n + 1 : Nat) q ⟨#[c]⟩) = layF (n + 2 : Nat) q ⟨#[c]⟩ ∧ fitF k (layF (n + 1 : Nat) q ⟨#[c]⟩) := by
  rw [lay_q _ q, lay_q ((n + 2 : Nat) : Int) q]
  have hq : (if q = 1 then 1 else 0 : Int) ∈ ([0, 1] : List Int) := by split <;> simp
  generalize (if q = 1 then 1 else 0 : Int) = q' at *
  exact esc_of (List.all_eq_true.mp (List.all_eq_true.mp (List.all_eq_true.mp (List.all_eq_true.mp lay_all q' hq) c hc) n (List.mem_range.mpr hn)) k hk)
theorem base_in {c : Nat} {k : Int} (hc : c ∈ CS) (hk : k ∈ KS) (h : notIn k ⟨#[c]⟩ = true) : escF k ⟨#[c]⟩ = ⟨#[c]⟩ ∧ fitF k ⟨#[c]⟩ := by
  have := List.all_eq_true.mp (List.all_eq_true.mp base_all k hk) c hc
  rw [if_pos h] at this
  exact esc_of this
theorem base_out {c : Nat} {k : Int} (hc : c ∈ CS) (hk : k ∈ KS) (h : ¬ notIn k ⟨#[c]⟩ = true) : escF k ⟨#[c]⟩ = layF (1 : Nat) k ⟨#[c]⟩ ∧ fitF k ⟨#[c]⟩ := by
  have := List.all_eq_true.mp (List.all_eq_true.mp base_all k hk) c hc
  rw [if_neg h] at this
  exact esc_of (x := ⟨#[c]⟩) (y := layF 1 k ⟨#[c]⟩) this
theorem base_fit {c : Nat} {k : Int} (hc : c ∈ CS) (hk : k ∈ KS) : fitF k ⟨#[c]⟩ := by
  by_cases h : notIn k ⟨#[c]⟩ = true
  · exact (base_in hc hk h).2
  · exact (base_out hc hk h).2
theorem lay_zero (q : Int) (sg : Str) : layF ((0 : Nat) : Int) q sg = sg := if_pos rfl
section
variable {c n1 n2 : Nat} {i j : Int} (hc : c ∈ CS) (hi : i ∈ KS) (hj : j ∈ KS)
include hc hi hj
theorem step0 (h1 : 1 ≤ n1) (h2 : n1 ≤ 5) (h3 : n2 ≤ 5) : escF i (WF n1 n2 c i j) = WF (n1 + 1) (n2 + 1) c i j ∧ fitF i (WF n1 n2 c i j) := by
  unfold WF
  by_cases a : notIn j ⟨#[c]⟩ = true
  · simp only [if_pos a]
    by_cases b : notIn i ⟨#[c]⟩ = true
    · simp only [if_pos b]
      exact base_in hc hi b
    · simp only [if_neg b]
      cases n2 with
      | zero => rw [lay_zero]; exact base_out hc hi b
      | succ n => exact lay_step i hc hi (by omega)
  · simp only [if_neg a]
    obtain ⟨n, rfl⟩ : ∃ n, n1 = n + 1 := ⟨n1 - 1, by omega⟩
    exact lay_step j hc hi (by omega)
theorem step1 (h1 : 1 ≤ n1) (h2 : n1 ≤ 5) (h3 : n2 ≤ 5) : escF j (WF n1 n2 c i j) = WF (n1 + 1) (if n2 = 0 then 0 else n2 + 1) c i j ∧ fitF j (WF n1 n2 c i j) := by
  unfold WF
  by_cases a : notIn j ⟨#[c]⟩ = true
  · simp only [if_pos a]
    by_cases b : notIn i ⟨#[c]⟩ = true
    · simp only [if_pos b]
      exact base_in hc hj a
    · simp only [if_neg b]
      cases n2 with
      | zero => rw [if_pos rfl, lay_zero]; exact base_in hc hj a
      | succ n => rw [if_neg (Nat.succ_ne_zero n)]; exact lay_step i hc hj (by omega)
  · simp only [if_neg a]
    obtain ⟨n, rfl⟩ : ∃ n, n1 = n + 1 := ⟨n1 - 1, by omega⟩
    exact lay_step j hc hj (by omega)
omit hi hj in
theorem lay_size (q : Int) {n : Nat} (hn : n < 7) : (layF (n : Nat) q ⟨#[c]⟩).length ≤ 100 ∧ PyData.strOk (layF (n : Nat) q ⟨#[c]⟩) = true := by
  rw [lay_q]
  have hq : (if q = 1 then 1 else 0 : Int) ∈ ([0, 1] : List Int) := by split <;> simp
  generalize (if q = 1 then 1 else 0 : Int) = q' at *
  have := List.all_eq_true.mp (List.all_eq_true.mp (List.all_eq_true.mp size_all q' hq) c hc) n (List.mem_range.mpr hn)
  simpa using this
omit hi hj in
theorem wf_size (h2 : n1 ≤ 6) (h3 : n2 ≤ 6) : (WF n1 n2 c i j).length ≤ 100 ∧ PyData.strOk (WF n1 n2 c i j) = true := by
  unfold WF
  split
  · split
    · have := lay_size hc 0 (n := 0) (by omega)
      rw [lay_zero] at this
      exact this
    · exact lay_size hc i (by omega)
  · exact lay_size hc j (by omega)
end
noncomputable def rkS (D : Str) : Nat := D.length - (Txt.rstripChars D (Str.ofString "1")).length
noncomputable def rkI (D : Str) : Int := ↑D.length - ↑(Txt.rstripChars D (Str.ofString "1")).length
noncomputable def lsS (D : Str) : Nat := (Txt.lstripChars D (Str.ofString "1")).length
noncomputable def kidsS (m : Nat) (D : Str) : List Str := if rkS D + 1 < m then [D ++ Str.ofString "0", D ++ Str.ofString "1"] else [D ++ Str.ofString "0"]
structure GoodS (m : Nat) (D : Str) : Prop where
  l1 : 1 ≤ D.length
  l5 : D.length ≤ 5
  s5 : lsS D ≤ 5
  rm : rkS D < m
  ri : rkI D = (rkS D : Int)
  k0 : lsS (D ++ Str.ofString "0") = lsS D + 1
  r0 : rkI (D ++ Str.ofString "0") = 0
  k1 : rkS D + 1 < m → lsS (D ++ Str.ofString "1") = (if lsS D = 0 then 0 else lsS D + 1)
  r1 : rkS D + 1 < m → rkI (D ++ Str.ofString "1") = (rkS D : Int) + 1
noncomputable def goodS (m : Nat) (D : Str) : Bool := decide (1 ≤ D.length) && (decide (D.length ≤ 5) && (decide (lsS D ≤ 5) && (decide (rkS D < m) && (decide (rkI D = (rkS D : Int)) && (decide (lsS (D ++ Str.ofString "0") = lsS D + 1) && (decide (rkI (D ++ Str.ofString "0") = 0) && (decide (rkS D + 1 < m → lsS (D ++ Str.ofString "1") = (if lsS D = 0 then 0 else lsS D + 1)) && decide (rkS D + 1 < m → rkI (D ++ Str.ofString "1") = (rkS D : Int) + 1))))))))
theorem goodS_of {m : Nat} {D : Str} (h : goodS m D = true) : GoodS m D := by
  unfold goodS at h
  simp only [Bool.and_eq_true, decide_eq_true_eq] at h
  obtain ⟨a1, a2, a3, a4, a5, a6, a7, a8, a9⟩ := h
  exact ⟨a1, a2, a3, a4, a5, a6, a7, a8, a9⟩
noncomputable def chkS (m turns : Nat) (fin : List Str) : Nat → List Str → List Str → Bool
  | 0, row, tk => decide (tk = fin.take turns) && decide (row = fin.drop turns)
  | _ + 1, [], _ => false
  | k + 1, D :: more, tk => goodS m D && chkS m turns fin k (more ++ kidsS m D) (tk ++ [D])
noncomputable def cpA (a : Str) (k : Nat) : Nat := a.cps.toList.getD k 0
structure LOK (a : Str) (m r : Nat) : Prop where
  fd : Txt.find a (Txt.item a (r : Int)) = (r : Int)
  ln : (Txt.item a (r : Int)).length ≤ 4
  wd : wordC a (m : Int) (Txt.item a (r : Int)) = if r + 1 < m then [cpA a 0, cpA a (r + 1)] else [cpA a 0]
  i0 : Txt.item a 0 = ⟨#[cpA a 0]⟩
  i1 : r + 1 < m → Txt.item a ((r : Int) + 1) = ⟨#[cpA a (r + 1)]⟩
noncomputable def lokS (a : Str) (m r : Nat) : Bool := decide (Txt.find a (Txt.item a (r : Int)) = (r : Int)) && (decide ((Txt.item a (r : Int)).length ≤ 4) && (decide (wordC a (m : Int) (Txt.item a (r : Int)) = if r + 1 < m then [cpA a 0, cpA a (r + 1)] else [cpA a 0]) && (decide (Txt.item a 0 = ⟨#[cpA a 0]⟩) && decide (r + 1 < m → Txt.item a ((r : Int) + 1) = ⟨#[cpA a (r + 1)]⟩))))
theorem lok_of {a : Str} {m r : Nat} (h : lokS a m r = true) : LOK a m r := by
  unfold lokS at h
  simp only [Bool.and_eq_true, decide_eq_true_eq] at h
  obtain ⟨a1, a2, a3, a4, a5⟩ := h
  exact ⟨a1, a2, a3, a4, a5⟩
noncomputable def pcS (a : Str) (c : Nat) (i j : Int) (D : Str) : PM := (writeF D ⟨#[c]⟩ i j, letterF a D)
theorem run_of {a d : Str} {c m turns : Nat} {i j : Int} {fin : List Str} (hc : c ∈ CS) (hi : i ∈ KS) (hj : j ∈ KS) (hL : ∀ r, r < m → LOK a m r) (hO : ∀ r, r < m → ∀ x, 0 ≤ x → OkX a d (m : Int) (Txt.item a (r : Int)) x) {Fi : List PM → List PM → Prop}
    (hF : Fi ((fin.drop turns).map (pcS a c i j)) ((fin.take turns).map (pcS a c i j))) :
    ∀ k row tk, chkS m turns fin k row tk = true → okRun a d (m : Int) i j Fi k (row.map (pcS a c i j)) (tk.map (pcS a c i j))
  | 0, row, tk, h => by
    simp only [chkS, Bool.and_eq_true, decide_eq_true_eq] at h
    obtain ⟨rfl, rfl⟩ := h
    exact hF
  | _ + 1, [], _, h => by cases h
  | k + 1, D :: more, tk, h => by
    simp only [chkS, Bool.and_eq_true] at h
    have g := goodS_of h.1
    have L := hL (rkS D) g.rm
    have le : letterF a D = Txt.item a (rkS D : Int) := congrArg (Txt.item a) g.ri
    have s0 := step0 (n1 := D.length) (n2 := lsS D) hc hi hj g.l1 g.l5 g.s5
    have s1 := step1 (n1 := D.length) (n2 := lsS D) hc hi hj g.l1 g.l5 g.s5
    have w0 : writeF (D ++ Str.ofString "0") ⟨#[c]⟩ i j = escF i (writeF D ⟨#[c]⟩ i j) := by
      rw [writeF_eq, writeF_eq, PySem.Str.length_append, show (Str.ofString "0").length = 1 by decide +kernel]
      exact (by rw [show (Txt.lstripChars (D ++ Str.ofString "0") (Str.ofString "1")).length = lsS D + 1 from g.k0]; exact s0.1.symm)
    have l0 : letterF a (D ++ Str.ofString "0") = ⟨#[cpA a 0]⟩ := (congrArg (Txt.item a) g.r0).trans L.i0
    refine ⟨⟨s0.2, s1.2, ?_, ?_, ?_⟩, ?_⟩
    · show (letterF a D).length ≤ 4
      rw [le]; exact L.ln
    · show ∀ x, 0 ≤ x → OkX a d m (letterF a D) x
      rw [le]; exact hO _ g.rm
    · show (∃ c1 c2, wordC a m (letterF a D) = [c1, c2]) ∨ ∃ c1, wordC a m (letterF a D) = [c1]
      rw [le, L.wd]
      split
      · exact .inl ⟨_, _, rfl⟩
      · exact .inr ⟨_, rfl⟩
    · have e : pushesC (wordC a m (letterF a D)) i j (writeF D ⟨#[c]⟩ i j) = (kidsS m D).map (pcS a c i j) := by
        rw [le, L.wd]
        unfold kidsS
        by_cases hr : rkS D + 1 < m
        · rw [if_pos hr, if_pos hr]
          have w1 : writeF (D ++ Str.ofString "1") ⟨#[c]⟩ i j = escF j (writeF D ⟨#[c]⟩ i j) := by
            rw [writeF_eq, writeF_eq, PySem.Str.length_append, show (Str.ofString "1").length = 1 by decide +kernel]
            exact (by rw [show (Txt.lstripChars (D ++ Str.ofString "1") (Str.ofString "1")).length = _ from g.k1 hr]; exact s1.1.symm)
          have l1 : letterF a (D ++ Str.ofString "1") = ⟨#[cpA a (rkS D + 1)]⟩ := (congrArg (Txt.item a) (g.r1 hr)).trans (L.i1 hr)
          show [(_, _), (_, _)] = [(_, _), (_, _)]
          rw [w0, w1, l0, l1]
        · rw [if_neg hr, if_neg hr]
          show [(_, _)] = [(_, _)]
          rw [w0, l0]
      have ih := run_of hc hi hj hL hO hF k _ _ h.2
      rw [List.map_append, List.map_append, ← e] at ih
      exact ih
end Mine
end
noncomputable section
-- PL3
open PySem PySem.W PyProof.Rows
set_option maxRecDepth 100000
set_option maxHeartbeats 0
namespace Mine
open PySem.Calls PyProof.V PySem.Spec Builtin
noncomputable def cntM (m t : Nat) : Nat := if m = 2 then (if t = 7 then 12 else if t = 8 then 14 else if t = 9 then 15 else 17) else if m = 3 then (if t = 7 then 14 else if t = 8 then 16 else if t = 9 then 18 else 19) else (if t = 7 then 14 else if t = 8 then 16 else if t = 9 then 18 else 20)
noncomputable def finS (m n : Nat) : List Str := (List.range n).map fun (k : Nat) => digitsF (1 + (k : Int)) (weightsF (m : Int))
theorem dueL_map (a : Str) (c : Nat) (i j : Int) (m : Nat) : ∀ n, dueL ⟨#[c]⟩ a i j (weightsF (m : Int)) n = (finS m n).map (pcS a c i j)
  | 0 => rfl
  | n + 1 => by
    unfold finS
    rw [List.range_succ, List.map_append, List.map_append]
    show dueL _ _ _ _ _ n ++ _ = _
    rw [dueL_map a c i j m n]
    rfl
theorem ah_tok (most turns : Int) (tb : Tok) : ahF most turns tb = ahF most turns 0 := rfl
structure MT (m t : Nat) : Prop where
  dl : (digitsF ((t : Int) + 1) (weightsF (m : Int))).length ≤ 6
  ah : (ahF (m : Int) (t : Int) 0).length ≤ 6
  cl : ∀ z ∈ cntL (ahF (m : Int) (t : Int) 0) (weightsF (m : Int)) (ahF (m : Int) (t : Int) 0).length, 0 ≤ z ∧ z ≤ 100
  cs : (cntL (ahF (m : Int) (t : Int) 0) (weightsF (m : Int)) (ahF (m : Int) (t : Int) 0).length).length ≤ 6
  cn : (cntL (ahF (m : Int) (t : Int) 0) (weightsF (m : Int)) (ahF (m : Int) (t : Int) 0).length).sum - 1 = (cntM m t : Int)
  c1 : t ≤ cntM m t
  c2 : cntM m t ≤ 100
  ch : chkS m t (finS m (cntM m t)) t [Str.ofString "1"] [] = true
  pk : ∀ D ∈ finS m (cntM m t), D.length ≤ 6 ∧ lsS D ≤ 6 ∧ 0 ≤ rkI D ∧ rkI D < (m : Int)
noncomputable def mtS (m t : Nat) : Bool :=
  decide ((digitsF ((t : Int) + 1) (weightsF (m : Int))).length ≤ 6) && (decide ((ahF (m : Int) (t : Int) 0).length ≤ 6) && (((cntL (ahF (m : Int) (t : Int) 0) (weightsF (m : Int)) (ahF (m : Int) (t : Int) 0).length).all fun z => decide (0 ≤ z) && decide (z ≤ 100)) && (decide ((cntL (ahF (m : Int) (t : Int) 0) (weightsF (m : Int)) (ahF (m : Int) (t : Int) 0).length).length ≤ 6) && (decide ((cntL (ahF (m : Int) (t : Int) 0) (weightsF (m : Int)) (ahF (m : Int) (t : Int) 0).length).sum - 1 = (cntM m t : Int)) && (decide (t ≤ cntM m t) && (decide (cntM m t ≤ 100) && (chkS m t (finS m (cntM m t)) t [Str.ofString "1"] [] && (finS m (cntM m t)).all fun D => decide (D.length ≤ 6) && (decide (lsS D ≤ 6) && (decide (0 ≤ rkI D) && decide (rkI D < (m : Int)))))))))))
theorem mt_of {m t : Nat} (h : mtS m t = true) : MT m t := by
  unfold mtS at h
  simp only [Bool.and_eq_true, decide_eq_true_eq, List.all_eq_true] at h
  obtain ⟨a1, a2, a3, a4, a5, a6, a7, a8, a9⟩ := h
  exact ⟨a1, a2, a3, a4, a5, a6, a7, a8, a9⟩
theorem mt_all : (([2, 3, 4] : List Nat).all fun m => ([7, 8, 9, 10] : List Nat).all fun t => mtS m t) = true := by decide +kernel
theorem mt {m t : Nat} (h1 : 2 ≤ m) (h2 : m ≤ 4) (h3 : 7 ≤ t) (h4 : t ≤ 10) : MT m t := by
  have hm : m ∈ ([2, 3, 4] : List Nat) := by
    have : m = 2 ∨ m = 3 ∨ m = 4 := by omega
    rcases this with rfl | rfl | rfl <;> simp
  have ht : t ∈ ([7, 8, 9, 10] : List Nat) := by
    have : t = 7 ∨ t = 8 ∨ t = 9 ∨ t = 10 := by omega
    rcases this with rfl | rfl | rfl | rfl <;> simp
  exact mt_of (List.all_eq_true.mp (List.all_eq_true.mp mt_all m hm) t ht)
theorem fits9 {l : List Int} (h : ∀ z ∈ l, 0 ≤ z ∧ z ≤ 100) (hl : l.length ≤ 6) : PyProof.Rows.SumFits l := fun j hj => by
  have sm : ∀ {r : List Int} {n : Nat}, (∀ z ∈ r, 0 ≤ z ∧ z ≤ 100) → r.length ≤ n → 0 ≤ r.sum ∧ r.sum ≤ 100 * (n : Int) := by
    intro r
    induction r with
    | nil => intro n _ _; simp; omega
    | cons z r ih =>
      intro n h hl
      obtain ⟨n, rfl⟩ : ∃ k, n = k + 1 := ⟨n - 1, by simp at hl; omega⟩
      have h1 := ih (n := n) (fun y hy => h y (.tail _ hy)) (Nat.le_of_succ_le_succ hl)
      have h2 := h z (.head _)
      rw [List.sum_cons]
      omega
  have h1 := h (l.getD j 0) (by rw [List.getD_eq_getElem?_getD, List.getElem?_eq_getElem hj]; exact List.getElem_mem hj)
  have h2 := sm (r := l.take (j + 1)) (n := 6) (fun z hz => h z (List.mem_of_mem_take hz)) (by rw [List.length_take]; omega)
  unfold InLong
  omega
end Mine
end
noncomputable section
-- PL4
open PySem PySem.W PyProof.Rows
set_option maxRecDepth 100000
set_option maxHeartbeats 0
namespace Mine
open PySem.Calls PyProof.V PySem.Spec Builtin
noncomputable def tb0 : List (Nat × List Nat) := [(102, [102]), (70, [102]), (119813, [102]), (105, [105]), (73, [105]), (119816, [105]), (108, [108]), (76, [108]), (119819, [108])]
noncomputable def tb1 : List (Nat × List Nat) := [(64257, [102, 105]), (64258, [102, 108]), (115, [115]), (83, [115]), (119826, [115]), (116, [116]), (84, [116]), (119827, [116]), (118, [118])]
noncomputable def tb2 : List (Nat × List Nat) := [(86, [118]), (119829, [118]), (109, [109]), (77, [109]), (119820, [109]), (64262, [115, 116]), (13276, [115, 118]), (8480, [115, 109]), (97, [97])]
noncomputable def tb3 : List (Nat × List Nat) := [(65, [97]), (119808, [97]), (98, [98]), (66, [98]), (119809, [98]), (13187, [109, 97]), (13190, [109, 98]), (13239, [109, 118]), (107, [107])]
noncomputable def tb4 : List (Nat × List Nat) := [(75, [107]), (119818, [107]), (13188, [107, 97]), (13189, [107, 98]), (13240, [107, 118]), (110, [110]), (78, [110]), (119821, [110]), (13185, [110, 97])]
noncomputable def tb5 : List (Nat × List Nat) := [(13195, [110, 102]), (13237, [110, 118]), (112, [112]), (80, [112]), (119823, [112]), (13184, [112, 97]), (13194, [112, 102]), (13236, [112, 118])]
noncomputable def tbU : List Nat := [173, 8203, 8288, 65024]
noncomputable def tbA : List (Nat × List Nat) := tb0 ++ tb1 ++ tb2 ++ tb3 ++ tb4 ++ tb5
noncomputable def inT (p : Nat × List Nat) : Bool := !isB1 ⟨#[p.1]⟩ && decide (mapB3 ⟨#[p.1]⟩ = ⟨p.2.toArray⟩)
theorem tb0_ok : tb0.all inT = true := by decide +kernel
theorem tb1_ok : tb1.all inT = true := by decide +kernel
theorem tb2_ok : tb2.all inT = true := by decide +kernel
theorem tb3_ok : tb3.all inT = true := by decide +kernel
theorem tb4_ok : tb4.all inT = true := by decide +kernel
theorem tb5_ok : tb5.all inT = true := by decide +kernel
theorem tbU_ok : (tbU.all fun c => isB1 ⟨#[c]⟩) = true := by decide +kernel
theorem tbA_ok : tbA.all inT = true := by
  unfold tbA
  simp only [List.all_append, tb0_ok, tb1_ok, tb2_ok, tb3_ok, tb4_ok, tb5_ok, Bool.and_self]
noncomputable def fT : List Nat → Option (List (List Nat))
  | [] => some []
  | c :: r => match tbA.lookup c with
    | some x => (fT r).map (x :: ·)
    | none => if tbU.contains c then fT r else none
theorem lookup_mem : ∀ {l : List (Nat × List Nat)} {c : Nat} {x : List Nat}, l.lookup c = some x → (c, x) ∈ l
  | [], _, _, e => by cases e
  | (b, y) :: r, c, x, e => by
    rw [List.lookup_cons] at e
    cases hb : c == b with
    | true => rw [hb] at e; cases e; rw [eq_of_beq hb]; exact .head _
    | false => rw [hb] at e; exact .tail _ (lookup_mem e)
theorem fT_fold : ∀ {l : List Nat} {L : List (List Nat)}, fT l = some L → foldB l = L.map fun x => (⟨x.toArray⟩ : Str)
  | [], L, h => by cases h; rfl
  | c :: r, L, h => by
    unfold fT at h
    split at h
    · rename_i x hx
      have := List.all_eq_true.mp tbA_ok (c, x) (lookup_mem hx)
      simp only [inT, Bool.and_eq_true, decide_eq_true_eq] at this
      cases hr : fT r with
      | none => rw [hr] at h; cases h
      | some L' =>
        rw [hr] at h
        cases h
        unfold foldB
        rw [List.filter_cons_of_pos (p := fun c => !isB1 ⟨#[c]⟩) this.1, List.map_cons, List.map_cons, this.2]
        exact congrArg _ (fT_fold hr)
    · split at h
      · rename_i hu
        have hb : isB1 ⟨#[c]⟩ = true := List.all_eq_true.mp tbU_ok c (List.contains_iff_mem.mp hu)
        unfold foldB
        rw [List.filter_cons_of_neg (p := fun c => !isB1 ⟨#[c]⟩) (by rw [hb]; decide)]
        exact fT_fold h
      · cases h
noncomputable def spGen (a d : Str) (rank most q : Int) (u : Str) : Str := if q = 0 ∧ rank + 1 < most then u ++ Txt.item d rank else if q = 1 then Txt.upper (wordF a rank most) ++ u else if q = 2 then Txt.join u (mathL (wordF a rank most)) else u ++ Txt.slice (wordF a rank most) none (some 1) ++ u ++ Txt.upper (Txt.slice (wordF a rank most) (some 1) none)
theorem spGen_eq (a d : Str) (rank most x : Int) : spelledF a d rank most x = spGen a d rank most (x.fmod 4) (unseenF x) := rfl
noncomputable def US : List Str := [Str.ofString "", ⟨#[173]⟩, ⟨#[8203]⟩, ⟨#[8288]⟩, ⟨#[65024]⟩]
theorem us_eq : [Str.ofString "", Str.ofString "\u00ad", Str.ofString "\u200b", Str.ofString "\u2060", Str.ofString "\ufe00"] = US := by decide +kernel
theorem unseen_mem (x : Int) : unseenF x ∈ US := by
  have e : unseenF x = pickS US ((x.fdiv 4).fmod 5) := by
    rw [← us_eq]
    rfl
  rw [e]
  have h0 := Int.fmod_nonneg_of_pos (x.fdiv 4) (b := 5) (by decide)
  have h1 := Int.fmod_lt_of_pos (x.fdiv 4) (b := 5) (by decide)
  generalize (x.fdiv 4).fmod 5 = y at *
  have : y = 0 ∨ y = 1 ∨ y = 2 ∨ y = 3 ∨ y = 4 := by omega
  rcases this with rfl | rfl | rfl | rfl | rfl <;> simp [pickS, US]
noncomputable def oxS (a d : Str) (r m q : Int) (u : Str) (W : List Nat) : Bool := match fT (spGen a d r m q u).cps.toList with
  | none => false
  | some L => decide ((spGen a d r m q u).cps.size ≤ 1000) && (decide ((L.map (·.length)).sum + L.length * 64 ≤ 16777216) && (L.flatten.all (· < 128) && decide (L.flatten = W)))
theorem join_flat : ∀ (L : List (List Nat)), (Txt.join (Str.ofString "") (L.map fun x => (⟨x.toArray⟩ : Str))).cps.toList = L.flatten := by
  have go : ∀ (L : List (List Nat)) (acc : Array Nat), ((L.map fun x => (⟨x.toArray⟩ : Str)).foldl (fun acc p => acc ++ (Str.ofString "").cps ++ p.cps) acc).toList = acc.toList ++ L.flatten := by
    intro L
    induction L with
    | nil => intro acc; simp
    | cons x r ih =>
      intro acc
      show ((r.map fun x => (⟨x.toArray⟩ : Str)).foldl (fun acc p => acc ++ (Str.ofString "").cps ++ p.cps) (acc ++ (Str.ofString "").cps ++ x.toArray)).toList = _
      rw [ih, ofs_nil]
      simp
  intro L
  cases L with
  | nil => rfl
  | cons x r =>
    show ((r.map fun x => (⟨x.toArray⟩ : Str)).foldl (fun acc p => acc ++ (Str.ofString "").cps ++ p.cps) x.toArray).toList = _
    rw [go]
    simp
theorem ox_of {a d : Str} {r m x : Int} {W : List Nat} {le : Str} (hf : Txt.find a le = r) (hW : wordC a m le = W) (hp : spelledPre a d r m x) (h : oxS a d r m (x.fmod 4) (unseenF x) W = true) : OkX a d m le x := by
  unfold oxS at h
  rw [← spGen_eq] at h
  split at h
  · cases h
  · rename_i L hL
    simp only [Bool.and_eq_true, decide_eq_true_eq] at h
    obtain ⟨h1, h2, h3, h4⟩ := h
    have e := fT_fold hL
    have j := join_flat L
    subst hf
    refine ⟨hp, h1, ?_, ?_, ?_⟩
    · rw [e, List.map_map, List.length_map]
      exact h2
    · rw [e, ← Array.all_toList, j]
      exact h3
    · rw [e, j, h4, hW]
theorem nil_ok : True := trivial
structure LF (k : Int) (m r : Nat) : Prop where
  lk : LOK (lettersF k) m r
  ok : PyData.strOk (Txt.item (lettersF k) (r : Int)) = true
  a3 : 3 ≤ (lettersF k).length
  a4 : (lettersF k).length ≤ 4
  ra : (r : Int) < (lettersF k).length
  ma : (m : Int) ≤ (lettersF k).length
  md : (m : Int) ≤ (doublesF k).length + 1
  c9 : (Txt.item (lettersF k) 0 ++ Txt.item (lettersF k) ((r : Int) + 1)).length ≤ 9
  b9 : (Txt.item (doublesF k) (r : Int)).length ≤ 9
  b10 : (Txt.upper (Txt.item (lettersF k) 0)).length ≤ 99
  b11 : (Txt.slice (Txt.item (lettersF k) 0) none (some 1)).length ≤ 9
  b12 : (Txt.upper (Txt.slice (Txt.item (lettersF k) 0) (some 1) none)).length ≤ 99
  b13 : (Txt.item (lettersF k) 0).cps.size ≤ 1000
  b14 : (Txt.item (lettersF k) 0).cps.toList.all (· < 1000) = true
  b15 : ((mathL (Txt.item (lettersF k) 0)).map (·.length)).sum + (mathL (Txt.item (lettersF k) 0)).length * 64 ≤ 16777216
  b16 : (Txt.upper (Txt.item (lettersF k) 0 ++ Txt.item (lettersF k) ((r : Int) + 1))).length ≤ 99
  b17 : (Txt.slice (Txt.item (lettersF k) 0 ++ Txt.item (lettersF k) ((r : Int) + 1)) none (some 1)).length ≤ 9
  b18 : (Txt.upper (Txt.slice (Txt.item (lettersF k) 0 ++ Txt.item (lettersF k) ((r : Int) + 1)) (some 1) none)).length ≤ 99
  b19 : (Txt.item (lettersF k) 0 ++ Txt.item (lettersF k) ((r : Int) + 1)).cps.size ≤ 1000
  b20 : (Txt.item (lettersF k) 0 ++ Txt.item (lettersF k) ((r : Int) + 1)).cps.toList.all (· < 1000) = true
  b21 : ((mathL (Txt.item (lettersF k) 0 ++ Txt.item (lettersF k) ((r : Int) + 1))).map (·.length)).sum + (mathL (Txt.item (lettersF k) 0 ++ Txt.item (lettersF k) ((r : Int) + 1))).length * 64 ≤ 16777216
  ox : (([0, 1, 2, 3] : List Int).all fun q => US.all fun u => oxS (lettersF k) (doublesF k) (r : Int) (m : Int) q u (if r + 1 < m then [cpA (lettersF k) 0, cpA (lettersF k) (r + 1)] else [cpA (lettersF k) 0])) = true
noncomputable def lfS (k : Int) (m r : Nat) : Bool := lokS (lettersF k) m r && ((PyData.strOk (Txt.item (lettersF k) (r : Int))) && (decide (3 ≤ (lettersF k).length) && (decide ((lettersF k).length ≤ 4) && (decide ((r : Int) < (lettersF k).length) && (decide ((m : Int) ≤ (lettersF k).length) && (decide ((m : Int) ≤ (doublesF k).length + 1) && (decide ((Txt.item (lettersF k) 0 ++ Txt.item (lettersF k) ((r : Int) + 1)).length ≤ 9) && (decide ((Txt.item (doublesF k) (r : Int)).length ≤ 9) && (decide ((Txt.upper (Txt.item (lettersF k) 0)).length ≤ 99) && (decide ((Txt.slice (Txt.item (lettersF k) 0) none (some 1)).length ≤ 9) && (decide ((Txt.upper (Txt.slice (Txt.item (lettersF k) 0) (some 1) none)).length ≤ 99) && (decide ((Txt.item (lettersF k) 0).cps.size ≤ 1000) && (((Txt.item (lettersF k) 0).cps.toList.all (· < 1000)) && (decide (((mathL (Txt.item (lettersF k) 0)).map (·.length)).sum + (mathL (Txt.item (lettersF k) 0)).length * 64 ≤ 16777216) && (decide ((Txt.upper (Txt.item (lettersF k) 0 ++ Txt.item (lettersF k) ((r : Int) + 1))).length ≤ 99) && (decide ((Txt.slice (Txt.item (lettersF k) 0 ++ Txt.item (lettersF k) ((r : Int) + 1)) none (some 1)).length ≤ 9) && (decide ((Txt.upper (Txt.slice (Txt.item (lettersF k) 0 ++ Txt.item (lettersF k) ((r : Int) + 1)) (some 1) none)).length ≤ 99) && (decide ((Txt.item (lettersF k) 0 ++ Txt.item (lettersF k) ((r : Int) + 1)).cps.size ≤ 1000) && (((Txt.item (lettersF k) 0 ++ Txt.item (lettersF k) ((r : Int) + 1)).cps.toList.all (· < 1000)) && (decide (((mathL (Txt.item (lettersF k) 0 ++ Txt.item (lettersF k) ((r : Int) + 1))).map (·.length)).sum + (mathL (Txt.item (lettersF k) 0 ++ Txt.item (lettersF k) ((r : Int) + 1))).length * 64 ≤ 16777216) && (((([0, 1, 2, 3] : List Int).all fun q => US.all fun u => oxS (lettersF k) (doublesF k) (r : Int) (m : Int) q u (if r + 1 < m then [cpA (lettersF k) 0, cpA (lettersF k) (r + 1)] else [cpA (lettersF k) 0]))))))))))))))))))))))))
theorem lf_of {k : Int} {m r : Nat} (h : lfS k m r = true) : LF k m r := by
  unfold lfS at h
  rw [Bool.and_eq_true] at h
  have h0 := lok_of h.1
  obtain ⟨_, h⟩ := h
  simp only [Bool.and_eq_true, decide_eq_true_eq] at h
  obtain ⟨x1, x2, x3, x4, x5, x6, x7, x8, x9, x10, x11, x12, x13, x14, x15, x16, x17, x18, x19, x20, x21⟩ := h
  exact ⟨h0, x1, x2, x3, x4, x5, x6, x7, x8, x9, x10, x11, x12, x13, x14, x15, x16, x17, x18, x19, x20, x21⟩
theorem lf0 : ((List.range (if (0 : Nat) = 0 then 2 else 3)).all fun m => (List.range (m + 2)).all fun r => lfS 0 (m + 2) r) = true := by decide +kernel
theorem lf1 : ((List.range (if (1 : Nat) = 0 then 2 else 3)).all fun m => (List.range (m + 2)).all fun r => lfS 1 (m + 2) r) = true := by decide +kernel
theorem lf2 : ((List.range (if (2 : Nat) = 0 then 2 else 3)).all fun m => (List.range (m + 2)).all fun r => lfS 2 (m + 2) r) = true := by decide +kernel
theorem lf3 : ((List.range (if (3 : Nat) = 0 then 2 else 3)).all fun m => (List.range (m + 2)).all fun r => lfS 3 (m + 2) r) = true := by decide +kernel
theorem lf4 : ((List.range (if (4 : Nat) = 0 then 2 else 3)).all fun m => (List.range (m + 2)).all fun r => lfS 4 (m + 2) r) = true := by decide +kernel
theorem lf5 : ((List.range (if (5 : Nat) = 0 then 2 else 3)).all fun m => (List.range (m + 2)).all fun r => lfS 5 (m + 2) r) = true := by decide +kernel
theorem lf {k : Int} {m r : Nat} (h0 : 0 ≤ k) (h1 : k < 6) (h2 : 2 ≤ m) (h3 : m ≤ (lettersF k).length) (h4 : r < m) : LF k m r := by
  obtain ⟨m, rfl⟩ : ∃ n, m = n + 2 := ⟨m - 2, by omega⟩
  have hr := List.mem_range.mpr h4
  have : k = 0 ∨ k = 1 ∨ k = 2 ∨ k = 3 ∨ k = 4 ∨ k = 5 := by omega
  rcases this with rfl | rfl | rfl | rfl | rfl | rfl
  · rw [show (lettersF 0).length = 3 by decide +kernel] at h3
    exact lf_of (List.all_eq_true.mp (List.all_eq_true.mp lf0 m (List.mem_range.mpr (by show m < 2; omega))) r hr)
  · rw [show (lettersF 1).length = 4 by decide +kernel] at h3
    exact lf_of (List.all_eq_true.mp (List.all_eq_true.mp lf1 m (List.mem_range.mpr (by show m < 3; omega))) r hr)
  · rw [show (lettersF 2).length = 4 by decide +kernel] at h3
    exact lf_of (List.all_eq_true.mp (List.all_eq_true.mp lf2 m (List.mem_range.mpr (by show m < 3; omega))) r hr)
  · rw [show (lettersF 3).length = 4 by decide +kernel] at h3
    exact lf_of (List.all_eq_true.mp (List.all_eq_true.mp lf3 m (List.mem_range.mpr (by show m < 3; omega))) r hr)
  · rw [show (lettersF 4).length = 4 by decide +kernel] at h3
    exact lf_of (List.all_eq_true.mp (List.all_eq_true.mp lf4 m (List.mem_range.mpr (by show m < 3; omega))) r hr)
  · rw [show (lettersF 5).length = 4 by decide +kernel] at h3
    exact lf_of (List.all_eq_true.mp (List.all_eq_true.mp lf5 m (List.mem_range.mpr (by show m < 3; omega))) r hr)
end Mine
end
noncomputable section
-- PL5
open PySem PySem.W PyProof.Rows
set_option maxRecDepth 100000
set_option maxHeartbeats 0
namespace Mine
open PySem.Calls PyProof.V PySem.Spec Builtin
theorem sign_mem (y : Int) (h0 : 0 ≤ y) (h1 : y < 7) : ∃ c ∈ CS, Txt.item (Str.ofString "&<>\"\t\n\x0d") y = ⟨#[c]⟩ := by
  have : y = 0 ∨ y = 1 ∨ y = 2 ∨ y = 3 ∨ y = 4 ∨ y = 5 ∨ y = 6 := by omega
  rcases this with rfl | rfl | rfl | rfl | rfl | rfl | rfl
  · exact ⟨38, by decide, by decide +kernel⟩
  · exact ⟨60, by decide, by decide +kernel⟩
  · exact ⟨62, by decide, by decide +kernel⟩
  · exact ⟨34, by decide, by decide +kernel⟩
  · exact ⟨9, by decide, by decide +kernel⟩
  · exact ⟨10, by decide, by decide +kernel⟩
  · exact ⟨13, by decide, by decide +kernel⟩
theorem sign_is {c : Nat} (h : c ∈ CS) : Sign ⟨#[c]⟩ := by
  unfold Sign
  have : c = 38 ∨ c = 60 ∨ c = 62 ∨ c = 34 ∨ c = 9 ∨ c = 10 ∨ c = 13 := by simpa [CS] using h
  rcases this with rfl | rfl | rfl | rfl | rfl | rfl | rfl
  · exact .inl c38.symm
  · exact .inr (.inl c60.symm)
  · exact .inr (.inr (.inl c62.symm))
  · exact .inr (.inr (.inr (.inl c34.symm)))
  · exact .inr (.inr (.inr (.inr (.inl c9.symm))))
  · exact .inr (.inr (.inr (.inr (.inr (.inl c10.symm)))))
  · exact .inr (.inr (.inr (.inr (.inr (.inr c13.symm)))))
theorem arr_all {a : Array Nat} (h : a.toList.all (· < 1000) = true) : ∀ c ∈ a, c < 1000 := fun c hc => by
  have := List.all_eq_true.mp h c (Array.mem_toList_iff.mpr hc)
  simpa using this
theorem LF.pre {k : Int} {m r : Nat} (L : LF k m r) (hm : 2 ≤ m) (hr : r < m) {x : Int} (hx : 0 ≤ x) : spelledPre (lettersF k) (doublesF k) (r : Int) (m : Int) x :=
  ⟨L.a4, by omega, L.ra, L.ma, by omega, L.md, by omega, hx, ⟨L.c9, by
    have := unseen_mem x
    have h := (by decide +kernel : ∀ u ∈ US, u.length ≤ 9) _ this
    exact h, L.b9, L.b10, L.b11, L.b12, L.b13, arr_all L.b14, L.b15, L.b16, L.b17, L.b18, L.b19, arr_all L.b20, L.b21⟩⟩
theorem LF.okx {k : Int} {m r : Nat} (L : LF k m r) (hm : 2 ≤ m) (hr : r < m) {x : Int} (hx : 0 ≤ x) : OkX (lettersF k) (doublesF k) (m : Int) (Txt.item (lettersF k) (r : Int)) x := by
  refine ox_of L.lk.fd L.lk.wd (L.pre hm hr hx) ?_
  have hq : x.fmod 4 ∈ ([0, 1, 2, 3] : List Int) := by
    have h0 := Int.fmod_nonneg_of_pos x (b := 4) (by decide)
    have h1 := Int.fmod_lt_of_pos x (b := 4) (by decide)
    generalize x.fmod 4 = y at *
    have : y = 0 ∨ y = 1 ∨ y = 2 ∨ y = 3 := by omega
    rcases this with rfl | rfl | rfl | rfl <;> simp
  exact List.all_eq_true.mp (List.all_eq_true.mp L.ox _ hq) _ (unseen_mem x)
theorem pf_of {k : Int} {m t c : Nat} {i j : Int} (k0 : 0 ≤ k) (k1 : k < 6) (m0 : 2 ≤ m) (m1 : m ≤ (lettersF k).length) (t0 : 7 ≤ t) (t1 : t ≤ 10) (hc : c ∈ CS) (i0 : 0 ≤ i) (i1 : i < 5) (j0 : 0 ≤ j) (j1 : j < 5) :
    PF (lettersF k) (doublesF k) ⟨#[c]⟩ (m : Int) i j (t : Int) (cntM m t) := by
  have L0 := lf (r := 0) k0 k1 m0 m1 (by omega)
  have ha4 := L0.a4
  have M := mt m0 (by omega) t0 t1
  have hi := mem_KS i0 i1
  have hj := mem_KS j0 j1
  have hdue := dueL_map (lettersF k) c i j m (cntM m t)
  have hlt : ∀ D ∈ finS m (cntM m t), ∃ r : Nat, r < m ∧ rkI D = (r : Int) := fun D hD => by
    obtain ⟨_, _, h0, h1⟩ := M.pk D hD
    exact ⟨(rkI D).toNat, by omega, by omega⟩
  have hfin : ∀ n : Nat, n < cntM m t → digitsF (1 + (n : Int)) (weightsF (m : Int)) ∈ finS m (cntM m t) := fun n hn => List.mem_map.mpr ⟨n, List.mem_range.mpr hn, rfl⟩
  have e1 : pcS (lettersF k) c i j (Str.ofString "1") = (escF j ⟨#[c]⟩, Txt.item (lettersF k) 1) := by
    have w : writeF (Str.ofString "1") ⟨#[c]⟩ i j = WF 1 0 c i j := by
      rw [writeF_eq, show (Str.ofString "1").length = 1 by decide +kernel, show (Txt.lstripChars (Str.ofString "1") (Str.ofString "1")).length = 0 by decide +kernel]
    have e : WF 1 0 c i j = escF j ⟨#[c]⟩ := by
      unfold WF
      split
      · rename_i a
        rw [(base_in hc hj a).1]
        split
        · rfl
        · exact lay_zero _ _
      · rename_i a
        exact (base_out hc hj a).1.symm
    unfold pcS
    rw [w, e]
    exact congrArg _ (congrArg (Txt.item _) (by decide +kernel : rkI (Str.ofString "1") = 1))
  refine ⟨L0.a3, L0.a4, i0, i1, j0, j1, base_fit hc hj, by omega, by omega, by omega, M.dl, fun tb => M.ah, fun tb => ?_, fun tb => ?_, by have := M.c1; omega, M.c2, ?_, fun n hn => ?_, fun q hq => ?_⟩
  · rw [ah_tok]; exact fits9 M.cl M.cs
  · rw [ah_tok]; exact M.cn
  · have := run_of (a := lettersF k) (d := doublesF k) (turns := t) (fin := finS m (cntM m t)) hc hi hj (fun r hr => (lf k0 k1 m0 m1 hr).lk) (fun r hr x hx => (lf k0 k1 m0 m1 hr).okx m0 hr hx) (Fi := FiF ⟨#[c]⟩ (lettersF k) i j m t (cntM m t)) ?_ t [Str.ofString "1"] [] M.ch
    · rw [Int.toNat_natCast]
      rw [List.map_cons, e1] at this
      exact this
    · unfold FiF
      rw [hdue, Int.toNat_natCast, List.map_take, List.map_drop]
      exact ⟨rfl, rfl⟩
  · obtain ⟨h1, h2, h3, h4⟩ := M.pk _ (hfin n hn)
    have := L0.ma
    exact ⟨sign_is hc, rfl, Nat.le_trans h1 (by decide), L0.a4, i0, i1, j0, j1, h3, Int.lt_of_lt_of_le h4 L0.ma, Nat.le_trans h2 (by decide)⟩
  · rw [hdue] at hq
    obtain ⟨D, hD, rfl⟩ := List.mem_map.mp hq
    obtain ⟨h1, h2, _, _⟩ := M.pk D hD
    obtain ⟨r, hr, er⟩ := hlt D hD
    have w := wf_size (c := c) (i := i) (j := j) hc h1 h2
    have Lr := lf k0 k1 m0 m1 hr
    have e : letterF (lettersF k) D = Txt.item (lettersF k) (r : Int) := congrArg (Txt.item _) er
    refine ⟨w.1, ?_, w.2, ?_⟩
    · show (letterF (lettersF k) D).length ≤ 100
      rw [e]; exact Nat.le_trans Lr.lk.ln (by decide)
    · show PyData.strOk (letterF (lettersF k) D) = true
      rw [e]; exact Lr.ok
theorem plain9 (code : Int) (h0 : 0 ≤ code) (h1 : code ≤ 100000000) : ∃ count, PF (lettersF (code.fmod 6)) (doublesF (code.fmod 6)) (signF code) (mostF (lettersF (code.fmod 6)).length code) ((code.fdiv 252).fmod 5) ((code.fdiv 1260).fmod 5) (turnsF code) count := by
  have k0 := Int.fmod_nonneg_of_pos code (b := 6) (by decide)
  have k1 := Int.fmod_lt_of_pos code (b := 6) (by decide)
  generalize code.fmod 6 = k at *
  have L0 := (lf (k := k) (m := 2) (r := 0) k0 k1 (by decide) (by
    have : k = 0 ∨ k = 1 ∨ k = 2 ∨ k = 3 ∨ k = 4 ∨ k = 5 := by omega
    rcases this with rfl | rfl | rfl | rfl | rfl | rfl <;> decide +kernel) (by decide))
  have ha3 := L0.a3
  obtain ⟨c, hc, hs⟩ := sign_mem ((code.fdiv 36).fmod 7) (Int.fmod_nonneg_of_pos _ (by decide)) (Int.fmod_lt_of_pos _ (by decide))
  have hs : signF code = ⟨#[c]⟩ := hs
  have m0 := Int.fmod_nonneg_of_pos (code.fdiv 6) (b := ((lettersF k).length : Int) - 1) (by omega)
  have m1 := Int.fmod_lt_of_pos (code.fdiv 6) (b := ((lettersF k).length : Int) - 1) (by omega)
  have t0 := Int.fmod_nonneg_of_pos (code.fdiv 6300) (b := 4) (by decide)
  have t1 := Int.fmod_lt_of_pos (code.fdiv 6300) (b := 4) (by decide)
  have hm : mostF (lettersF k).length code = ((2 + ((code.fdiv 6).fmod (((lettersF k).length : Int) - 1)).toNat : Nat) : Int) := by
    unfold mostF
    omega
  have ht : turnsF code = ((7 + ((code.fdiv 6300).fmod 4).toNat : Nat) : Int) := by
    unfold turnsF
    omega
  rw [hs, hm, ht]
  exact ⟨_, pf_of k0 k1 (by omega) (by omega) (by omega) (by omega) hc (Int.fmod_nonneg_of_pos _ (by decide)) (Int.fmod_lt_of_pos _ (by decide)) (Int.fmod_nonneg_of_pos _ (by decide)) (Int.fmod_lt_of_pos _ (by decide))⟩
end Mine
end
noncomputable section
-- LSD
open PySem PySem.W PyProof.Rows
set_option maxRecDepth 100000
namespace Mine
set_option maxHeartbeats 0
theorem said_xo : OpenLaw.wellSaid PySem.Challenge.rw_xo0036_01 = true := by
  unfold OpenLaw.wellSaid OpenRow.wellSaid OpenRow.partSaid looksOpen
  repeat' (with_reducible refine look_both ?_ ?_)
  all_goals try rw [Fast.te17119622794617984870]
  all_goals try rw [Fast.te11788848310118352699]
  all_goals try rw [Fast.te16286561074155671207]
  all_goals try rw [Fast.te14412699480532031325]
  all_goals try rw [Fast.te18344453789297297638]
  all_goals try rw [Fast.te6984425678791042302]
  all_goals try rw [Fast.te17868728402115742887]
  all_goals try rw [Fast.te8179353310426384613]
  all_goals try rw [Fast.te9558739934217749035]
  all_goals try rw [Fast.te13582783067957832011]
  all_goals try rw [Fast.te8377067652309620493]
  all_goals try rw [Fast.te10792542408131684335]
  all_goals try rw [Fast.te8326940854005059898]
  all_goals decide +kernel
end Mine
end
noncomputable section
-- LTP
open PySem PySem.W PyProof.Rows
set_option maxRecDepth 100000
namespace Mine
theorem kn_postG {M : Model} {A : Around} {cd : Code} {s s₁ : Shared} {cw : ClaimW} {cl : Str → Option Addr} {mean : ExcName → Option Value} {args : List WData} {tabs : List (Addr × Addr)} (hT : TabsAt tabs s₁.heap) (hr : ∀ a x, cw.raises a x = false)
    (hp : cw.post args (.bool true) args = true)
    (h : codeAny M A cd (fun r s' => (r = .ok (.ret (.bool true)) ∧ (∀ b o, (ghostOf s₁.heap tabs).get? b = some o → s'.heap.get? b = some o) ∧ s'.os = s₁.os ∧ AllBare s'.gens) ∧ GrownAll tabs s'.heap) s) : codeAny M A cd (GoodWG cw cl mean args s₁) s :=
  codeAny_mono h fun r s' ⟨⟨hc, hk, hos, hg⟩, hgr⟩ => by
    have keep : ∀ b o, b ∉ tabs.map (·.2) → s₁.heap.get? b = some o → s'.heap.get? b = some o := fun b o hb e => hk b o (ghost_ne e hb)
    have grown : ∀ b o, b ∈ tabs.map (·.2) → s₁.heap.get? b = some o → isCodeTable s₁.heap b ∧ o = tabObj #[] ∧ ∃ ps, s'.heap.get? b = some (tabObj ps) := fun b o hb e => by
      obtain ⟨q, hq, rfl⟩ := List.mem_map.mp hb
      have e2 := (hT q hq).2
      rw [e] at e2
      exact ⟨((hT q hq).1.tab (hT q hq).2).isCodeTable, Option.some.inj e2, hgr.get q hq⟩
    refine ⟨.inl ⟨.bool true, .bool true, [], hc, fun x => hr _ x, .bool true, hp, fun _ => ⟨List.nodup_nil, fun a ha => nomatch ha⟩⟩, ⟨fun b o e => ?_, fun b o e => ?_⟩, hos, hg⟩
    · by_cases hb : b ∈ tabs.map (·.2)
      · obtain ⟨ht, rfl, ps, hP⟩ := grown b o hb e
        exact .inr (.inl ⟨ht, rfl, #[], ps, rfl, by rw [Array.empty_append]; exact hP⟩)
      · exact .inl (keep b o hb e)
    · by_cases hb : b ∈ tabs.map (·.2)
      · obtain ⟨_, _, ps, hP⟩ := grown b o hb e
        exact ⟨_, hP⟩
      · exact ⟨o, keep b o hb e⟩
set_option maxHeartbeats 0 in
theorem top_xo : PySem.Challenge.rw_xo0036_01.Holds := by
  w_on
  refine holds_law said_xo fun said => ?_
  refine holds_open (q := qV) (loose := looseV) (Xt := XtV) (XP := XL qV []) (Yf := HK.obs) (Ya := HK.val) (YP := HK.says) (N := NN) h_left HK.of HK.keeps (fun s e => xl_of s (Bool.and_eq_true_iff.mp e).1) XL.keeps (by rfl) (by rfl) (by rfl) (fun s e => recFacts_of (Bool.and_eq_true_iff.mp e).2) (by rfl) (by first | assumption | decide +kernel) (by decide +kernel) ⟨rfl, rfl, rfl, rfl, rfl, by decide +kernel⟩ ?hw ?hc
  case hw => w_witness2
  case hc =>
    k_fill
    intro w s₀ s₁ mg mb G Y fa o pm cd doc dV kV ho hd hcd hD hmg hg args vals as hpre hlay hrd hwl hlo
    have KX := km_in_of Y
    km_tabs Y
    have X := (Ground.X G).1
    have V := (Ground.X G).2
    refine Ground.open G ?_
    intro T B D TE TW
    try (refine guard_noD D (by decide +kernel) ?_; clear D)
    have hT9 : TabsAt [(66, 62), (73, 69)] s₁.heap := List.forall_mem_cons.mpr ⟨⟨codeHd_of_K (c := 66) (P := 62) KX (by kernel_rfl), hT8 62 (by k_mem)⟩, List.forall_mem_cons.mpr ⟨⟨codeHd_of_K (c := 73) (P := 69) KX (by kernel_rfl), hT8 69 (by k_mem)⟩, fun _ h => nomatch h⟩⟩
    clear hmg
    wrow_args hpre hlay hrd hwl hlo

    first | refine callC_kw (enter_call ?_) | refine enter_call ?_
    w_top on

    refine kn_postG hT9 (fun _ _ => rfl) (by wrow_post) ?_
    w_call any ho hd hcd hD T F
    clear hd
    kn_ghosts F T
    k_drop

    refine law_body (by assumption) (by assumption) (by assumption) (by assumption) ?zh1 ?zh2 ?zh3 (by assumption) (by assumption) (by assumption) ?zh4 ?zh5 ?zh6 ?zh7 ?zh8 ?zh9 ?zha ?zhb ?zhc (code_in _).1 (code_in _).2 (nums_len _).1 (nums_len _).2 (nums_nn _) (Exists.choose_spec (plain9 (codeF _) (code_in _).1 (code_in _).2)) ?zhi
    case zh1 => exact .of_eq hg
    case zh2 => passes_own
    case zh3 => first | rfl | kernel_rfl
    case zh4 => omega
    case zh5 => have := (by assumption : @LT.lt Nat _ 62 s₁.heap.objs.size ∧ @LT.lt Nat _ 69 s₁.heap.objs.size); exact this.1
    case zh6 => have := (by assumption : @LT.lt Nat _ 62 s₁.heap.objs.size ∧ @LT.lt Nat _ 69 s₁.heap.objs.size); exact this.2
    iterate 6 (first | (case zh7 => assumption) | (case zh8 => assumption) | (case zh9 => assumption) | (case zha => assumption) | (case zhb => assumption) | (case zhc => assumption))
    case zhi =>
      intro h' tk' gs' m' news' ps1 ps2 F9 N9 hm1 hm2 G9
      exact ⟨⟨rfl, F9.keep, rfl, G9⟩, GrownAt.of N9 hm1, GrownAt.of N9 hm2, trivial⟩
end Mine
end
theorem PySem.Challenge.cw_xo0036_01_holds : PySem.Challenge.rw_xo0036_01.Holds :=
  Mine.top_xo
