import PyProof.Rows.All
import Wide.All
import OpenK.AllK
import Wide.FinOn
import PySem.Challenge.RW_re0144_01
set_option Elab.async false
set_option rowWalk.seconds 0
set_option maxRecDepth 100000
set_option linter.all false
set_option compiler.extract_closed false
section
open PySem PySem.W PyProof.Rows
namespace Mine
theorem join_tick_Hd0_0 : True := by
  w_top off
  first | walk1 | exact trivial
section
noncomputable section
noncomputable abbrev p0 : Program := PySem.Challenge.pw_re0144_01
noncomputable def lifeE : Life := {}
noncomputable def S (l : List Nat) : Str := ⟨l.toArray⟩
noncomputable def S0 : Str := ⟨#[]⟩
noncomputable abbrev kh (P : Params) (s : Str) : Int := PyData.keyHash P s
noncomputable def stm (i : Nat) : Stmt := (p0.main.body[i]?).getD (.Pass ⟨0, 0, 0, 0⟩)
noncomputable def mth (i : Nat) : Stmt := match stm 1 with
  | .ClassDef _ _ _ b _ _ _ _ _ _ _ => (b[i]?).getD (.Pass ⟨0, 0, 0, 0⟩)
  | x => x
noncomputable def fnD (st : Stmt) (name qual : Str) (globals : Addr) (clos : List (Str × Addr)) (dfl kw doc pm : Value) (ann : Option Addr) (code ct : Value) (blt : Addr) : FuncData := match st with
  | .FunctionDef _ args body _ _ _ sc _ _ _ => ⟨name, qual, args, .stmts body, sc, globals, clos, dfl, kw, doc, pm, ann, code, ct, blt⟩
  | _ => default
noncomputable def env0 : Env := { scope := p0.main.scope, locals := mainNs, globals := mainNs, cells := [], code := .ref 13, frame := some 14 }
noncomputable def code0 : Code := .body (behindTheImports p0) env0
noncomputable def B0 : List Frame := [topFrame ⟨0, 0, 0, 0⟩]
noncomputable def ann0 : Option Value := some (.ref 6)
noncomputable abbrev KV := Int × Str
noncomputable abbrev ent (k : Int) (t : Tok) (v : Value) : DictEntry := ⟨hashInt k, .int k t, v⟩
noncomputable def ents : Nat → List KV → List DictEntry
  | _, [] => []
  | tk, x :: r => ent x.1 tk (.str x.2 (tk + 1)) :: ents (tk + 3) r
noncomputable def ents2 : Nat → List KV → List DictEntry
  | _, [] => []
  | tk, x :: r => ent x.1 tk (.str x.2 (tk + 1)) :: ents2 (tk + 2) r
noncomputable def entsAll : Nat → List (List KV) → List DictEntry
  | _, [] => []
  | tk, c :: r => ents tk c ++ entsAll (tk + 51) r
noncomputable def subsAll : Nat → List (List KV) → List Obj
  | _, [] => []
  | tk, c :: r => dictOf (ents tk c) 17 :: subsAll (tk + 51) r
noncomputable def dKeys : Stmt → List (Option PySem.Expr)
  | .Assign _ (.Dict ks _ _) _ => ks
  | _ => []
noncomputable def dVals : Stmt → List PySem.Expr
  | .Assign _ (.Dict _ vs _) _ => vs
  | _ => []
noncomputable def dPos : Stmt → Pos
  | .Assign _ (.Dict _ _ p) _ => p
  | _ => default
noncomputable def kInt : Option PySem.Expr → Option Int
  | some (.Constant (.int k) _ _) => some k
  | _ => none
noncomputable def vStr : PySem.Expr → Option Str
  | .Constant (.str v) _ _ => some v
  | _ => none
noncomputable def kvOf : List (Option PySem.Expr) → List PySem.Expr → List KV
  | k :: ks, v :: vs => match kInt k, vStr v with
    | some a, some b => (a, b) :: kvOf ks vs
    | _, _ => []
  | _, _ => []
noncomputable def kv8 : List KV := kvOf (dKeys (stm 8)) (dVals (stm 8))
noncomputable def chunks17 : Nat → List KV → List (List KV)
  | 0, _ => []
  | n + 1, l => l.take 17 :: chunks17 n (l.drop 17)
noncomputable def c8 : List KV := kv8.take 17
noncomputable def cs8 : List (List KV) := chunks17 37 (kv8.drop 17)
noncomputable def last8 : List KV := kv8.drop 646
noncomputable def q11_0 (P : Params) : Obj := ⟨(.type "tuple"), none, .seq (List.toArray []) 0, List.toArray []⟩
noncomputable def q12_0 (P : Params) : Obj := ⟨.none, none, .fields (List.toArray []), List.toArray []⟩
noncomputable def q13_0 (P : Params) : Obj := ⟨(.type "code"), none, .fields (List.toArray [(.str (S [60, 109, 111, 100, 117, 108, 101, 62]) 182), (.str (S [60, 109, 111, 100, 117, 108, 101, 62]) 183), (.str (S [47, 99, 108, 97, 105, 109, 47, 99, 117, 116, 46, 112, 121]) 184), (.int (1) 0), (.int (0) 0), (.int (0) 0), (.int (0) 0), (.int (0) 0), (.ref 11), (.bool false), (.int (181) 0), (.ref 12), .none, .none, .none, .none, (.int (185) 0), (.int (1) 0), (.str (S [47, 99, 108, 97, 105, 109, 47, 99, 117, 116, 46, 112, 121]) 186)]), List.toArray []⟩
noncomputable def q14_0 (P : Params) : Obj := ⟨(.type "frame"), none, .plain, List.toArray [(some (.ref 13)), (some (.ref 3)), (some (.ref 3)), none, (some (.str (S [95, 95, 109, 97, 105, 110, 95, 95]) 164)), none, (some (.ref 0))]⟩
noncomputable def tr0 (P : Params) : BT := (.node (PySem.W.boot_o_0 P) (.node (PySem.W.boot_o_1 P) (.node (PySem.W.boot_o_3 P) (.node (PySem.W.boot_o_7 P) .nil .nil) (.node (q11_0 P) .nil .nil)) (.node (PySem.W.boot_o_5 P) (.node (PySem.W.boot_o_9 P) .nil .nil) (.node (q13_0 P) .nil .nil))) (.node (PySem.W.boot_o_2 P) (.node (PySem.W.boot_o_4 P) (.node (PySem.W.boot_o_8 P) .nil .nil) (.node (q12_0 P) .nil .nil)) (.node (PySem.W.boot_o_6 P) (.node (PySem.W.boot_o_10 P) .nil .nil) (.node (q14_0 P) .nil .nil))))
noncomputable def hp0 (P : Params) : Heap := ⟨⟨[PySem.W.boot_o_0 P, PySem.W.boot_o_1 P, PySem.W.boot_o_2 P, PySem.W.boot_o_3 P, PySem.W.boot_o_4 P, PySem.W.boot_o_5 P, PySem.W.boot_o_6 P, PySem.W.boot_o_7 P, PySem.W.boot_o_8 P, PySem.W.boot_o_9 P, PySem.W.boot_o_10 P, q11_0 P, q12_0 P, q13_0 P, q14_0 P]⟩, lifeE⟩
noncomputable def q3_1 (P : Params) : Obj := ⟨(.type "dict"), none, .dict (List.toArray [⟨kh P (S [95, 95, 110, 97, 109, 101, 95, 95]), (.str (S [95, 95, 110, 97, 109, 101, 95, 95]) 165), (.str (S [99, 112, 121, 51, 49, 51, 46, 110, 101, 116, 114, 99]) 187)⟩, ⟨kh P (S [95, 95, 100, 111, 99, 95, 95]), (.str (S [95, 95, 100, 111, 99, 95, 95]) 166), .none⟩, ⟨kh P (S [95, 95, 112, 97, 99, 107, 97, 103, 101, 95, 95]), (.str (S [95, 95, 112, 97, 99, 107, 97, 103, 101, 95, 95]) 167), .none⟩, ⟨kh P (S [95, 95, 108, 111, 97, 100, 101, 114, 95, 95]), (.str (S [95, 95, 108, 111, 97, 100, 101, 114, 95, 95]) 168), (.builtin "__main__.__loader__#opaque")⟩, ⟨kh P (S [95, 95, 115, 112, 101, 99, 95, 95]), (.str (S [95, 95, 115, 112, 101, 99, 95, 95]) 169), .none⟩, ⟨kh P (S [95, 95, 97, 110, 110, 111, 116, 97, 116, 105, 111, 110, 115, 95, 95]), (.str (S [95, 95, 97, 110, 110, 111, 116, 97, 116, 105, 111, 110, 115, 95, 95]) 170), (.ref 6)⟩, ⟨kh P (S [95, 95, 98, 117, 105, 108, 116, 105, 110, 115, 95, 95]), (.str (S [95, 95, 98, 117, 105, 108, 116, 105, 110, 115, 95, 95]) 171), (.ref 4)⟩, ⟨kh P (S [95, 95, 102, 105, 108, 101, 95, 95]), (.str (S [95, 95, 102, 105, 108, 101, 95, 95]) 173), (.str (S [47, 99, 108, 97, 105, 109, 47, 99, 117, 116, 46, 112, 121]) 172)⟩, ⟨kh P (S [95, 95, 99, 97, 99, 104, 101, 100, 95, 95]), (.str (S [95, 95, 99, 97, 99, 104, 101, 100, 95, 95]) 174), .none⟩]) 9, List.toArray []⟩
noncomputable def tr1 (P : Params) : BT := (.node (PySem.W.boot_o_0 P) (.node (PySem.W.boot_o_1 P) (.node (q3_1 P) (.node (PySem.W.boot_o_7 P) .nil .nil) (.node (q11_0 P) .nil .nil)) (.node (PySem.W.boot_o_5 P) (.node (PySem.W.boot_o_9 P) .nil .nil) (.node (q13_0 P) .nil .nil))) (.node (PySem.W.boot_o_2 P) (.node (PySem.W.boot_o_4 P) (.node (PySem.W.boot_o_8 P) .nil .nil) (.node (q12_0 P) .nil .nil)) (.node (PySem.W.boot_o_6 P) (.node (PySem.W.boot_o_10 P) .nil .nil) (.node (q14_0 P) .nil .nil))))
-- piece 0: steps 9 objs 15 -> 15 toks 187 -> 189 pos ⟨0, 0, 0, 0⟩ -> ⟨1, 0, 1, 8⟩
noncomputable def q3_2 (P : Params) : Obj := ⟨(.type "dict"), none, .dict (List.toArray [⟨kh P (S [95, 95, 110, 97, 109, 101, 95, 95]), (.str (S [95, 95, 110, 97, 109, 101, 95, 95]) 165), (.str (S [99, 112, 121, 51, 49, 51, 46, 110, 101, 116, 114, 99]) 187)⟩, ⟨kh P (S [95, 95, 100, 111, 99, 95, 95]), (.str (S [95, 95, 100, 111, 99, 95, 95]) 166), .none⟩, ⟨kh P (S [95, 95, 112, 97, 99, 107, 97, 103, 101, 95, 95]), (.str (S [95, 95, 112, 97, 99, 107, 97, 103, 101, 95, 95]) 167), .none⟩, ⟨kh P (S [95, 95, 108, 111, 97, 100, 101, 114, 95, 95]), (.str (S [95, 95, 108, 111, 97, 100, 101, 114, 95, 95]) 168), (.builtin "__main__.__loader__#opaque")⟩, ⟨kh P (S [95, 95, 115, 112, 101, 99, 95, 95]), (.str (S [95, 95, 115, 112, 101, 99, 95, 95]) 169), .none⟩, ⟨kh P (S [95, 95, 97, 110, 110, 111, 116, 97, 116, 105, 111, 110, 115, 95, 95]), (.str (S [95, 95, 97, 110, 110, 111, 116, 97, 116, 105, 111, 110, 115, 95, 95]) 170), (.ref 6)⟩, ⟨kh P (S [95, 95, 98, 117, 105, 108, 116, 105, 110, 115, 95, 95]), (.str (S [95, 95, 98, 117, 105, 108, 116, 105, 110, 115, 95, 95]) 171), (.ref 4)⟩, ⟨kh P (S [95, 95, 102, 105, 108, 101, 95, 95]), (.str (S [95, 95, 102, 105, 108, 101, 95, 95]) 173), (.str (S [47, 99, 108, 97, 105, 109, 47, 99, 117, 116, 46, 112, 121]) 172)⟩, ⟨kh P (S [95, 95, 99, 97, 99, 104, 101, 100, 95, 95]), (.str (S [95, 95, 99, 97, 99, 104, 101, 100, 95, 95]) 174), .none⟩, ⟨kh P (S [95, 110, 101, 116, 114, 99, 108, 101, 120]), (.str (S [95, 110, 101, 116, 114, 99, 108, 101, 120]) 246), (.ref 52)⟩]) 10, List.toArray []⟩
noncomputable def q12_2 (P : Params) : Obj := ⟨.none, none, .fields (List.toArray [(.int (2) 0), (.int (0) 0), (.ref 20)]), List.toArray []⟩
noncomputable def q15_2 (P : Params) : Obj := ⟨(.type "tuple"), none, .seq (List.toArray []) 0, List.toArray []⟩
noncomputable def q16_2 (P : Params) : Obj := ⟨(.type "builtin_function_or_method"), none, .fields (List.toArray [(.builtin "type.__prepare__"), (.type "type")]), List.toArray []⟩
noncomputable def q17_2 (P : Params) : Obj := ⟨(.type "dict"), none, .dict (List.toArray [⟨kh P (S [95, 95, 109, 111, 100, 117, 108, 101, 95, 95]), (.str (S [95, 95, 109, 111, 100, 117, 108, 101, 95, 95]) 196), (.str (S [99, 112, 121, 51, 49, 51, 46, 110, 101, 116, 114, 99]) 187)⟩, ⟨kh P (S [95, 95, 113, 117, 97, 108, 110, 97, 109, 101, 95, 95]), (.str (S [95, 95, 113, 117, 97, 108, 110, 97, 109, 101, 95, 95]) 198), (.str (S [95, 110, 101, 116, 114, 99, 108, 101, 120]) 197)⟩, ⟨kh P (S [95, 95, 102, 105, 114, 115, 116, 108, 105, 110, 101, 110, 111, 95, 95]), (.str (S [95, 95, 102, 105, 114, 115, 116, 108, 105, 110, 101, 110, 111, 95, 95]) 200), (.int (2) 199)⟩, ⟨kh P (S [95, 95, 105, 110, 105, 116, 95, 95]), (.str (S [95, 95, 105, 110, 105, 116, 95, 95]) 208), (.ref 28)⟩, ⟨kh P (S [95, 114, 101, 97, 100, 95, 99, 104, 97, 114]), (.str (S [95, 114, 101, 97, 100, 95, 99, 104, 97, 114]) 216), (.ref 35)⟩, ⟨kh P (S [103, 101, 116, 95, 116, 111, 107, 101, 110]), (.str (S [103, 101, 116, 95, 116, 111, 107, 101, 110]) 226), (.ref 42)⟩, ⟨kh P (S [112, 117, 115, 104, 95, 116, 111, 107, 101, 110]), (.str (S [112, 117, 115, 104, 95, 116, 111, 107, 101, 110]) 234), (.ref 49)⟩, ⟨kh P (S [95, 95, 115, 116, 97, 116, 105, 99, 95, 97, 116, 116, 114, 105, 98, 117, 116, 101, 115, 95, 95]), (.str (S [95, 95, 115, 116, 97, 116, 105, 99, 95, 97, 116, 116, 114, 105, 98, 117, 116, 101, 115, 95, 95]) 239), (.ref 50)⟩]) 8, List.toArray []⟩
noncomputable def q18_2 (P : Params) : Obj := ⟨(.type "tuple"), none, .seq (List.toArray []) 0, List.toArray []⟩
noncomputable def q19_2 (P : Params) : Obj := ⟨.none, none, .fields (List.toArray [(.int (4) 0), (.int (4) 0), (.ref 27), (.int (10) 0), (.int (4) 0), (.ref 34), (.int (16) 0), (.int (4) 0), (.ref 41), (.int (43) 0), (.int (4) 0), (.ref 48)]), List.toArray []⟩
noncomputable def q20_2 (P : Params) : Obj := ⟨(.type "code"), none, .fields (List.toArray [(.str (S [95, 110, 101, 116, 114, 99, 108, 101, 120]) 191), (.str (S [95, 110, 101, 116, 114, 99, 108, 101, 120]) 192), (.str (S [47, 99, 108, 97, 105, 109, 47, 99, 117, 116, 46, 112, 121]) 193), (.int (2) 0), (.int (0) 0), (.int (0) 0), (.int (0) 0), (.int (0) 0), (.ref 18), (.bool false), (.int (181) 0), (.ref 19), .none, .none, .none, .none, (.int (194) 0), (.int (2) 0), (.str (S [47, 99, 108, 97, 105, 109, 47, 99, 117, 116, 46, 112, 121]) 195)]), List.toArray []⟩
noncomputable def q21_2 (P : Params) : Obj := ⟨(.type "frame"), none, .plain, List.toArray [(some (.ref 20)), (some (.ref 3)), (some (.ref 17)), none, (some (.str (S [99, 112, 121, 51, 49, 51, 46, 110, 101, 116, 114, 99]) 187)), none, (some (.ref 0))]⟩
noncomputable def q22_2 (P : Params) : Obj := ⟨(.type "tuple"), none, .seq (List.toArray []) 0, List.toArray []⟩
noncomputable def q23_2 (P : Params) : Obj := ⟨.none, none, .fields (List.toArray []), List.toArray []⟩
noncomputable def q24_2 (P : Params) : Obj := ⟨(.type "tuple"), none, .seq (List.toArray [(.str (S [115, 101, 108, 102]) 204), (.str (S [102, 112]) 205)]) 0, List.toArray []⟩
noncomputable def q25_2 (P : Params) : Obj := ⟨(.type "tuple"), none, .seq (List.toArray []) 0, List.toArray []⟩
noncomputable def q26_2 (P : Params) : Obj := ⟨.none, none, .func (fnD (mth 0) (S [95, 95, 105, 110, 105, 116, 95, 95]) (S [95, 110, 101, 116, 114, 99, 108, 101, 120, 46, 95, 95, 105, 110, 105, 116, 95, 95]) 0 [] .none .none .none .none none .none .none 0), List.toArray []⟩
noncomputable def q27_2 (P : Params) : Obj := ⟨(.type "code"), none, .fields (List.toArray [(.str (S [95, 95, 105, 110, 105, 116, 95, 95]) 201), (.str (S [95, 110, 101, 116, 114, 99, 108, 101, 120, 46, 95, 95, 105, 110, 105, 116, 95, 95]) 202), (.str (S [47, 99, 108, 97, 105, 109, 47, 99, 117, 116, 46, 112, 121]) 203), (.int (4) 0), (.int (2) 0), (.int (0) 0), (.int (0) 0), (.int (3) 0), (.ref 22), (.bool true), (.int (181) 0), (.ref 23), .none, (.ref 24), (.ref 25), (.ref 26), (.int (206) 0), (.int (4) 0), (.str (S [47, 99, 108, 97, 105, 109, 47, 99, 117, 116, 46, 112, 121]) 207)]), List.toArray []⟩
noncomputable def q28_2 (P : Params) : Obj := ⟨(.type "function"), none, .func (fnD (mth 0) (S [95, 95, 105, 110, 105, 116, 95, 95]) (S [95, 110, 101, 116, 114, 99, 108, 101, 120, 46, 95, 95, 105, 110, 105, 116, 95, 95]) 3 [] .none .none .none (.str (S [99, 112, 121, 51, 49, 51, 46, 110, 101, 116, 114, 99]) 187) none (.ref 27) .none 0), List.toArray []⟩
noncomputable def q29_2 (P : Params) : Obj := ⟨(.type "tuple"), none, .seq (List.toArray []) 0, List.toArray []⟩
noncomputable def q30_2 (P : Params) : Obj := ⟨.none, none, .fields (List.toArray []), List.toArray []⟩
noncomputable def q31_2 (P : Params) : Obj := ⟨(.type "tuple"), none, .seq (List.toArray [(.str (S [115, 101, 108, 102]) 212), (.str (S [99, 104]) 213)]) 0, List.toArray []⟩
noncomputable def q32_2 (P : Params) : Obj := ⟨(.type "tuple"), none, .seq (List.toArray []) 0, List.toArray []⟩
noncomputable def q33_2 (P : Params) : Obj := ⟨.none, none, .func (fnD (mth 1) (S [95, 114, 101, 97, 100, 95, 99, 104, 97, 114]) (S [95, 110, 101, 116, 114, 99, 108, 101, 120, 46, 95, 114, 101, 97, 100, 95, 99, 104, 97, 114]) 0 [] .none .none .none .none none .none .none 0), List.toArray []⟩
noncomputable def q34_2 (P : Params) : Obj := ⟨(.type "code"), none, .fields (List.toArray [(.str (S [95, 114, 101, 97, 100, 95, 99, 104, 97, 114]) 209), (.str (S [95, 110, 101, 116, 114, 99, 108, 101, 120, 46, 95, 114, 101, 97, 100, 95, 99, 104, 97, 114]) 210), (.str (S [47, 99, 108, 97, 105, 109, 47, 99, 117, 116, 46, 112, 121]) 211), (.int (10) 0), (.int (1) 0), (.int (0) 0), (.int (0) 0), (.int (3) 0), (.ref 29), (.bool true), (.int (181) 0), (.ref 30), .none, (.ref 31), (.ref 32), (.ref 33), (.int (214) 0), (.int (10) 0), (.str (S [47, 99, 108, 97, 105, 109, 47, 99, 117, 116, 46, 112, 121]) 215)]), List.toArray []⟩
noncomputable def q35_2 (P : Params) : Obj := ⟨(.type "function"), none, .func (fnD (mth 1) (S [95, 114, 101, 97, 100, 95, 99, 104, 97, 114]) (S [95, 110, 101, 116, 114, 99, 108, 101, 120, 46, 95, 114, 101, 97, 100, 95, 99, 104, 97, 114]) 3 [] .none .none .none (.str (S [99, 112, 121, 51, 49, 51, 46, 110, 101, 116, 114, 99]) 187) none (.ref 34) .none 0), List.toArray []⟩
noncomputable def q36_2 (P : Params) : Obj := ⟨(.type "tuple"), none, .seq (List.toArray []) 0, List.toArray []⟩
noncomputable def q37_2 (P : Params) : Obj := ⟨.none, none, .fields (List.toArray []), List.toArray []⟩
noncomputable def q38_2 (P : Params) : Obj := ⟨(.type "tuple"), none, .seq (List.toArray [(.str (S [115, 101, 108, 102]) 220), (.str (S [116, 111, 107, 101, 110]) 221), (.str (S [102, 105, 116, 101, 114]) 222), (.str (S [99, 104]) 223)]) 0, List.toArray []⟩
noncomputable def q39_2 (P : Params) : Obj := ⟨(.type "tuple"), none, .seq (List.toArray []) 0, List.toArray []⟩
noncomputable def q40_2 (P : Params) : Obj := ⟨.none, none, .func (fnD (mth 2) (S [103, 101, 116, 95, 116, 111, 107, 101, 110]) (S [95, 110, 101, 116, 114, 99, 108, 101, 120, 46, 103, 101, 116, 95, 116, 111, 107, 101, 110]) 0 [] .none .none .none .none none .none .none 0), List.toArray []⟩
noncomputable def q41_2 (P : Params) : Obj := ⟨(.type "code"), none, .fields (List.toArray [(.str (S [103, 101, 116, 95, 116, 111, 107, 101, 110]) 217), (.str (S [95, 110, 101, 116, 114, 99, 108, 101, 120, 46, 103, 101, 116, 95, 116, 111, 107, 101, 110]) 218), (.str (S [47, 99, 108, 97, 105, 109, 47, 99, 117, 116, 46, 112, 121]) 219), (.int (16) 0), (.int (1) 0), (.int (0) 0), (.int (0) 0), (.int (3) 0), (.ref 36), (.bool true), (.int (181) 0), (.ref 37), .none, (.ref 38), (.ref 39), (.ref 40), (.int (224) 0), (.int (16) 0), (.str (S [47, 99, 108, 97, 105, 109, 47, 99, 117, 116, 46, 112, 121]) 225)]), List.toArray []⟩
noncomputable def q42_2 (P : Params) : Obj := ⟨(.type "function"), none, .func (fnD (mth 2) (S [103, 101, 116, 95, 116, 111, 107, 101, 110]) (S [95, 110, 101, 116, 114, 99, 108, 101, 120, 46, 103, 101, 116, 95, 116, 111, 107, 101, 110]) 3 [] .none .none .none (.str (S [99, 112, 121, 51, 49, 51, 46, 110, 101, 116, 114, 99]) 187) none (.ref 41) .none 0), List.toArray []⟩
noncomputable def q43_2 (P : Params) : Obj := ⟨(.type "tuple"), none, .seq (List.toArray []) 0, List.toArray []⟩
noncomputable def q44_2 (P : Params) : Obj := ⟨.none, none, .fields (List.toArray []), List.toArray []⟩
noncomputable def q45_2 (P : Params) : Obj := ⟨(.type "tuple"), none, .seq (List.toArray [(.str (S [115, 101, 108, 102]) 230), (.str (S [116, 111, 107, 101, 110]) 231)]) 0, List.toArray []⟩
noncomputable def q46_2 (P : Params) : Obj := ⟨(.type "tuple"), none, .seq (List.toArray []) 0, List.toArray []⟩
noncomputable def q47_2 (P : Params) : Obj := ⟨.none, none, .func (fnD (mth 3) (S [112, 117, 115, 104, 95, 116, 111, 107, 101, 110]) (S [95, 110, 101, 116, 114, 99, 108, 101, 120, 46, 112, 117, 115, 104, 95, 116, 111, 107, 101, 110]) 0 [] .none .none .none .none none .none .none 0), List.toArray []⟩
noncomputable def q48_2 (P : Params) : Obj := ⟨(.type "code"), none, .fields (List.toArray [(.str (S [112, 117, 115, 104, 95, 116, 111, 107, 101, 110]) 227), (.str (S [95, 110, 101, 116, 114, 99, 108, 101, 120, 46, 112, 117, 115, 104, 95, 116, 111, 107, 101, 110]) 228), (.str (S [47, 99, 108, 97, 105, 109, 47, 99, 117, 116, 46, 112, 121]) 229), (.int (43) 0), (.int (2) 0), (.int (0) 0), (.int (0) 0), (.int (3) 0), (.ref 43), (.bool true), (.int (181) 0), (.ref 44), .none, (.ref 45), (.ref 46), (.ref 47), (.int (232) 0), (.int (43) 0), (.str (S [47, 99, 108, 97, 105, 109, 47, 99, 117, 116, 46, 112, 121]) 233)]), List.toArray []⟩
noncomputable def q49_2 (P : Params) : Obj := ⟨(.type "function"), none, .func (fnD (mth 3) (S [112, 117, 115, 104, 95, 116, 111, 107, 101, 110]) (S [95, 110, 101, 116, 114, 99, 108, 101, 120, 46, 112, 117, 115, 104, 95, 116, 111, 107, 101, 110]) 3 [] .none .none .none (.str (S [99, 112, 121, 51, 49, 51, 46, 110, 101, 116, 114, 99]) 187) none (.ref 48) .none 0), List.toArray []⟩
noncomputable def q50_2 (P : Params) : Obj := ⟨(.type "tuple"), none, .seq (List.toArray [(.str (S [105, 110, 115, 116, 114, 101, 97, 109]) 235), (.str (S [108, 105, 110, 101, 110, 111]) 236), (.str (S [112, 117, 115, 104, 98, 97, 99, 107]) 237), (.str (S [119, 104, 105, 116, 101, 115, 112, 97, 99, 101]) 238)]) 0, List.toArray []⟩
noncomputable def q51_2 (P : Params) : Obj := ⟨(.type "dict"), none, .dict (List.toArray [⟨kh P (S [95, 95, 109, 111, 100, 117, 108, 101, 95, 95]), (.str (S [95, 95, 109, 111, 100, 117, 108, 101, 95, 95]) 196), (.str (S [99, 112, 121, 51, 49, 51, 46, 110, 101, 116, 114, 99]) 187)⟩, ⟨kh P (S [95, 95, 102, 105, 114, 115, 116, 108, 105, 110, 101, 110, 111, 95, 95]), (.str (S [95, 95, 102, 105, 114, 115, 116, 108, 105, 110, 101, 110, 111, 95, 95]) 200), (.int (2) 199)⟩, ⟨kh P (S [95, 95, 105, 110, 105, 116, 95, 95]), (.str (S [95, 95, 105, 110, 105, 116, 95, 95]) 208), (.ref 28)⟩, ⟨kh P (S [95, 114, 101, 97, 100, 95, 99, 104, 97, 114]), (.str (S [95, 114, 101, 97, 100, 95, 99, 104, 97, 114]) 216), (.ref 35)⟩, ⟨kh P (S [103, 101, 116, 95, 116, 111, 107, 101, 110]), (.str (S [103, 101, 116, 95, 116, 111, 107, 101, 110]) 226), (.ref 42)⟩, ⟨kh P (S [112, 117, 115, 104, 95, 116, 111, 107, 101, 110]), (.str (S [112, 117, 115, 104, 95, 116, 111, 107, 101, 110]) 234), (.ref 49)⟩, ⟨kh P (S [95, 95, 115, 116, 97, 116, 105, 99, 95, 97, 116, 116, 114, 105, 98, 117, 116, 101, 115, 95, 95]), (.str (S [95, 95, 115, 116, 97, 116, 105, 99, 95, 97, 116, 116, 114, 105, 98, 117, 116, 101, 115, 95, 95]) 239), (.ref 50)⟩, ⟨kh P (S [95, 95, 100, 105, 99, 116, 95, 95]), (.str (S [95, 95, 100, 105, 99, 116, 95, 95]) 241), (.ref 53)⟩, ⟨kh P (S [95, 95, 119, 101, 97, 107, 114, 101, 102, 95, 95]), (.str (S [95, 95, 119, 101, 97, 107, 114, 101, 102, 95, 95]) 243), (.ref 54)⟩, ⟨kh P (S [95, 95, 100, 111, 99, 95, 95]), (.str (S [95, 95, 100, 111, 99, 95, 95]) 244), .none⟩]) 4, List.toArray []⟩
noncomputable def q52_2 (P : Params) : Obj := ⟨(.type "type"), none, .cls ⟨(S [95, 110, 101, 116, 114, 99, 108, 101, 120]), [(.type "object")], [(.ref 52), (.type "object")], 51, (S [95, 110, 101, 116, 114, 99, 108, 101, 120]), true, [], [], false, none, false⟩, List.toArray [none, none, (some (.str (S [95, 110, 101, 116, 114, 99, 108, 101, 120]) 189)), (some (.str (S [95, 110, 101, 116, 114, 99, 108, 101, 120]) 197)), (some (.builtin "object.__new__")), (some (.bool true))]⟩
noncomputable def q53_2 (P : Params) : Obj := ⟨(.type "getset_descriptor"), none, .fields (List.toArray [(.str (S [95, 95, 100, 105, 99, 116, 95, 95]) 240), (.ref 52), (.builtin "function.__dict__"), (.builtin "function.__dict__#set")]), List.toArray []⟩
noncomputable def q54_2 (P : Params) : Obj := ⟨(.type "getset_descriptor"), none, .fields (List.toArray [(.str (S [95, 95, 119, 101, 97, 107, 114, 101, 102, 95, 95]) 242), (.ref 52), (.builtin "ExceptionGroup.__weakref__"), .none]), List.toArray []⟩
noncomputable def q55_2 (P : Params) : Obj := ⟨(.type "super"), none, .fields (List.toArray [(.ref 52), (.ref 52), (.ref 52)]), List.toArray []⟩
noncomputable def q56_2 (P : Params) : Obj := ⟨(.type "builtin_function_or_method"), none, .fields (List.toArray [(.builtin "object.__init_subclass__"), (.ref 52)]), List.toArray []⟩
noncomputable def tr2 (P : Params) : BT := (.node (PySem.W.boot_o_0 P) (.node (PySem.W.boot_o_1 P) (.node (q3_2 P) (.node (PySem.W.boot_o_7 P) (.node (q15_2 P) (.node (q31_2 P) .nil .nil) (.node (q47_2 P) .nil .nil)) (.node (q23_2 P) (.node (q39_2 P) .nil .nil) (.node (q55_2 P) .nil .nil))) (.node (q11_0 P) (.node (q19_2 P) (.node (q35_2 P) .nil .nil) (.node (q51_2 P) .nil .nil)) (.node (q27_2 P) (.node (q43_2 P) .nil .nil) .nil))) (.node (PySem.W.boot_o_5 P) (.node (PySem.W.boot_o_9 P) (.node (q17_2 P) (.node (q33_2 P) .nil .nil) (.node (q49_2 P) .nil .nil)) (.node (q25_2 P) (.node (q41_2 P) .nil .nil) .nil)) (.node (q13_0 P) (.node (q21_2 P) (.node (q37_2 P) .nil .nil) (.node (q53_2 P) .nil .nil)) (.node (q29_2 P) (.node (q45_2 P) .nil .nil) .nil)))) (.node (PySem.W.boot_o_2 P) (.node (PySem.W.boot_o_4 P) (.node (PySem.W.boot_o_8 P) (.node (q16_2 P) (.node (q32_2 P) .nil .nil) (.node (q48_2 P) .nil .nil)) (.node (q24_2 P) (.node (q40_2 P) .nil .nil) (.node (q56_2 P) .nil .nil))) (.node (q12_2 P) (.node (q20_2 P) (.node (q36_2 P) .nil .nil) (.node (q52_2 P) .nil .nil)) (.node (q28_2 P) (.node (q44_2 P) .nil .nil) .nil))) (.node (PySem.W.boot_o_6 P) (.node (PySem.W.boot_o_10 P) (.node (q18_2 P) (.node (q34_2 P) .nil .nil) (.node (q50_2 P) .nil .nil)) (.node (q26_2 P) (.node (q42_2 P) .nil .nil) .nil)) (.node (q14_0 P) (.node (q22_2 P) (.node (q38_2 P) .nil .nil) (.node (q54_2 P) .nil .nil)) (.node (q30_2 P) (.node (q46_2 P) .nil .nil) .nil)))))
-- piece 1: steps 323 objs 15 -> 57 toks 189 -> 247 pos ⟨1, 0, 1, 8⟩ -> ⟨2, 0, 44, 35⟩
noncomputable def q3_3 (P : Params) : Obj := ⟨(.type "dict"), none, .dict (List.toArray [⟨kh P (S [95, 95, 110, 97, 109, 101, 95, 95]), (.str (S [95, 95, 110, 97, 109, 101, 95, 95]) 165), (.str (S [99, 112, 121, 51, 49, 51, 46, 98, 105, 115, 101, 99, 116]) 247)⟩, ⟨kh P (S [95, 95, 100, 111, 99, 95, 95]), (.str (S [95, 95, 100, 111, 99, 95, 95]) 166), .none⟩, ⟨kh P (S [95, 95, 112, 97, 99, 107, 97, 103, 101, 95, 95]), (.str (S [95, 95, 112, 97, 99, 107, 97, 103, 101, 95, 95]) 167), .none⟩, ⟨kh P (S [95, 95, 108, 111, 97, 100, 101, 114, 95, 95]), (.str (S [95, 95, 108, 111, 97, 100, 101, 114, 95, 95]) 168), (.builtin "__main__.__loader__#opaque")⟩, ⟨kh P (S [95, 95, 115, 112, 101, 99, 95, 95]), (.str (S [95, 95, 115, 112, 101, 99, 95, 95]) 169), .none⟩, ⟨kh P (S [95, 95, 97, 110, 110, 111, 116, 97, 116, 105, 111, 110, 115, 95, 95]), (.str (S [95, 95, 97, 110, 110, 111, 116, 97, 116, 105, 111, 110, 115, 95, 95]) 170), (.ref 6)⟩, ⟨kh P (S [95, 95, 98, 117, 105, 108, 116, 105, 110, 115, 95, 95]), (.str (S [95, 95, 98, 117, 105, 108, 116, 105, 110, 115, 95, 95]) 171), (.ref 4)⟩, ⟨kh P (S [95, 95, 102, 105, 108, 101, 95, 95]), (.str (S [95, 95, 102, 105, 108, 101, 95, 95]) 173), (.str (S [47, 99, 108, 97, 105, 109, 47, 99, 117, 116, 46, 112, 121]) 172)⟩, ⟨kh P (S [95, 95, 99, 97, 99, 104, 101, 100, 95, 95]), (.str (S [95, 95, 99, 97, 99, 104, 101, 100, 95, 95]) 174), .none⟩, ⟨kh P (S [95, 110, 101, 116, 114, 99, 108, 101, 120]), (.str (S [95, 110, 101, 116, 114, 99, 108, 101, 120]) 246), (.ref 52)⟩]) 10, List.toArray []⟩
noncomputable def tr3 (P : Params) : BT := (.node (PySem.W.boot_o_0 P) (.node (PySem.W.boot_o_1 P) (.node (q3_3 P) (.node (PySem.W.boot_o_7 P) (.node (q15_2 P) (.node (q31_2 P) .nil .nil) (.node (q47_2 P) .nil .nil)) (.node (q23_2 P) (.node (q39_2 P) .nil .nil) (.node (q55_2 P) .nil .nil))) (.node (q11_0 P) (.node (q19_2 P) (.node (q35_2 P) .nil .nil) (.node (q51_2 P) .nil .nil)) (.node (q27_2 P) (.node (q43_2 P) .nil .nil) .nil))) (.node (PySem.W.boot_o_5 P) (.node (PySem.W.boot_o_9 P) (.node (q17_2 P) (.node (q33_2 P) .nil .nil) (.node (q49_2 P) .nil .nil)) (.node (q25_2 P) (.node (q41_2 P) .nil .nil) .nil)) (.node (q13_0 P) (.node (q21_2 P) (.node (q37_2 P) .nil .nil) (.node (q53_2 P) .nil .nil)) (.node (q29_2 P) (.node (q45_2 P) .nil .nil) .nil)))) (.node (PySem.W.boot_o_2 P) (.node (PySem.W.boot_o_4 P) (.node (PySem.W.boot_o_8 P) (.node (q16_2 P) (.node (q32_2 P) .nil .nil) (.node (q48_2 P) .nil .nil)) (.node (q24_2 P) (.node (q40_2 P) .nil .nil) (.node (q56_2 P) .nil .nil))) (.node (q12_2 P) (.node (q20_2 P) (.node (q36_2 P) .nil .nil) (.node (q52_2 P) .nil .nil)) (.node (q28_2 P) (.node (q44_2 P) .nil .nil) .nil))) (.node (PySem.W.boot_o_6 P) (.node (PySem.W.boot_o_10 P) (.node (q18_2 P) (.node (q34_2 P) .nil .nil) (.node (q50_2 P) .nil .nil)) (.node (q26_2 P) (.node (q42_2 P) .nil .nil) .nil)) (.node (q14_0 P) (.node (q22_2 P) (.node (q38_2 P) .nil .nil) (.node (q54_2 P) .nil .nil)) (.node (q30_2 P) (.node (q46_2 P) .nil .nil) .nil)))))
-- piece 2: steps 9 objs 57 -> 57 toks 247 -> 249 pos ⟨2, 0, 44, 35⟩ -> ⟨45, 0, 45, 8⟩
noncomputable def q3_4 (P : Params) : Obj := ⟨(.type "dict"), none, .dict (List.toArray [⟨kh P (S [95, 95, 110, 97, 109, 101, 95, 95]), (.str (S [95, 95, 110, 97, 109, 101, 95, 95]) 165), (.str (S [99, 112, 121, 51, 49, 51, 46, 98, 105, 115, 101, 99, 116]) 247)⟩, ⟨kh P (S [95, 95, 100, 111, 99, 95, 95]), (.str (S [95, 95, 100, 111, 99, 95, 95]) 166), .none⟩, ⟨kh P (S [95, 95, 112, 97, 99, 107, 97, 103, 101, 95, 95]), (.str (S [95, 95, 112, 97, 99, 107, 97, 103, 101, 95, 95]) 167), .none⟩, ⟨kh P (S [95, 95, 108, 111, 97, 100, 101, 114, 95, 95]), (.str (S [95, 95, 108, 111, 97, 100, 101, 114, 95, 95]) 168), (.builtin "__main__.__loader__#opaque")⟩, ⟨kh P (S [95, 95, 115, 112, 101, 99, 95, 95]), (.str (S [95, 95, 115, 112, 101, 99, 95, 95]) 169), .none⟩, ⟨kh P (S [95, 95, 97, 110, 110, 111, 116, 97, 116, 105, 111, 110, 115, 95, 95]), (.str (S [95, 95, 97, 110, 110, 111, 116, 97, 116, 105, 111, 110, 115, 95, 95]) 170), (.ref 6)⟩, ⟨kh P (S [95, 95, 98, 117, 105, 108, 116, 105, 110, 115, 95, 95]), (.str (S [95, 95, 98, 117, 105, 108, 116, 105, 110, 115, 95, 95]) 171), (.ref 4)⟩, ⟨kh P (S [95, 95, 102, 105, 108, 101, 95, 95]), (.str (S [95, 95, 102, 105, 108, 101, 95, 95]) 173), (.str (S [47, 99, 108, 97, 105, 109, 47, 99, 117, 116, 46, 112, 121]) 172)⟩, ⟨kh P (S [95, 95, 99, 97, 99, 104, 101, 100, 95, 95]), (.str (S [95, 95, 99, 97, 99, 104, 101, 100, 95, 95]) 174), .none⟩, ⟨kh P (S [95, 110, 101, 116, 114, 99, 108, 101, 120]), (.str (S [95, 110, 101, 116, 114, 99, 108, 101, 120]) 246), (.ref 52)⟩, ⟨kh P (S [98, 105, 115, 101, 99, 116, 95, 114, 105, 103, 104, 116]), (.str (S [98, 105, 115, 101, 99, 116, 95, 114, 105, 103, 104, 116]) 262), (.ref 65)⟩]) 11, List.toArray []⟩
noncomputable def q12_4 (P : Params) : Obj := ⟨.none, none, .fields (List.toArray [(.int (2) 0), (.int (0) 0), (.ref 20), (.int (46) 0), (.int (0) 0), (.ref 64)]), List.toArray []⟩
noncomputable def q57_4 (P : Params) : Obj := ⟨(.type "tuple"), none, .seq (List.toArray [(.int (0) 249), .none]) 0, List.toArray []⟩
noncomputable def q58_4 (P : Params) : Obj := ⟨(.type "dict"), none, .dict (List.toArray [⟨kh P (S [107, 101, 121]), (.str (S [107, 101, 121]) 250), .none⟩]) 1, List.toArray []⟩
noncomputable def q59_4 (P : Params) : Obj := ⟨(.type "tuple"), none, .seq (List.toArray []) 0, List.toArray []⟩
noncomputable def q60_4 (P : Params) : Obj := ⟨.none, none, .fields (List.toArray []), List.toArray []⟩
noncomputable def q61_4 (P : Params) : Obj := ⟨(.type "tuple"), none, .seq (List.toArray [(.str (S [97]) 254), (.str (S [120]) 255), (.str (S [108, 111]) 256), (.str (S [104, 105]) 257), (.str (S [107, 101, 121]) 258), (.str (S [109, 105, 100]) 259)]) 0, List.toArray []⟩
noncomputable def q62_4 (P : Params) : Obj := ⟨(.type "tuple"), none, .seq (List.toArray []) 0, List.toArray []⟩
noncomputable def q63_4 (P : Params) : Obj := ⟨.none, none, .func (fnD (stm 3) (S [98, 105, 115, 101, 99, 116, 95, 114, 105, 103, 104, 116]) (S [98, 105, 115, 101, 99, 116, 95, 114, 105, 103, 104, 116]) 0 [] .none .none .none .none none .none .none 0), List.toArray []⟩
noncomputable def q64_4 (P : Params) : Obj := ⟨(.type "code"), none, .fields (List.toArray [(.str (S [98, 105, 115, 101, 99, 116, 95, 114, 105, 103, 104, 116]) 251), (.str (S [98, 105, 115, 101, 99, 116, 95, 114, 105, 103, 104, 116]) 252), (.str (S [47, 99, 108, 97, 105, 109, 47, 99, 117, 116, 46, 112, 121]) 253), (.int (46) 0), (.int (4) 0), (.int (0) 0), (.int (1) 0), (.int (3) 0), (.ref 59), (.bool true), (.int (181) 0), (.ref 60), .none, (.ref 61), (.ref 62), (.ref 63), (.int (260) 0), (.int (46) 0), (.str (S [47, 99, 108, 97, 105, 109, 47, 99, 117, 116, 46, 112, 121]) 261)]), List.toArray []⟩
noncomputable def q65_4 (P : Params) : Obj := ⟨(.type "function"), none, .func (fnD (stm 3) (S [98, 105, 115, 101, 99, 116, 95, 114, 105, 103, 104, 116]) (S [98, 105, 115, 101, 99, 116, 95, 114, 105, 103, 104, 116]) 3 [] (.ref 57) (.ref 58) .none (.str (S [99, 112, 121, 51, 49, 51, 46, 98, 105, 115, 101, 99, 116]) 247) none (.ref 64) .none 0), List.toArray []⟩
noncomputable def tr4 (P : Params) : BT := (.node (PySem.W.boot_o_0 P) (.node (PySem.W.boot_o_1 P) (.node (q3_4 P) (.node (PySem.W.boot_o_7 P) (.node (q15_2 P) (.node (q31_2 P) (.node (q63_4 P) .nil .nil) .nil) (.node (q47_2 P) .nil .nil)) (.node (q23_2 P) (.node (q39_2 P) .nil .nil) (.node (q55_2 P) .nil .nil))) (.node (q11_0 P) (.node (q19_2 P) (.node (q35_2 P) .nil .nil) (.node (q51_2 P) .nil .nil)) (.node (q27_2 P) (.node (q43_2 P) .nil .nil) (.node (q59_4 P) .nil .nil)))) (.node (PySem.W.boot_o_5 P) (.node (PySem.W.boot_o_9 P) (.node (q17_2 P) (.node (q33_2 P) (.node (q65_4 P) .nil .nil) .nil) (.node (q49_2 P) .nil .nil)) (.node (q25_2 P) (.node (q41_2 P) .nil .nil) (.node (q57_4 P) .nil .nil))) (.node (q13_0 P) (.node (q21_2 P) (.node (q37_2 P) .nil .nil) (.node (q53_2 P) .nil .nil)) (.node (q29_2 P) (.node (q45_2 P) .nil .nil) (.node (q61_4 P) .nil .nil))))) (.node (PySem.W.boot_o_2 P) (.node (PySem.W.boot_o_4 P) (.node (PySem.W.boot_o_8 P) (.node (q16_2 P) (.node (q32_2 P) (.node (q64_4 P) .nil .nil) .nil) (.node (q48_2 P) .nil .nil)) (.node (q24_2 P) (.node (q40_2 P) .nil .nil) (.node (q56_2 P) .nil .nil))) (.node (q12_4 P) (.node (q20_2 P) (.node (q36_2 P) .nil .nil) (.node (q52_2 P) .nil .nil)) (.node (q28_2 P) (.node (q44_2 P) .nil .nil) (.node (q60_4 P) .nil .nil)))) (.node (PySem.W.boot_o_6 P) (.node (PySem.W.boot_o_10 P) (.node (q18_2 P) (.node (q34_2 P) .nil .nil) (.node (q50_2 P) .nil .nil)) (.node (q26_2 P) (.node (q42_2 P) .nil .nil) (.node (q58_4 P) .nil .nil))) (.node (q14_0 P) (.node (q22_2 P) (.node (q38_2 P) .nil .nil) (.node (q54_2 P) .nil .nil)) (.node (q30_2 P) (.node (q46_2 P) .nil .nil) (.node (q62_4 P) .nil .nil))))))
-- piece 3: steps 41 objs 57 -> 66 toks 249 -> 263 pos ⟨45, 0, 45, 8⟩ -> ⟨46, 0, 65, 13⟩
noncomputable def q3_5 (P : Params) : Obj := ⟨(.type "dict"), none, .dict (List.toArray [⟨kh P (S [95, 95, 110, 97, 109, 101, 95, 95]), (.str (S [95, 95, 110, 97, 109, 101, 95, 95]) 165), (.str (S [99, 112, 121, 51, 49, 51, 46, 98, 105, 115, 101, 99, 116]) 247)⟩, ⟨kh P (S [95, 95, 100, 111, 99, 95, 95]), (.str (S [95, 95, 100, 111, 99, 95, 95]) 166), .none⟩, ⟨kh P (S [95, 95, 112, 97, 99, 107, 97, 103, 101, 95, 95]), (.str (S [95, 95, 112, 97, 99, 107, 97, 103, 101, 95, 95]) 167), .none⟩, ⟨kh P (S [95, 95, 108, 111, 97, 100, 101, 114, 95, 95]), (.str (S [95, 95, 108, 111, 97, 100, 101, 114, 95, 95]) 168), (.builtin "__main__.__loader__#opaque")⟩, ⟨kh P (S [95, 95, 115, 112, 101, 99, 95, 95]), (.str (S [95, 95, 115, 112, 101, 99, 95, 95]) 169), .none⟩, ⟨kh P (S [95, 95, 97, 110, 110, 111, 116, 97, 116, 105, 111, 110, 115, 95, 95]), (.str (S [95, 95, 97, 110, 110, 111, 116, 97, 116, 105, 111, 110, 115, 95, 95]) 170), (.ref 6)⟩, ⟨kh P (S [95, 95, 98, 117, 105, 108, 116, 105, 110, 115, 95, 95]), (.str (S [95, 95, 98, 117, 105, 108, 116, 105, 110, 115, 95, 95]) 171), (.ref 4)⟩, ⟨kh P (S [95, 95, 102, 105, 108, 101, 95, 95]), (.str (S [95, 95, 102, 105, 108, 101, 95, 95]) 173), (.str (S [47, 99, 108, 97, 105, 109, 47, 99, 117, 116, 46, 112, 121]) 172)⟩, ⟨kh P (S [95, 95, 99, 97, 99, 104, 101, 100, 95, 95]), (.str (S [95, 95, 99, 97, 99, 104, 101, 100, 95, 95]) 174), .none⟩, ⟨kh P (S [95, 110, 101, 116, 114, 99, 108, 101, 120]), (.str (S [95, 110, 101, 116, 114, 99, 108, 101, 120]) 246), (.ref 52)⟩, ⟨kh P (S [98, 105, 115, 101, 99, 116, 95, 114, 105, 103, 104, 116]), (.str (S [98, 105, 115, 101, 99, 116, 95, 114, 105, 103, 104, 116]) 262), (.ref 65)⟩, ⟨kh P (S [98, 105, 115, 101, 99, 116, 95, 108, 101, 102, 116]), (.str (S [98, 105, 115, 101, 99, 116, 95, 108, 101, 102, 116]) 276), (.ref 74)⟩]) 12, List.toArray []⟩
noncomputable def q12_5 (P : Params) : Obj := ⟨.none, none, .fields (List.toArray [(.int (2) 0), (.int (0) 0), (.ref 20), (.int (46) 0), (.int (0) 0), (.ref 64), (.int (66) 0), (.int (0) 0), (.ref 73)]), List.toArray []⟩
noncomputable def q66_5 (P : Params) : Obj := ⟨(.type "tuple"), none, .seq (List.toArray [(.int (0) 263), .none]) 0, List.toArray []⟩
noncomputable def q67_5 (P : Params) : Obj := ⟨(.type "dict"), none, .dict (List.toArray [⟨kh P (S [107, 101, 121]), (.str (S [107, 101, 121]) 264), .none⟩]) 1, List.toArray []⟩
noncomputable def q68_5 (P : Params) : Obj := ⟨(.type "tuple"), none, .seq (List.toArray []) 0, List.toArray []⟩
noncomputable def q69_5 (P : Params) : Obj := ⟨.none, none, .fields (List.toArray []), List.toArray []⟩
noncomputable def q70_5 (P : Params) : Obj := ⟨(.type "tuple"), none, .seq (List.toArray [(.str (S [97]) 268), (.str (S [120]) 269), (.str (S [108, 111]) 270), (.str (S [104, 105]) 271), (.str (S [107, 101, 121]) 272), (.str (S [109, 105, 100]) 273)]) 0, List.toArray []⟩
noncomputable def q71_5 (P : Params) : Obj := ⟨(.type "tuple"), none, .seq (List.toArray []) 0, List.toArray []⟩
noncomputable def q72_5 (P : Params) : Obj := ⟨.none, none, .func (fnD (stm 4) (S [98, 105, 115, 101, 99, 116, 95, 108, 101, 102, 116]) (S [98, 105, 115, 101, 99, 116, 95, 108, 101, 102, 116]) 0 [] .none .none .none .none none .none .none 0), List.toArray []⟩
noncomputable def q73_5 (P : Params) : Obj := ⟨(.type "code"), none, .fields (List.toArray [(.str (S [98, 105, 115, 101, 99, 116, 95, 108, 101, 102, 116]) 265), (.str (S [98, 105, 115, 101, 99, 116, 95, 108, 101, 102, 116]) 266), (.str (S [47, 99, 108, 97, 105, 109, 47, 99, 117, 116, 46, 112, 121]) 267), (.int (66) 0), (.int (4) 0), (.int (0) 0), (.int (1) 0), (.int (3) 0), (.ref 68), (.bool true), (.int (181) 0), (.ref 69), .none, (.ref 70), (.ref 71), (.ref 72), (.int (274) 0), (.int (66) 0), (.str (S [47, 99, 108, 97, 105, 109, 47, 99, 117, 116, 46, 112, 121]) 275)]), List.toArray []⟩
noncomputable def q74_5 (P : Params) : Obj := ⟨(.type "function"), none, .func (fnD (stm 4) (S [98, 105, 115, 101, 99, 116, 95, 108, 101, 102, 116]) (S [98, 105, 115, 101, 99, 116, 95, 108, 101, 102, 116]) 3 [] (.ref 66) (.ref 67) .none (.str (S [99, 112, 121, 51, 49, 51, 46, 98, 105, 115, 101, 99, 116]) 247) none (.ref 73) .none 0), List.toArray []⟩
noncomputable def tr5 (P : Params) : BT := (.node (PySem.W.boot_o_0 P) (.node (PySem.W.boot_o_1 P) (.node (q3_5 P) (.node (PySem.W.boot_o_7 P) (.node (q15_2 P) (.node (q31_2 P) (.node (q63_4 P) .nil .nil) .nil) (.node (q47_2 P) .nil .nil)) (.node (q23_2 P) (.node (q39_2 P) (.node (q71_5 P) .nil .nil) .nil) (.node (q55_2 P) .nil .nil))) (.node (q11_0 P) (.node (q19_2 P) (.node (q35_2 P) (.node (q67_5 P) .nil .nil) .nil) (.node (q51_2 P) .nil .nil)) (.node (q27_2 P) (.node (q43_2 P) .nil .nil) (.node (q59_4 P) .nil .nil)))) (.node (PySem.W.boot_o_5 P) (.node (PySem.W.boot_o_9 P) (.node (q17_2 P) (.node (q33_2 P) (.node (q65_4 P) .nil .nil) .nil) (.node (q49_2 P) .nil .nil)) (.node (q25_2 P) (.node (q41_2 P) (.node (q73_5 P) .nil .nil) .nil) (.node (q57_4 P) .nil .nil))) (.node (q13_0 P) (.node (q21_2 P) (.node (q37_2 P) (.node (q69_5 P) .nil .nil) .nil) (.node (q53_2 P) .nil .nil)) (.node (q29_2 P) (.node (q45_2 P) .nil .nil) (.node (q61_4 P) .nil .nil))))) (.node (PySem.W.boot_o_2 P) (.node (PySem.W.boot_o_4 P) (.node (PySem.W.boot_o_8 P) (.node (q16_2 P) (.node (q32_2 P) (.node (q64_4 P) .nil .nil) .nil) (.node (q48_2 P) .nil .nil)) (.node (q24_2 P) (.node (q40_2 P) (.node (q72_5 P) .nil .nil) .nil) (.node (q56_2 P) .nil .nil))) (.node (q12_5 P) (.node (q20_2 P) (.node (q36_2 P) (.node (q68_5 P) .nil .nil) .nil) (.node (q52_2 P) .nil .nil)) (.node (q28_2 P) (.node (q44_2 P) .nil .nil) (.node (q60_4 P) .nil .nil)))) (.node (PySem.W.boot_o_6 P) (.node (PySem.W.boot_o_10 P) (.node (q18_2 P) (.node (q34_2 P) (.node (q66_5 P) .nil .nil) .nil) (.node (q50_2 P) .nil .nil)) (.node (q26_2 P) (.node (q42_2 P) (.node (q74_5 P) .nil .nil) .nil) (.node (q58_4 P) .nil .nil))) (.node (q14_0 P) (.node (q22_2 P) (.node (q38_2 P) (.node (q70_5 P) .nil .nil) .nil) (.node (q54_2 P) .nil .nil)) (.node (q30_2 P) (.node (q46_2 P) .nil .nil) (.node (q62_4 P) .nil .nil))))))
-- piece 4: steps 41 objs 66 -> 75 toks 263 -> 277 pos ⟨46, 0, 65, 13⟩ -> ⟨66, 0, 85, 13⟩
noncomputable def q3_6 (P : Params) : Obj := ⟨(.type "dict"), none, .dict (List.toArray [⟨kh P (S [95, 95, 110, 97, 109, 101, 95, 95]), (.str (S [95, 95, 110, 97, 109, 101, 95, 95]) 165), (.str (S [99, 112, 121, 51, 49, 51, 46, 115, 116, 114, 105, 110, 103, 112, 114, 101, 112]) 277)⟩, ⟨kh P (S [95, 95, 100, 111, 99, 95, 95]), (.str (S [95, 95, 100, 111, 99, 95, 95]) 166), .none⟩, ⟨kh P (S [95, 95, 112, 97, 99, 107, 97, 103, 101, 95, 95]), (.str (S [95, 95, 112, 97, 99, 107, 97, 103, 101, 95, 95]) 167), .none⟩, ⟨kh P (S [95, 95, 108, 111, 97, 100, 101, 114, 95, 95]), (.str (S [95, 95, 108, 111, 97, 100, 101, 114, 95, 95]) 168), (.builtin "__main__.__loader__#opaque")⟩, ⟨kh P (S [95, 95, 115, 112, 101, 99, 95, 95]), (.str (S [95, 95, 115, 112, 101, 99, 95, 95]) 169), .none⟩, ⟨kh P (S [95, 95, 97, 110, 110, 111, 116, 97, 116, 105, 111, 110, 115, 95, 95]), (.str (S [95, 95, 97, 110, 110, 111, 116, 97, 116, 105, 111, 110, 115, 95, 95]) 170), (.ref 6)⟩, ⟨kh P (S [95, 95, 98, 117, 105, 108, 116, 105, 110, 115, 95, 95]), (.str (S [95, 95, 98, 117, 105, 108, 116, 105, 110, 115, 95, 95]) 171), (.ref 4)⟩, ⟨kh P (S [95, 95, 102, 105, 108, 101, 95, 95]), (.str (S [95, 95, 102, 105, 108, 101, 95, 95]) 173), (.str (S [47, 99, 108, 97, 105, 109, 47, 99, 117, 116, 46, 112, 121]) 172)⟩, ⟨kh P (S [95, 95, 99, 97, 99, 104, 101, 100, 95, 95]), (.str (S [95, 95, 99, 97, 99, 104, 101, 100, 95, 95]) 174), .none⟩, ⟨kh P (S [95, 110, 101, 116, 114, 99, 108, 101, 120]), (.str (S [95, 110, 101, 116, 114, 99, 108, 101, 120]) 246), (.ref 52)⟩, ⟨kh P (S [98, 105, 115, 101, 99, 116, 95, 114, 105, 103, 104, 116]), (.str (S [98, 105, 115, 101, 99, 116, 95, 114, 105, 103, 104, 116]) 262), (.ref 65)⟩, ⟨kh P (S [98, 105, 115, 101, 99, 116, 95, 108, 101, 102, 116]), (.str (S [98, 105, 115, 101, 99, 116, 95, 108, 101, 102, 116]) 276), (.ref 74)⟩]) 12, List.toArray []⟩
noncomputable def tr6 (P : Params) : BT := (.node (PySem.W.boot_o_0 P) (.node (PySem.W.boot_o_1 P) (.node (q3_6 P) (.node (PySem.W.boot_o_7 P) (.node (q15_2 P) (.node (q31_2 P) (.node (q63_4 P) .nil .nil) .nil) (.node (q47_2 P) .nil .nil)) (.node (q23_2 P) (.node (q39_2 P) (.node (q71_5 P) .nil .nil) .nil) (.node (q55_2 P) .nil .nil))) (.node (q11_0 P) (.node (q19_2 P) (.node (q35_2 P) (.node (q67_5 P) .nil .nil) .nil) (.node (q51_2 P) .nil .nil)) (.node (q27_2 P) (.node (q43_2 P) .nil .nil) (.node (q59_4 P) .nil .nil)))) (.node (PySem.W.boot_o_5 P) (.node (PySem.W.boot_o_9 P) (.node (q17_2 P) (.node (q33_2 P) (.node (q65_4 P) .nil .nil) .nil) (.node (q49_2 P) .nil .nil)) (.node (q25_2 P) (.node (q41_2 P) (.node (q73_5 P) .nil .nil) .nil) (.node (q57_4 P) .nil .nil))) (.node (q13_0 P) (.node (q21_2 P) (.node (q37_2 P) (.node (q69_5 P) .nil .nil) .nil) (.node (q53_2 P) .nil .nil)) (.node (q29_2 P) (.node (q45_2 P) .nil .nil) (.node (q61_4 P) .nil .nil))))) (.node (PySem.W.boot_o_2 P) (.node (PySem.W.boot_o_4 P) (.node (PySem.W.boot_o_8 P) (.node (q16_2 P) (.node (q32_2 P) (.node (q64_4 P) .nil .nil) .nil) (.node (q48_2 P) .nil .nil)) (.node (q24_2 P) (.node (q40_2 P) (.node (q72_5 P) .nil .nil) .nil) (.node (q56_2 P) .nil .nil))) (.node (q12_5 P) (.node (q20_2 P) (.node (q36_2 P) (.node (q68_5 P) .nil .nil) .nil) (.node (q52_2 P) .nil .nil)) (.node (q28_2 P) (.node (q44_2 P) .nil .nil) (.node (q60_4 P) .nil .nil)))) (.node (PySem.W.boot_o_6 P) (.node (PySem.W.boot_o_10 P) (.node (q18_2 P) (.node (q34_2 P) (.node (q66_5 P) .nil .nil) .nil) (.node (q50_2 P) .nil .nil)) (.node (q26_2 P) (.node (q42_2 P) (.node (q74_5 P) .nil .nil) .nil) (.node (q58_4 P) .nil .nil))) (.node (q14_0 P) (.node (q22_2 P) (.node (q38_2 P) (.node (q70_5 P) .nil .nil) .nil) (.node (q54_2 P) .nil .nil)) (.node (q30_2 P) (.node (q46_2 P) .nil .nil) (.node (q62_4 P) .nil .nil))))))
-- piece 5: steps 9 objs 75 -> 75 toks 277 -> 279 pos ⟨66, 0, 85, 13⟩ -> ⟨86, 0, 86, 8⟩
noncomputable def q3_7 (P : Params) : Obj := ⟨(.type "dict"), none, .dict (List.toArray [⟨kh P (S [95, 95, 110, 97, 109, 101, 95, 95]), (.str (S [95, 95, 110, 97, 109, 101, 95, 95]) 165), (.str (S [99, 112, 121, 51, 49, 51, 46, 115, 116, 114, 105, 110, 103, 112, 114, 101, 112]) 277)⟩, ⟨kh P (S [95, 95, 100, 111, 99, 95, 95]), (.str (S [95, 95, 100, 111, 99, 95, 95]) 166), .none⟩, ⟨kh P (S [95, 95, 112, 97, 99, 107, 97, 103, 101, 95, 95]), (.str (S [95, 95, 112, 97, 99, 107, 97, 103, 101, 95, 95]) 167), .none⟩, ⟨kh P (S [95, 95, 108, 111, 97, 100, 101, 114, 95, 95]), (.str (S [95, 95, 108, 111, 97, 100, 101, 114, 95, 95]) 168), (.builtin "__main__.__loader__#opaque")⟩, ⟨kh P (S [95, 95, 115, 112, 101, 99, 95, 95]), (.str (S [95, 95, 115, 112, 101, 99, 95, 95]) 169), .none⟩, ⟨kh P (S [95, 95, 97, 110, 110, 111, 116, 97, 116, 105, 111, 110, 115, 95, 95]), (.str (S [95, 95, 97, 110, 110, 111, 116, 97, 116, 105, 111, 110, 115, 95, 95]) 170), (.ref 6)⟩, ⟨kh P (S [95, 95, 98, 117, 105, 108, 116, 105, 110, 115, 95, 95]), (.str (S [95, 95, 98, 117, 105, 108, 116, 105, 110, 115, 95, 95]) 171), (.ref 4)⟩, ⟨kh P (S [95, 95, 102, 105, 108, 101, 95, 95]), (.str (S [95, 95, 102, 105, 108, 101, 95, 95]) 173), (.str (S [47, 99, 108, 97, 105, 109, 47, 99, 117, 116, 46, 112, 121]) 172)⟩, ⟨kh P (S [95, 95, 99, 97, 99, 104, 101, 100, 95, 95]), (.str (S [95, 95, 99, 97, 99, 104, 101, 100, 95, 95]) 174), .none⟩, ⟨kh P (S [95, 110, 101, 116, 114, 99, 108, 101, 120]), (.str (S [95, 110, 101, 116, 114, 99, 108, 101, 120]) 246), (.ref 52)⟩, ⟨kh P (S [98, 105, 115, 101, 99, 116, 95, 114, 105, 103, 104, 116]), (.str (S [98, 105, 115, 101, 99, 116, 95, 114, 105, 103, 104, 116]) 262), (.ref 65)⟩, ⟨kh P (S [98, 105, 115, 101, 99, 116, 95, 108, 101, 102, 116]), (.str (S [98, 105, 115, 101, 99, 116, 95, 108, 101, 102, 116]) 276), (.ref 74)⟩, ⟨kh P (S [98, 49, 95, 115, 101, 116]), (.str (S [98, 49, 95, 115, 101, 116]) 338), (.ref 82)⟩]) 13, List.toArray []⟩
noncomputable def q75_7 (P : Params) : Obj := ⟨(.type "list"), none, .seq (List.toArray [(.int (173) 279), (.int (847) 280), (.int (6150) 281), (.int (6155) 282), (.int (6156) 283), (.int (6157) 284), (.int (8203) 285), (.int (8204) 286), (.int (8205) 287), (.int (8288) 288), (.int (65279) 289)]) 0, List.toArray []⟩
noncomputable def q76_7 (P : Params) : Obj := ⟨(.type "range"), none, .fields (List.toArray [(.int (65024) 290), (.int (65040) 291), (.int (1) 292)]), List.toArray []⟩
noncomputable def q77_7 (P : Params) : Obj := ⟨(.type "list"), none, .seq (List.toArray [(.int (65024) 295), (.int (65025) 296), (.int (65026) 297), (.int (65027) 298), (.int (65028) 299), (.int (65029) 300), (.int (65030) 301), (.int (65031) 302), (.int (65032) 303), (.int (65033) 304), (.int (65034) 305), (.int (65035) 306), (.int (65036) 307), (.int (65037) 308), (.int (65038) 309), (.int (65039) 310)]) 18, List.toArray []⟩
noncomputable def q78_7 (P : Params) : Obj := ⟨(.type "range_iterator"), none, .fields (List.toArray [(.int (65040) 0), (.int (0) 0), (.int (1) 0)]), List.toArray []⟩
noncomputable def q79_7 (P : Params) : Obj := ⟨(.type "tuple"), none, .seq (List.toArray []) 0, List.toArray []⟩
noncomputable def q80_7 (P : Params) : Obj := ⟨(.type "StopIteration"), none, .fields (List.toArray [(.ref 79), .none, .none, .none, (.bool false), .none]), List.toArray []⟩
noncomputable def q81_7 (P : Params) : Obj := ⟨(.type "list"), none, .seq (List.toArray [(.int (173) 279), (.int (847) 280), (.int (6150) 281), (.int (6155) 282), (.int (6156) 283), (.int (6157) 284), (.int (8203) 285), (.int (8204) 286), (.int (8205) 287), (.int (8288) 288), (.int (65279) 289), (.int (65024) 295), (.int (65025) 296), (.int (65026) 297), (.int (65027) 298), (.int (65028) 299), (.int (65029) 300), (.int (65030) 301), (.int (65031) 302), (.int (65032) 303), (.int (65033) 304), (.int (65034) 305), (.int (65035) 306), (.int (65036) 307), (.int (65037) 308), (.int (65038) 309), (.int (65039) 310)]) 0, List.toArray []⟩
noncomputable def q82_7 (P : Params) : Obj := ⟨(.type "set"), none, .set (List.toArray [(65024, (.int (65024) 295)), (65025, (.int (65025) 296)), (65026, (.int (65026) 297)), (65027, (.int (65027) 298)), (65028, (.int (65028) 299)), (65029, (.int (65029) 300)), (6150, (.int (6150) 281)), (65030, (.int (65030) 301)), (65031, (.int (65031) 302)), (65032, (.int (65032) 303)), (65033, (.int (65033) 304)), (6155, (.int (6155) 282)), (6156, (.int (6156) 283)), (6157, (.int (6157) 284)), (8203, (.int (8203) 285)), (8204, (.int (8204) 286)), (8205, (.int (8205) 287)), (65034, (.int (65034) 305)), (65035, (.int (65035) 306)), (65036, (.int (65036) 307)), (65037, (.int (65037) 308)), (65038, (.int (65038) 309)), (65039, (.int (65039) 310)), (173, (.int (173) 279)), (847, (.int (847) 280)), (8288, (.int (8288) 288)), (65279, (.int (65279) 289))]) 29 ⟨127, List.toArray [0, 1, 2, 3, 4, 5, 6, 7, 8, 9, 10, 11, 12, 13, 14, 15, 16, 17, 18, 19, 20, 21, 22, 45, 79, 96, 127], List.toArray [], 0, !(P.followText "set-order"), 2, true⟩, List.toArray []⟩
noncomputable def q83_7 (P : Params) : Obj := ⟨(.type "list_iterator"), none, .fields (List.toArray [.none, (.int (27) 0)]), List.toArray []⟩
noncomputable def q84_7 (P : Params) : Obj := ⟨(.type "tuple"), none, .seq (List.toArray []) 0, List.toArray []⟩
noncomputable def q85_7 (P : Params) : Obj := ⟨(.type "StopIteration"), none, .fields (List.toArray [(.ref 84), .none, .none, .none, (.bool false), .none]), List.toArray []⟩
noncomputable def tr7 (P : Params) : BT := (.node (PySem.W.boot_o_0 P) (.node (PySem.W.boot_o_1 P) (.node (q3_7 P) (.node (PySem.W.boot_o_7 P) (.node (q15_2 P) (.node (q31_2 P) (.node (q63_4 P) .nil .nil) .nil) (.node (q47_2 P) (.node (q79_7 P) .nil .nil) .nil)) (.node (q23_2 P) (.node (q39_2 P) (.node (q71_5 P) .nil .nil) .nil) (.node (q55_2 P) .nil .nil))) (.node (q11_0 P) (.node (q19_2 P) (.node (q35_2 P) (.node (q67_5 P) .nil .nil) .nil) (.node (q51_2 P) (.node (q83_7 P) .nil .nil) .nil)) (.node (q27_2 P) (.node (q43_2 P) (.node (q75_7 P) .nil .nil) .nil) (.node (q59_4 P) .nil .nil)))) (.node (PySem.W.boot_o_5 P) (.node (PySem.W.boot_o_9 P) (.node (q17_2 P) (.node (q33_2 P) (.node (q65_4 P) .nil .nil) .nil) (.node (q49_2 P) (.node (q81_7 P) .nil .nil) .nil)) (.node (q25_2 P) (.node (q41_2 P) (.node (q73_5 P) .nil .nil) .nil) (.node (q57_4 P) .nil .nil))) (.node (q13_0 P) (.node (q21_2 P) (.node (q37_2 P) (.node (q69_5 P) .nil .nil) .nil) (.node (q53_2 P) (.node (q85_7 P) .nil .nil) .nil)) (.node (q29_2 P) (.node (q45_2 P) (.node (q77_7 P) .nil .nil) .nil) (.node (q61_4 P) .nil .nil))))) (.node (PySem.W.boot_o_2 P) (.node (PySem.W.boot_o_4 P) (.node (PySem.W.boot_o_8 P) (.node (q16_2 P) (.node (q32_2 P) (.node (q64_4 P) .nil .nil) .nil) (.node (q48_2 P) (.node (q80_7 P) .nil .nil) .nil)) (.node (q24_2 P) (.node (q40_2 P) (.node (q72_5 P) .nil .nil) .nil) (.node (q56_2 P) .nil .nil))) (.node (q12_5 P) (.node (q20_2 P) (.node (q36_2 P) (.node (q68_5 P) .nil .nil) .nil) (.node (q52_2 P) (.node (q84_7 P) .nil .nil) .nil)) (.node (q28_2 P) (.node (q44_2 P) (.node (q76_7 P) .nil .nil) .nil) (.node (q60_4 P) .nil .nil)))) (.node (PySem.W.boot_o_6 P) (.node (PySem.W.boot_o_10 P) (.node (q18_2 P) (.node (q34_2 P) (.node (q66_5 P) .nil .nil) .nil) (.node (q50_2 P) (.node (q82_7 P) .nil .nil) .nil)) (.node (q26_2 P) (.node (q42_2 P) (.node (q74_5 P) .nil .nil) .nil) (.node (q58_4 P) .nil .nil))) (.node (q14_0 P) (.node (q22_2 P) (.node (q38_2 P) (.node (q70_5 P) .nil .nil) .nil) (.node (q54_2 P) .nil .nil)) (.node (q30_2 P) (.node (q46_2 P) (.node (q78_7 P) .nil .nil) .nil) (.node (q62_4 P) .nil .nil))))))
-- piece 6: steps 998 objs 75 -> 86 toks 279 -> 339 pos ⟨86, 0, 86, 8⟩ -> ⟨87, 0, 87, 6⟩
noncomputable def q3_8 (P : Params) : Obj := ⟨(.type "dict"), none, .dict (List.toArray [⟨kh P (S [95, 95, 110, 97, 109, 101, 95, 95]), (.str (S [95, 95, 110, 97, 109, 101, 95, 95]) 165), (.str (S [99, 112, 121, 51, 49, 51, 46, 115, 116, 114, 105, 110, 103, 112, 114, 101, 112]) 277)⟩, ⟨kh P (S [95, 95, 100, 111, 99, 95, 95]), (.str (S [95, 95, 100, 111, 99, 95, 95]) 166), .none⟩, ⟨kh P (S [95, 95, 112, 97, 99, 107, 97, 103, 101, 95, 95]), (.str (S [95, 95, 112, 97, 99, 107, 97, 103, 101, 95, 95]) 167), .none⟩, ⟨kh P (S [95, 95, 108, 111, 97, 100, 101, 114, 95, 95]), (.str (S [95, 95, 108, 111, 97, 100, 101, 114, 95, 95]) 168), (.builtin "__main__.__loader__#opaque")⟩, ⟨kh P (S [95, 95, 115, 112, 101, 99, 95, 95]), (.str (S [95, 95, 115, 112, 101, 99, 95, 95]) 169), .none⟩, ⟨kh P (S [95, 95, 97, 110, 110, 111, 116, 97, 116, 105, 111, 110, 115, 95, 95]), (.str (S [95, 95, 97, 110, 110, 111, 116, 97, 116, 105, 111, 110, 115, 95, 95]) 170), (.ref 6)⟩, ⟨kh P (S [95, 95, 98, 117, 105, 108, 116, 105, 110, 115, 95, 95]), (.str (S [95, 95, 98, 117, 105, 108, 116, 105, 110, 115, 95, 95]) 171), (.ref 4)⟩, ⟨kh P (S [95, 95, 102, 105, 108, 101, 95, 95]), (.str (S [95, 95, 102, 105, 108, 101, 95, 95]) 173), (.str (S [47, 99, 108, 97, 105, 109, 47, 99, 117, 116, 46, 112, 121]) 172)⟩, ⟨kh P (S [95, 95, 99, 97, 99, 104, 101, 100, 95, 95]), (.str (S [95, 95, 99, 97, 99, 104, 101, 100, 95, 95]) 174), .none⟩, ⟨kh P (S [95, 110, 101, 116, 114, 99, 108, 101, 120]), (.str (S [95, 110, 101, 116, 114, 99, 108, 101, 120]) 246), (.ref 52)⟩, ⟨kh P (S [98, 105, 115, 101, 99, 116, 95, 114, 105, 103, 104, 116]), (.str (S [98, 105, 115, 101, 99, 116, 95, 114, 105, 103, 104, 116]) 262), (.ref 65)⟩, ⟨kh P (S [98, 105, 115, 101, 99, 116, 95, 108, 101, 102, 116]), (.str (S [98, 105, 115, 101, 99, 116, 95, 108, 101, 102, 116]) 276), (.ref 74)⟩, ⟨kh P (S [98, 49, 95, 115, 101, 116]), (.str (S [98, 49, 95, 115, 101, 116]) 338), (.ref 82)⟩, ⟨kh P (S [105, 110, 95, 116, 97, 98, 108, 101, 95, 98, 49]), (.str (S [105, 110, 95, 116, 97, 98, 108, 101, 95, 98, 49]) 345), (.ref 92)⟩]) 14, List.toArray []⟩
noncomputable def q12_8 (P : Params) : Obj := ⟨.none, none, .fields (List.toArray [(.int (2) 0), (.int (0) 0), (.ref 20), (.int (46) 0), (.int (0) 0), (.ref 64), (.int (66) 0), (.int (0) 0), (.ref 73), (.int (88) 0), (.int (0) 0), (.ref 91)]), List.toArray []⟩
noncomputable def q86_8 (P : Params) : Obj := ⟨(.type "tuple"), none, .seq (List.toArray []) 0, List.toArray []⟩
noncomputable def q87_8 (P : Params) : Obj := ⟨.none, none, .fields (List.toArray []), List.toArray []⟩
noncomputable def q88_8 (P : Params) : Obj := ⟨(.type "tuple"), none, .seq (List.toArray [(.str (S [99, 111, 100, 101]) 342)]) 0, List.toArray []⟩
noncomputable def q89_8 (P : Params) : Obj := ⟨(.type "tuple"), none, .seq (List.toArray []) 0, List.toArray []⟩
noncomputable def q90_8 (P : Params) : Obj := ⟨.none, none, .func (fnD (stm 7) (S [105, 110, 95, 116, 97, 98, 108, 101, 95, 98, 49]) (S [105, 110, 95, 116, 97, 98, 108, 101, 95, 98, 49]) 0 [] .none .none .none .none none .none .none 0), List.toArray []⟩
noncomputable def q91_8 (P : Params) : Obj := ⟨(.type "code"), none, .fields (List.toArray [(.str (S [105, 110, 95, 116, 97, 98, 108, 101, 95, 98, 49]) 339), (.str (S [105, 110, 95, 116, 97, 98, 108, 101, 95, 98, 49]) 340), (.str (S [47, 99, 108, 97, 105, 109, 47, 99, 117, 116, 46, 112, 121]) 341), (.int (88) 0), (.int (1) 0), (.int (0) 0), (.int (0) 0), (.int (3) 0), (.ref 86), (.bool true), (.int (181) 0), (.ref 87), .none, (.ref 88), (.ref 89), (.ref 90), (.int (343) 0), (.int (88) 0), (.str (S [47, 99, 108, 97, 105, 109, 47, 99, 117, 116, 46, 112, 121]) 344)]), List.toArray []⟩
noncomputable def q92_8 (P : Params) : Obj := ⟨(.type "function"), none, .func (fnD (stm 7) (S [105, 110, 95, 116, 97, 98, 108, 101, 95, 98, 49]) (S [105, 110, 95, 116, 97, 98, 108, 101, 95, 98, 49]) 3 [] .none .none .none (.str (S [99, 112, 121, 51, 49, 51, 46, 115, 116, 114, 105, 110, 103, 112, 114, 101, 112]) 277) none (.ref 91) .none 0), List.toArray []⟩
noncomputable def tr8 (P : Params) : BT := (.node (PySem.W.boot_o_0 P) (.node (PySem.W.boot_o_1 P) (.node (q3_8 P) (.node (PySem.W.boot_o_7 P) (.node (q15_2 P) (.node (q31_2 P) (.node (q63_4 P) .nil .nil) .nil) (.node (q47_2 P) (.node (q79_7 P) .nil .nil) .nil)) (.node (q23_2 P) (.node (q39_2 P) (.node (q71_5 P) .nil .nil) .nil) (.node (q55_2 P) (.node (q87_8 P) .nil .nil) .nil))) (.node (q11_0 P) (.node (q19_2 P) (.node (q35_2 P) (.node (q67_5 P) .nil .nil) .nil) (.node (q51_2 P) (.node (q83_7 P) .nil .nil) .nil)) (.node (q27_2 P) (.node (q43_2 P) (.node (q75_7 P) .nil .nil) .nil) (.node (q59_4 P) (.node (q91_8 P) .nil .nil) .nil)))) (.node (PySem.W.boot_o_5 P) (.node (PySem.W.boot_o_9 P) (.node (q17_2 P) (.node (q33_2 P) (.node (q65_4 P) .nil .nil) .nil) (.node (q49_2 P) (.node (q81_7 P) .nil .nil) .nil)) (.node (q25_2 P) (.node (q41_2 P) (.node (q73_5 P) .nil .nil) .nil) (.node (q57_4 P) (.node (q89_8 P) .nil .nil) .nil))) (.node (q13_0 P) (.node (q21_2 P) (.node (q37_2 P) (.node (q69_5 P) .nil .nil) .nil) (.node (q53_2 P) (.node (q85_7 P) .nil .nil) .nil)) (.node (q29_2 P) (.node (q45_2 P) (.node (q77_7 P) .nil .nil) .nil) (.node (q61_4 P) .nil .nil))))) (.node (PySem.W.boot_o_2 P) (.node (PySem.W.boot_o_4 P) (.node (PySem.W.boot_o_8 P) (.node (q16_2 P) (.node (q32_2 P) (.node (q64_4 P) .nil .nil) .nil) (.node (q48_2 P) (.node (q80_7 P) .nil .nil) .nil)) (.node (q24_2 P) (.node (q40_2 P) (.node (q72_5 P) .nil .nil) .nil) (.node (q56_2 P) (.node (q88_8 P) .nil .nil) .nil))) (.node (q12_8 P) (.node (q20_2 P) (.node (q36_2 P) (.node (q68_5 P) .nil .nil) .nil) (.node (q52_2 P) (.node (q84_7 P) .nil .nil) .nil)) (.node (q28_2 P) (.node (q44_2 P) (.node (q76_7 P) .nil .nil) .nil) (.node (q60_4 P) (.node (q92_8 P) .nil .nil) .nil)))) (.node (PySem.W.boot_o_6 P) (.node (PySem.W.boot_o_10 P) (.node (q18_2 P) (.node (q34_2 P) (.node (q66_5 P) .nil .nil) .nil) (.node (q50_2 P) (.node (q82_7 P) .nil .nil) .nil)) (.node (q26_2 P) (.node (q42_2 P) (.node (q74_5 P) .nil .nil) .nil) (.node (q58_4 P) (.node (q90_8 P) .nil .nil) .nil))) (.node (q14_0 P) (.node (q22_2 P) (.node (q38_2 P) (.node (q70_5 P) .nil .nil) .nil) (.node (q54_2 P) (.node (q86_8 P) .nil .nil) .nil)) (.node (q30_2 P) (.node (q46_2 P) (.node (q78_7 P) .nil .nil) .nil) (.node (q62_4 P) .nil .nil))))))
-- piece 7: steps 29 objs 86 -> 93 toks 339 -> 346 pos ⟨87, 0, 87, 6⟩ -> ⟨88, 0, 89, 30⟩
noncomputable def q3_9 (P : Params) : Obj := ⟨(.type "dict"), none, .dict (List.toArray [⟨kh P (S [95, 95, 110, 97, 109, 101, 95, 95]), (.str (S [95, 95, 110, 97, 109, 101, 95, 95]) 165), (.str (S [99, 112, 121, 51, 49, 51, 46, 115, 116, 114, 105, 110, 103, 112, 114, 101, 112]) 277)⟩, ⟨kh P (S [95, 95, 100, 111, 99, 95, 95]), (.str (S [95, 95, 100, 111, 99, 95, 95]) 166), .none⟩, ⟨kh P (S [95, 95, 112, 97, 99, 107, 97, 103, 101, 95, 95]), (.str (S [95, 95, 112, 97, 99, 107, 97, 103, 101, 95, 95]) 167), .none⟩, ⟨kh P (S [95, 95, 108, 111, 97, 100, 101, 114, 95, 95]), (.str (S [95, 95, 108, 111, 97, 100, 101, 114, 95, 95]) 168), (.builtin "__main__.__loader__#opaque")⟩, ⟨kh P (S [95, 95, 115, 112, 101, 99, 95, 95]), (.str (S [95, 95, 115, 112, 101, 99, 95, 95]) 169), .none⟩, ⟨kh P (S [95, 95, 97, 110, 110, 111, 116, 97, 116, 105, 111, 110, 115, 95, 95]), (.str (S [95, 95, 97, 110, 110, 111, 116, 97, 116, 105, 111, 110, 115, 95, 95]) 170), (.ref 6)⟩, ⟨kh P (S [95, 95, 98, 117, 105, 108, 116, 105, 110, 115, 95, 95]), (.str (S [95, 95, 98, 117, 105, 108, 116, 105, 110, 115, 95, 95]) 171), (.ref 4)⟩, ⟨kh P (S [95, 95, 102, 105, 108, 101, 95, 95]), (.str (S [95, 95, 102, 105, 108, 101, 95, 95]) 173), (.str (S [47, 99, 108, 97, 105, 109, 47, 99, 117, 116, 46, 112, 121]) 172)⟩, ⟨kh P (S [95, 95, 99, 97, 99, 104, 101, 100, 95, 95]), (.str (S [95, 95, 99, 97, 99, 104, 101, 100, 95, 95]) 174), .none⟩, ⟨kh P (S [95, 110, 101, 116, 114, 99, 108, 101, 120]), (.str (S [95, 110, 101, 116, 114, 99, 108, 101, 120]) 246), (.ref 52)⟩, ⟨kh P (S [98, 105, 115, 101, 99, 116, 95, 114, 105, 103, 104, 116]), (.str (S [98, 105, 115, 101, 99, 116, 95, 114, 105, 103, 104, 116]) 262), (.ref 65)⟩, ⟨kh P (S [98, 105, 115, 101, 99, 116, 95, 108, 101, 102, 116]), (.str (S [98, 105, 115, 101, 99, 116, 95, 108, 101, 102, 116]) 276), (.ref 74)⟩, ⟨kh P (S [98, 49, 95, 115, 101, 116]), (.str (S [98, 49, 95, 115, 101, 116]) 338), (.ref 82)⟩, ⟨kh P (S [105, 110, 95, 116, 97, 98, 108, 101, 95, 98, 49]), (.str (S [105, 110, 95, 116, 97, 98, 108, 101, 95, 98, 49]) 345), (.ref 92)⟩, ⟨kh P (S [98, 51, 95, 101, 120, 99, 101, 112, 116, 105, 111, 110, 115]), (.str (S [98, 51, 95, 101, 120, 99, 101, 112, 116, 105, 111, 110, 115]) 2296), (.ref 93)⟩]) 15, List.toArray []⟩
noncomputable def q93_9 (P : Params) : Obj := dictOf (ents 346 c8 ++ entsAll 397 cs8 ++ ents2 2284 last8) 650
noncomputable def q94_9 (P : Params) : Obj := (subsAll 397 cs8).getD 0 default
noncomputable def q95_9 (P : Params) : Obj := (subsAll 397 cs8).getD 1 default
noncomputable def q96_9 (P : Params) : Obj := (subsAll 397 cs8).getD 2 default
noncomputable def q97_9 (P : Params) : Obj := (subsAll 397 cs8).getD 3 default
noncomputable def q98_9 (P : Params) : Obj := (subsAll 397 cs8).getD 4 default
noncomputable def q99_9 (P : Params) : Obj := (subsAll 397 cs8).getD 5 default
noncomputable def q100_9 (P : Params) : Obj := (subsAll 397 cs8).getD 6 default
noncomputable def q101_9 (P : Params) : Obj := (subsAll 397 cs8).getD 7 default
noncomputable def q102_9 (P : Params) : Obj := (subsAll 397 cs8).getD 8 default
noncomputable def q103_9 (P : Params) : Obj := (subsAll 397 cs8).getD 9 default
noncomputable def q104_9 (P : Params) : Obj := (subsAll 397 cs8).getD 10 default
noncomputable def q105_9 (P : Params) : Obj := (subsAll 397 cs8).getD 11 default
noncomputable def q106_9 (P : Params) : Obj := (subsAll 397 cs8).getD 12 default
noncomputable def q107_9 (P : Params) : Obj := (subsAll 397 cs8).getD 13 default
noncomputable def q108_9 (P : Params) : Obj := (subsAll 397 cs8).getD 14 default
noncomputable def q109_9 (P : Params) : Obj := (subsAll 397 cs8).getD 15 default
noncomputable def q110_9 (P : Params) : Obj := (subsAll 397 cs8).getD 16 default
noncomputable def q111_9 (P : Params) : Obj := (subsAll 397 cs8).getD 17 default
noncomputable def q112_9 (P : Params) : Obj := (subsAll 397 cs8).getD 18 default
noncomputable def q113_9 (P : Params) : Obj := (subsAll 397 cs8).getD 19 default
noncomputable def q114_9 (P : Params) : Obj := (subsAll 397 cs8).getD 20 default
noncomputable def q115_9 (P : Params) : Obj := (subsAll 397 cs8).getD 21 default
noncomputable def q116_9 (P : Params) : Obj := (subsAll 397 cs8).getD 22 default
noncomputable def q117_9 (P : Params) : Obj := (subsAll 397 cs8).getD 23 default
noncomputable def q118_9 (P : Params) : Obj := (subsAll 397 cs8).getD 24 default
noncomputable def q119_9 (P : Params) : Obj := (subsAll 397 cs8).getD 25 default
noncomputable def q120_9 (P : Params) : Obj := (subsAll 397 cs8).getD 26 default
noncomputable def q121_9 (P : Params) : Obj := (subsAll 397 cs8).getD 27 default
noncomputable def q122_9 (P : Params) : Obj := (subsAll 397 cs8).getD 28 default
noncomputable def q123_9 (P : Params) : Obj := (subsAll 397 cs8).getD 29 default
noncomputable def q124_9 (P : Params) : Obj := (subsAll 397 cs8).getD 30 default
noncomputable def q125_9 (P : Params) : Obj := (subsAll 397 cs8).getD 31 default
noncomputable def q126_9 (P : Params) : Obj := (subsAll 397 cs8).getD 32 default
noncomputable def q127_9 (P : Params) : Obj := (subsAll 397 cs8).getD 33 default
noncomputable def q128_9 (P : Params) : Obj := (subsAll 397 cs8).getD 34 default
noncomputable def q129_9 (P : Params) : Obj := (subsAll 397 cs8).getD 35 default
noncomputable def q130_9 (P : Params) : Obj := (subsAll 397 cs8).getD 36 default
noncomputable def q131_9 (P : Params) : Obj := dictOf (ents2 2284 last8) 4
noncomputable def tr9 (P : Params) : BT := (.node (PySem.W.boot_o_0 P) (.node (PySem.W.boot_o_1 P) (.node (q3_9 P) (.node (PySem.W.boot_o_7 P) (.node (q15_2 P) (.node (q31_2 P) (.node (q63_4 P) (.node (q127_9 P) .nil .nil) .nil) (.node (q95_9 P) .nil .nil)) (.node (q47_2 P) (.node (q79_7 P) .nil .nil) (.node (q111_9 P) .nil .nil))) (.node (q23_2 P) (.node (q39_2 P) (.node (q71_5 P) .nil .nil) (.node (q103_9 P) .nil .nil)) (.node (q55_2 P) (.node (q87_8 P) .nil .nil) (.node (q119_9 P) .nil .nil)))) (.node (q11_0 P) (.node (q19_2 P) (.node (q35_2 P) (.node (q67_5 P) (.node (q131_9 P) .nil .nil) .nil) (.node (q99_9 P) .nil .nil)) (.node (q51_2 P) (.node (q83_7 P) .nil .nil) (.node (q115_9 P) .nil .nil))) (.node (q27_2 P) (.node (q43_2 P) (.node (q75_7 P) .nil .nil) (.node (q107_9 P) .nil .nil)) (.node (q59_4 P) (.node (q91_8 P) .nil .nil) (.node (q123_9 P) .nil .nil))))) (.node (PySem.W.boot_o_5 P) (.node (PySem.W.boot_o_9 P) (.node (q17_2 P) (.node (q33_2 P) (.node (q65_4 P) (.node (q129_9 P) .nil .nil) .nil) (.node (q97_9 P) .nil .nil)) (.node (q49_2 P) (.node (q81_7 P) .nil .nil) (.node (q113_9 P) .nil .nil))) (.node (q25_2 P) (.node (q41_2 P) (.node (q73_5 P) .nil .nil) (.node (q105_9 P) .nil .nil)) (.node (q57_4 P) (.node (q89_8 P) .nil .nil) (.node (q121_9 P) .nil .nil)))) (.node (q13_0 P) (.node (q21_2 P) (.node (q37_2 P) (.node (q69_5 P) .nil .nil) (.node (q101_9 P) .nil .nil)) (.node (q53_2 P) (.node (q85_7 P) .nil .nil) (.node (q117_9 P) .nil .nil))) (.node (q29_2 P) (.node (q45_2 P) (.node (q77_7 P) .nil .nil) (.node (q109_9 P) .nil .nil)) (.node (q61_4 P) (.node (q93_9 P) .nil .nil) (.node (q125_9 P) .nil .nil)))))) (.node (PySem.W.boot_o_2 P) (.node (PySem.W.boot_o_4 P) (.node (PySem.W.boot_o_8 P) (.node (q16_2 P) (.node (q32_2 P) (.node (q64_4 P) (.node (q128_9 P) .nil .nil) .nil) (.node (q96_9 P) .nil .nil)) (.node (q48_2 P) (.node (q80_7 P) .nil .nil) (.node (q112_9 P) .nil .nil))) (.node (q24_2 P) (.node (q40_2 P) (.node (q72_5 P) .nil .nil) (.node (q104_9 P) .nil .nil)) (.node (q56_2 P) (.node (q88_8 P) .nil .nil) (.node (q120_9 P) .nil .nil)))) (.node (q12_8 P) (.node (q20_2 P) (.node (q36_2 P) (.node (q68_5 P) .nil .nil) (.node (q100_9 P) .nil .nil)) (.node (q52_2 P) (.node (q84_7 P) .nil .nil) (.node (q116_9 P) .nil .nil))) (.node (q28_2 P) (.node (q44_2 P) (.node (q76_7 P) .nil .nil) (.node (q108_9 P) .nil .nil)) (.node (q60_4 P) (.node (q92_8 P) .nil .nil) (.node (q124_9 P) .nil .nil))))) (.node (PySem.W.boot_o_6 P) (.node (PySem.W.boot_o_10 P) (.node (q18_2 P) (.node (q34_2 P) (.node (q66_5 P) (.node (q130_9 P) .nil .nil) .nil) (.node (q98_9 P) .nil .nil)) (.node (q50_2 P) (.node (q82_7 P) .nil .nil) (.node (q114_9 P) .nil .nil))) (.node (q26_2 P) (.node (q42_2 P) (.node (q74_5 P) .nil .nil) (.node (q106_9 P) .nil .nil)) (.node (q58_4 P) (.node (q90_8 P) .nil .nil) (.node (q122_9 P) .nil .nil)))) (.node (q14_0 P) (.node (q22_2 P) (.node (q38_2 P) (.node (q70_5 P) .nil .nil) (.node (q102_9 P) .nil .nil)) (.node (q54_2 P) (.node (q86_8 P) .nil .nil) (.node (q118_9 P) .nil .nil))) (.node (q30_2 P) (.node (q46_2 P) (.node (q78_7 P) .nil .nil) (.node (q110_9 P) .nil .nil)) (.node (q62_4 P) (.node (q94_9 P) .nil .nil) (.node (q126_9 P) .nil .nil)))))))
-- piece 8: steps 12524 objs 93 -> 132 toks 346 -> 2297 pos ⟨88, 0, 89, 30⟩ -> ⟨90, 0, 90, 13⟩
noncomputable def q3_10 (P : Params) : Obj := ⟨(.type "dict"), none, .dict (List.toArray [⟨kh P (S [95, 95, 110, 97, 109, 101, 95, 95]), (.str (S [95, 95, 110, 97, 109, 101, 95, 95]) 165), (.str (S [99, 112, 121, 51, 49, 51, 46, 115, 116, 114, 105, 110, 103, 112, 114, 101, 112]) 277)⟩, ⟨kh P (S [95, 95, 100, 111, 99, 95, 95]), (.str (S [95, 95, 100, 111, 99, 95, 95]) 166), .none⟩, ⟨kh P (S [95, 95, 112, 97, 99, 107, 97, 103, 101, 95, 95]), (.str (S [95, 95, 112, 97, 99, 107, 97, 103, 101, 95, 95]) 167), .none⟩, ⟨kh P (S [95, 95, 108, 111, 97, 100, 101, 114, 95, 95]), (.str (S [95, 95, 108, 111, 97, 100, 101, 114, 95, 95]) 168), (.builtin "__main__.__loader__#opaque")⟩, ⟨kh P (S [95, 95, 115, 112, 101, 99, 95, 95]), (.str (S [95, 95, 115, 112, 101, 99, 95, 95]) 169), .none⟩, ⟨kh P (S [95, 95, 97, 110, 110, 111, 116, 97, 116, 105, 111, 110, 115, 95, 95]), (.str (S [95, 95, 97, 110, 110, 111, 116, 97, 116, 105, 111, 110, 115, 95, 95]) 170), (.ref 6)⟩, ⟨kh P (S [95, 95, 98, 117, 105, 108, 116, 105, 110, 115, 95, 95]), (.str (S [95, 95, 98, 117, 105, 108, 116, 105, 110, 115, 95, 95]) 171), (.ref 4)⟩, ⟨kh P (S [95, 95, 102, 105, 108, 101, 95, 95]), (.str (S [95, 95, 102, 105, 108, 101, 95, 95]) 173), (.str (S [47, 99, 108, 97, 105, 109, 47, 99, 117, 116, 46, 112, 121]) 172)⟩, ⟨kh P (S [95, 95, 99, 97, 99, 104, 101, 100, 95, 95]), (.str (S [95, 95, 99, 97, 99, 104, 101, 100, 95, 95]) 174), .none⟩, ⟨kh P (S [95, 110, 101, 116, 114, 99, 108, 101, 120]), (.str (S [95, 110, 101, 116, 114, 99, 108, 101, 120]) 246), (.ref 52)⟩, ⟨kh P (S [98, 105, 115, 101, 99, 116, 95, 114, 105, 103, 104, 116]), (.str (S [98, 105, 115, 101, 99, 116, 95, 114, 105, 103, 104, 116]) 262), (.ref 65)⟩, ⟨kh P (S [98, 105, 115, 101, 99, 116, 95, 108, 101, 102, 116]), (.str (S [98, 105, 115, 101, 99, 116, 95, 108, 101, 102, 116]) 276), (.ref 74)⟩, ⟨kh P (S [98, 49, 95, 115, 101, 116]), (.str (S [98, 49, 95, 115, 101, 116]) 338), (.ref 82)⟩, ⟨kh P (S [105, 110, 95, 116, 97, 98, 108, 101, 95, 98, 49]), (.str (S [105, 110, 95, 116, 97, 98, 108, 101, 95, 98, 49]) 345), (.ref 92)⟩, ⟨kh P (S [98, 51, 95, 101, 120, 99, 101, 112, 116, 105, 111, 110, 115]), (.str (S [98, 51, 95, 101, 120, 99, 101, 112, 116, 105, 111, 110, 115]) 2296), (.ref 93)⟩, ⟨kh P (S [109, 97, 112, 95, 116, 97, 98, 108, 101, 95, 98, 51]), (.str (S [109, 97, 112, 95, 116, 97, 98, 108, 101, 95, 98, 51]) 2304), (.ref 138)⟩]) 16, List.toArray []⟩
noncomputable def q12_10 (P : Params) : Obj := ⟨.none, none, .fields (List.toArray [(.int (2) 0), (.int (0) 0), (.ref 20), (.int (46) 0), (.int (0) 0), (.ref 64), (.int (66) 0), (.int (0) 0), (.ref 73), (.int (88) 0), (.int (0) 0), (.ref 91), (.int (91) 0), (.int (0) 0), (.ref 137)]), List.toArray []⟩
noncomputable def q132_10 (P : Params) : Obj := ⟨(.type "tuple"), none, .seq (List.toArray []) 0, List.toArray []⟩
noncomputable def q133_10 (P : Params) : Obj := ⟨.none, none, .fields (List.toArray []), List.toArray []⟩
noncomputable def q134_10 (P : Params) : Obj := ⟨(.type "tuple"), none, .seq (List.toArray [(.str (S [99, 111, 100, 101]) 2300), (.str (S [114]) 2301)]) 0, List.toArray []⟩
noncomputable def q135_10 (P : Params) : Obj := ⟨(.type "tuple"), none, .seq (List.toArray []) 0, List.toArray []⟩
noncomputable def q136_10 (P : Params) : Obj := ⟨.none, none, .func (fnD (stm 9) (S [109, 97, 112, 95, 116, 97, 98, 108, 101, 95, 98, 51]) (S [109, 97, 112, 95, 116, 97, 98, 108, 101, 95, 98, 51]) 0 [] .none .none .none .none none .none .none 0), List.toArray []⟩
noncomputable def q137_10 (P : Params) : Obj := ⟨(.type "code"), none, .fields (List.toArray [(.str (S [109, 97, 112, 95, 116, 97, 98, 108, 101, 95, 98, 51]) 2297), (.str (S [109, 97, 112, 95, 116, 97, 98, 108, 101, 95, 98, 51]) 2298), (.str (S [47, 99, 108, 97, 105, 109, 47, 99, 117, 116, 46, 112, 121]) 2299), (.int (91) 0), (.int (1) 0), (.int (0) 0), (.int (0) 0), (.int (3) 0), (.ref 132), (.bool true), (.int (181) 0), (.ref 133), .none, (.ref 134), (.ref 135), (.ref 136), (.int (2302) 0), (.int (91) 0), (.str (S [47, 99, 108, 97, 105, 109, 47, 99, 117, 116, 46, 112, 121]) 2303)]), List.toArray []⟩
noncomputable def q138_10 (P : Params) : Obj := ⟨(.type "function"), none, .func (fnD (stm 9) (S [109, 97, 112, 95, 116, 97, 98, 108, 101, 95, 98, 51]) (S [109, 97, 112, 95, 116, 97, 98, 108, 101, 95, 98, 51]) 3 [] .none .none .none (.str (S [99, 112, 121, 51, 49, 51, 46, 115, 116, 114, 105, 110, 103, 112, 114, 101, 112]) 277) none (.ref 137) .none 0), List.toArray []⟩
noncomputable def tr10 (P : Params) : BT := (.node (PySem.W.boot_o_0 P) (.node (PySem.W.boot_o_1 P) (.node (q3_10 P) (.node (PySem.W.boot_o_7 P) (.node (q15_2 P) (.node (q31_2 P) (.node (q63_4 P) (.node (q127_9 P) .nil .nil) .nil) (.node (q95_9 P) .nil .nil)) (.node (q47_2 P) (.node (q79_7 P) .nil .nil) (.node (q111_9 P) .nil .nil))) (.node (q23_2 P) (.node (q39_2 P) (.node (q71_5 P) (.node (q135_10 P) .nil .nil) .nil) (.node (q103_9 P) .nil .nil)) (.node (q55_2 P) (.node (q87_8 P) .nil .nil) (.node (q119_9 P) .nil .nil)))) (.node (q11_0 P) (.node (q19_2 P) (.node (q35_2 P) (.node (q67_5 P) (.node (q131_9 P) .nil .nil) .nil) (.node (q99_9 P) .nil .nil)) (.node (q51_2 P) (.node (q83_7 P) .nil .nil) (.node (q115_9 P) .nil .nil))) (.node (q27_2 P) (.node (q43_2 P) (.node (q75_7 P) .nil .nil) (.node (q107_9 P) .nil .nil)) (.node (q59_4 P) (.node (q91_8 P) .nil .nil) (.node (q123_9 P) .nil .nil))))) (.node (PySem.W.boot_o_5 P) (.node (PySem.W.boot_o_9 P) (.node (q17_2 P) (.node (q33_2 P) (.node (q65_4 P) (.node (q129_9 P) .nil .nil) .nil) (.node (q97_9 P) .nil .nil)) (.node (q49_2 P) (.node (q81_7 P) .nil .nil) (.node (q113_9 P) .nil .nil))) (.node (q25_2 P) (.node (q41_2 P) (.node (q73_5 P) (.node (q137_10 P) .nil .nil) .nil) (.node (q105_9 P) .nil .nil)) (.node (q57_4 P) (.node (q89_8 P) .nil .nil) (.node (q121_9 P) .nil .nil)))) (.node (q13_0 P) (.node (q21_2 P) (.node (q37_2 P) (.node (q69_5 P) (.node (q133_10 P) .nil .nil) .nil) (.node (q101_9 P) .nil .nil)) (.node (q53_2 P) (.node (q85_7 P) .nil .nil) (.node (q117_9 P) .nil .nil))) (.node (q29_2 P) (.node (q45_2 P) (.node (q77_7 P) .nil .nil) (.node (q109_9 P) .nil .nil)) (.node (q61_4 P) (.node (q93_9 P) .nil .nil) (.node (q125_9 P) .nil .nil)))))) (.node (PySem.W.boot_o_2 P) (.node (PySem.W.boot_o_4 P) (.node (PySem.W.boot_o_8 P) (.node (q16_2 P) (.node (q32_2 P) (.node (q64_4 P) (.node (q128_9 P) .nil .nil) .nil) (.node (q96_9 P) .nil .nil)) (.node (q48_2 P) (.node (q80_7 P) .nil .nil) (.node (q112_9 P) .nil .nil))) (.node (q24_2 P) (.node (q40_2 P) (.node (q72_5 P) (.node (q136_10 P) .nil .nil) .nil) (.node (q104_9 P) .nil .nil)) (.node (q56_2 P) (.node (q88_8 P) .nil .nil) (.node (q120_9 P) .nil .nil)))) (.node (q12_10 P) (.node (q20_2 P) (.node (q36_2 P) (.node (q68_5 P) (.node (q132_10 P) .nil .nil) .nil) (.node (q100_9 P) .nil .nil)) (.node (q52_2 P) (.node (q84_7 P) .nil .nil) (.node (q116_9 P) .nil .nil))) (.node (q28_2 P) (.node (q44_2 P) (.node (q76_7 P) .nil .nil) (.node (q108_9 P) .nil .nil)) (.node (q60_4 P) (.node (q92_8 P) .nil .nil) (.node (q124_9 P) .nil .nil))))) (.node (PySem.W.boot_o_6 P) (.node (PySem.W.boot_o_10 P) (.node (q18_2 P) (.node (q34_2 P) (.node (q66_5 P) (.node (q130_9 P) .nil .nil) .nil) (.node (q98_9 P) .nil .nil)) (.node (q50_2 P) (.node (q82_7 P) .nil .nil) (.node (q114_9 P) .nil .nil))) (.node (q26_2 P) (.node (q42_2 P) (.node (q74_5 P) (.node (q138_10 P) .nil .nil) .nil) (.node (q106_9 P) .nil .nil)) (.node (q58_4 P) (.node (q90_8 P) .nil .nil) (.node (q122_9 P) .nil .nil)))) (.node (q14_0 P) (.node (q22_2 P) (.node (q38_2 P) (.node (q70_5 P) (.node (q134_10 P) .nil .nil) .nil) (.node (q102_9 P) .nil .nil)) (.node (q54_2 P) (.node (q86_8 P) .nil .nil) (.node (q118_9 P) .nil .nil))) (.node (q30_2 P) (.node (q46_2 P) (.node (q78_7 P) .nil .nil) (.node (q110_9 P) .nil .nil)) (.node (q62_4 P) (.node (q94_9 P) .nil .nil) (.node (q126_9 P) .nil .nil)))))))
-- piece 9: steps 30 objs 132 -> 139 toks 2297 -> 2305 pos ⟨90, 0, 90, 13⟩ -> ⟨91, 0, 95, 23⟩
noncomputable def q3_11 (P : Params) : Obj := ⟨(.type "dict"), none, .dict (List.toArray [⟨kh P (S [95, 95, 110, 97, 109, 101, 95, 95]), (.str (S [95, 95, 110, 97, 109, 101, 95, 95]) 165), (.str (S [108, 97, 119, 95, 114, 101, 48, 49, 52, 52, 95, 48, 49]) 2305)⟩, ⟨kh P (S [95, 95, 100, 111, 99, 95, 95]), (.str (S [95, 95, 100, 111, 99, 95, 95]) 166), .none⟩, ⟨kh P (S [95, 95, 112, 97, 99, 107, 97, 103, 101, 95, 95]), (.str (S [95, 95, 112, 97, 99, 107, 97, 103, 101, 95, 95]) 167), .none⟩, ⟨kh P (S [95, 95, 108, 111, 97, 100, 101, 114, 95, 95]), (.str (S [95, 95, 108, 111, 97, 100, 101, 114, 95, 95]) 168), (.builtin "__main__.__loader__#opaque")⟩, ⟨kh P (S [95, 95, 115, 112, 101, 99, 95, 95]), (.str (S [95, 95, 115, 112, 101, 99, 95, 95]) 169), .none⟩, ⟨kh P (S [95, 95, 97, 110, 110, 111, 116, 97, 116, 105, 111, 110, 115, 95, 95]), (.str (S [95, 95, 97, 110, 110, 111, 116, 97, 116, 105, 111, 110, 115, 95, 95]) 170), (.ref 6)⟩, ⟨kh P (S [95, 95, 98, 117, 105, 108, 116, 105, 110, 115, 95, 95]), (.str (S [95, 95, 98, 117, 105, 108, 116, 105, 110, 115, 95, 95]) 171), (.ref 4)⟩, ⟨kh P (S [95, 95, 102, 105, 108, 101, 95, 95]), (.str (S [95, 95, 102, 105, 108, 101, 95, 95]) 173), (.str (S [47, 99, 108, 97, 105, 109, 47, 99, 117, 116, 46, 112, 121]) 172)⟩, ⟨kh P (S [95, 95, 99, 97, 99, 104, 101, 100, 95, 95]), (.str (S [95, 95, 99, 97, 99, 104, 101, 100, 95, 95]) 174), .none⟩, ⟨kh P (S [95, 110, 101, 116, 114, 99, 108, 101, 120]), (.str (S [95, 110, 101, 116, 114, 99, 108, 101, 120]) 246), (.ref 52)⟩, ⟨kh P (S [98, 105, 115, 101, 99, 116, 95, 114, 105, 103, 104, 116]), (.str (S [98, 105, 115, 101, 99, 116, 95, 114, 105, 103, 104, 116]) 262), (.ref 65)⟩, ⟨kh P (S [98, 105, 115, 101, 99, 116, 95, 108, 101, 102, 116]), (.str (S [98, 105, 115, 101, 99, 116, 95, 108, 101, 102, 116]) 276), (.ref 74)⟩, ⟨kh P (S [98, 49, 95, 115, 101, 116]), (.str (S [98, 49, 95, 115, 101, 116]) 338), (.ref 82)⟩, ⟨kh P (S [105, 110, 95, 116, 97, 98, 108, 101, 95, 98, 49]), (.str (S [105, 110, 95, 116, 97, 98, 108, 101, 95, 98, 49]) 345), (.ref 92)⟩, ⟨kh P (S [98, 51, 95, 101, 120, 99, 101, 112, 116, 105, 111, 110, 115]), (.str (S [98, 51, 95, 101, 120, 99, 101, 112, 116, 105, 111, 110, 115]) 2296), (.ref 93)⟩, ⟨kh P (S [109, 97, 112, 95, 116, 97, 98, 108, 101, 95, 98, 51]), (.str (S [109, 97, 112, 95, 116, 97, 98, 108, 101, 95, 98, 51]) 2304), (.ref 138)⟩]) 16, List.toArray []⟩
noncomputable def tr11 (P : Params) : BT := (.node (PySem.W.boot_o_0 P) (.node (PySem.W.boot_o_1 P) (.node (q3_11 P) (.node (PySem.W.boot_o_7 P) (.node (q15_2 P) (.node (q31_2 P) (.node (q63_4 P) (.node (q127_9 P) .nil .nil) .nil) (.node (q95_9 P) .nil .nil)) (.node (q47_2 P) (.node (q79_7 P) .nil .nil) (.node (q111_9 P) .nil .nil))) (.node (q23_2 P) (.node (q39_2 P) (.node (q71_5 P) (.node (q135_10 P) .nil .nil) .nil) (.node (q103_9 P) .nil .nil)) (.node (q55_2 P) (.node (q87_8 P) .nil .nil) (.node (q119_9 P) .nil .nil)))) (.node (q11_0 P) (.node (q19_2 P) (.node (q35_2 P) (.node (q67_5 P) (.node (q131_9 P) .nil .nil) .nil) (.node (q99_9 P) .nil .nil)) (.node (q51_2 P) (.node (q83_7 P) .nil .nil) (.node (q115_9 P) .nil .nil))) (.node (q27_2 P) (.node (q43_2 P) (.node (q75_7 P) .nil .nil) (.node (q107_9 P) .nil .nil)) (.node (q59_4 P) (.node (q91_8 P) .nil .nil) (.node (q123_9 P) .nil .nil))))) (.node (PySem.W.boot_o_5 P) (.node (PySem.W.boot_o_9 P) (.node (q17_2 P) (.node (q33_2 P) (.node (q65_4 P) (.node (q129_9 P) .nil .nil) .nil) (.node (q97_9 P) .nil .nil)) (.node (q49_2 P) (.node (q81_7 P) .nil .nil) (.node (q113_9 P) .nil .nil))) (.node (q25_2 P) (.node (q41_2 P) (.node (q73_5 P) (.node (q137_10 P) .nil .nil) .nil) (.node (q105_9 P) .nil .nil)) (.node (q57_4 P) (.node (q89_8 P) .nil .nil) (.node (q121_9 P) .nil .nil)))) (.node (q13_0 P) (.node (q21_2 P) (.node (q37_2 P) (.node (q69_5 P) (.node (q133_10 P) .nil .nil) .nil) (.node (q101_9 P) .nil .nil)) (.node (q53_2 P) (.node (q85_7 P) .nil .nil) (.node (q117_9 P) .nil .nil))) (.node (q29_2 P) (.node (q45_2 P) (.node (q77_7 P) .nil .nil) (.node (q109_9 P) .nil .nil)) (.node (q61_4 P) (.node (q93_9 P) .nil .nil) (.node (q125_9 P) .nil .nil)))))) (.node (PySem.W.boot_o_2 P) (.node (PySem.W.boot_o_4 P) (.node (PySem.W.boot_o_8 P) (.node (q16_2 P) (.node (q32_2 P) (.node (q64_4 P) (.node (q128_9 P) .nil .nil) .nil) (.node (q96_9 P) .nil .nil)) (.node (q48_2 P) (.node (q80_7 P) .nil .nil) (.node (q112_9 P) .nil .nil))) (.node (q24_2 P) (.node (q40_2 P) (.node (q72_5 P) (.node (q136_10 P) .nil .nil) .nil) (.node (q104_9 P) .nil .nil)) (.node (q56_2 P) (.node (q88_8 P) .nil .nil) (.node (q120_9 P) .nil .nil)))) (.node (q12_10 P) (.node (q20_2 P) (.node (q36_2 P) (.node (q68_5 P) (.node (q132_10 P) .nil .nil) .nil) (.node (q100_9 P) .nil .nil)) (.node (q52_2 P) (.node (q84_7 P) .nil .nil) (.node (q116_9 P) .nil .nil))) (.node (q28_2 P) (.node (q44_2 P) (.node (q76_7 P) .nil .nil) (.node (q108_9 P) .nil .nil)) (.node (q60_4 P) (.node (q92_8 P) .nil .nil) (.node (q124_9 P) .nil .nil))))) (.node (PySem.W.boot_o_6 P) (.node (PySem.W.boot_o_10 P) (.node (q18_2 P) (.node (q34_2 P) (.node (q66_5 P) (.node (q130_9 P) .nil .nil) .nil) (.node (q98_9 P) .nil .nil)) (.node (q50_2 P) (.node (q82_7 P) .nil .nil) (.node (q114_9 P) .nil .nil))) (.node (q26_2 P) (.node (q42_2 P) (.node (q74_5 P) (.node (q138_10 P) .nil .nil) .nil) (.node (q106_9 P) .nil .nil)) (.node (q58_4 P) (.node (q90_8 P) .nil .nil) (.node (q122_9 P) .nil .nil)))) (.node (q14_0 P) (.node (q22_2 P) (.node (q38_2 P) (.node (q70_5 P) (.node (q134_10 P) .nil .nil) .nil) (.node (q102_9 P) .nil .nil)) (.node (q54_2 P) (.node (q86_8 P) .nil .nil) (.node (q118_9 P) .nil .nil))) (.node (q30_2 P) (.node (q46_2 P) (.node (q78_7 P) .nil .nil) (.node (q110_9 P) .nil .nil)) (.node (q62_4 P) (.node (q94_9 P) .nil .nil) (.node (q126_9 P) .nil .nil)))))))
-- piece 10: steps 9 objs 139 -> 139 toks 2305 -> 2307 pos ⟨91, 0, 95, 23⟩ -> ⟨96, 0, 96, 8⟩
noncomputable def q3_12 (P : Params) : Obj := ⟨(.type "dict"), none, .dict (List.toArray [⟨kh P (S [95, 95, 110, 97, 109, 101, 95, 95]), (.str (S [95, 95, 110, 97, 109, 101, 95, 95]) 165), (.str (S [108, 97, 119, 95, 114, 101, 48, 49, 52, 52, 95, 48, 49]) 2305)⟩, ⟨kh P (S [95, 95, 100, 111, 99, 95, 95]), (.str (S [95, 95, 100, 111, 99, 95, 95]) 166), .none⟩, ⟨kh P (S [95, 95, 112, 97, 99, 107, 97, 103, 101, 95, 95]), (.str (S [95, 95, 112, 97, 99, 107, 97, 103, 101, 95, 95]) 167), .none⟩, ⟨kh P (S [95, 95, 108, 111, 97, 100, 101, 114, 95, 95]), (.str (S [95, 95, 108, 111, 97, 100, 101, 114, 95, 95]) 168), (.builtin "__main__.__loader__#opaque")⟩, ⟨kh P (S [95, 95, 115, 112, 101, 99, 95, 95]), (.str (S [95, 95, 115, 112, 101, 99, 95, 95]) 169), .none⟩, ⟨kh P (S [95, 95, 97, 110, 110, 111, 116, 97, 116, 105, 111, 110, 115, 95, 95]), (.str (S [95, 95, 97, 110, 110, 111, 116, 97, 116, 105, 111, 110, 115, 95, 95]) 170), (.ref 6)⟩, ⟨kh P (S [95, 95, 98, 117, 105, 108, 116, 105, 110, 115, 95, 95]), (.str (S [95, 95, 98, 117, 105, 108, 116, 105, 110, 115, 95, 95]) 171), (.ref 4)⟩, ⟨kh P (S [95, 95, 102, 105, 108, 101, 95, 95]), (.str (S [95, 95, 102, 105, 108, 101, 95, 95]) 173), (.str (S [47, 99, 108, 97, 105, 109, 47, 99, 117, 116, 46, 112, 121]) 172)⟩, ⟨kh P (S [95, 95, 99, 97, 99, 104, 101, 100, 95, 95]), (.str (S [95, 95, 99, 97, 99, 104, 101, 100, 95, 95]) 174), .none⟩, ⟨kh P (S [95, 110, 101, 116, 114, 99, 108, 101, 120]), (.str (S [95, 110, 101, 116, 114, 99, 108, 101, 120]) 246), (.ref 52)⟩, ⟨kh P (S [98, 105, 115, 101, 99, 116, 95, 114, 105, 103, 104, 116]), (.str (S [98, 105, 115, 101, 99, 116, 95, 114, 105, 103, 104, 116]) 262), (.ref 65)⟩, ⟨kh P (S [98, 105, 115, 101, 99, 116, 95, 108, 101, 102, 116]), (.str (S [98, 105, 115, 101, 99, 116, 95, 108, 101, 102, 116]) 276), (.ref 74)⟩, ⟨kh P (S [98, 49, 95, 115, 101, 116]), (.str (S [98, 49, 95, 115, 101, 116]) 338), (.ref 82)⟩, ⟨kh P (S [105, 110, 95, 116, 97, 98, 108, 101, 95, 98, 49]), (.str (S [105, 110, 95, 116, 97, 98, 108, 101, 95, 98, 49]) 345), (.ref 92)⟩, ⟨kh P (S [98, 51, 95, 101, 120, 99, 101, 112, 116, 105, 111, 110, 115]), (.str (S [98, 51, 95, 101, 120, 99, 101, 112, 116, 105, 111, 110, 115]) 2296), (.ref 93)⟩, ⟨kh P (S [109, 97, 112, 95, 116, 97, 98, 108, 101, 95, 98, 51]), (.str (S [109, 97, 112, 95, 116, 97, 98, 108, 101, 95, 98, 51]) 2304), (.ref 138)⟩, ⟨kh P (S [95, 108, 97, 119, 95, 112, 105, 101, 99, 101]), (.str (S [95, 108, 97, 119, 95, 112, 105, 101, 99, 101]) 2318), (.ref 145)⟩]) 17, List.toArray []⟩
noncomputable def q12_12 (P : Params) : Obj := ⟨.none, none, .fields (List.toArray [(.int (2) 0), (.int (0) 0), (.ref 20), (.int (46) 0), (.int (0) 0), (.ref 64), (.int (66) 0), (.int (0) 0), (.ref 73), (.int (88) 0), (.int (0) 0), (.ref 91), (.int (91) 0), (.int (0) 0), (.ref 137), (.int (97) 0), (.int (0) 0), (.ref 144)]), List.toArray []⟩
noncomputable def q139_12 (P : Params) : Obj := ⟨(.type "tuple"), none, .seq (List.toArray []) 0, List.toArray []⟩
noncomputable def q140_12 (P : Params) : Obj := ⟨.none, none, .fields (List.toArray []), List.toArray []⟩
noncomputable def q141_12 (P : Params) : Obj := ⟨(.type "tuple"), none, .seq (List.toArray [(.str (S [118]) 2310), (.str (S [107, 105, 110, 100]) 2311), (.str (S [119, 104, 105, 99, 104]) 2312), (.str (S [104, 105, 100, 100, 101, 110]) 2313), (.str (S [99, 97, 112, 105, 116, 97, 108, 115]) 2314), (.str (S [115, 105, 103, 110]) 2315)]) 0, List.toArray []⟩
noncomputable def q142_12 (P : Params) : Obj := ⟨(.type "tuple"), none, .seq (List.toArray []) 0, List.toArray []⟩
noncomputable def q143_12 (P : Params) : Obj := ⟨.none, none, .func (fnD (stm 11) (S [95, 108, 97, 119, 95, 112, 105, 101, 99, 101]) (S [95, 108, 97, 119, 95, 112, 105, 101, 99, 101]) 0 [] .none .none .none .none none .none .none 0), List.toArray []⟩
noncomputable def q144_12 (P : Params) : Obj := ⟨(.type "code"), none, .fields (List.toArray [(.str (S [95, 108, 97, 119, 95, 112, 105, 101, 99, 101]) 2307), (.str (S [95, 108, 97, 119, 95, 112, 105, 101, 99, 101]) 2308), (.str (S [47, 99, 108, 97, 105, 109, 47, 99, 117, 116, 46, 112, 121]) 2309), (.int (97) 0), (.int (1) 0), (.int (0) 0), (.int (0) 0), (.int (3) 0), (.ref 139), (.bool true), (.int (181) 0), (.ref 140), .none, (.ref 141), (.ref 142), (.ref 143), (.int (2316) 0), (.int (97) 0), (.str (S [47, 99, 108, 97, 105, 109, 47, 99, 117, 116, 46, 112, 121]) 2317)]), List.toArray []⟩
noncomputable def q145_12 (P : Params) : Obj := ⟨(.type "function"), none, .func (fnD (stm 11) (S [95, 108, 97, 119, 95, 112, 105, 101, 99, 101]) (S [95, 108, 97, 119, 95, 112, 105, 101, 99, 101]) 3 [] .none .none .none (.str (S [108, 97, 119, 95, 114, 101, 48, 49, 52, 52, 95, 48, 49]) 2305) none (.ref 144) .none 0), List.toArray []⟩
noncomputable def tr12 (P : Params) : BT := (.node (PySem.W.boot_o_0 P) (.node (PySem.W.boot_o_1 P) (.node (q3_12 P) (.node (PySem.W.boot_o_7 P) (.node (q15_2 P) (.node (q31_2 P) (.node (q63_4 P) (.node (q127_9 P) .nil .nil) .nil) (.node (q95_9 P) .nil .nil)) (.node (q47_2 P) (.node (q79_7 P) (.node (q143_12 P) .nil .nil) .nil) (.node (q111_9 P) .nil .nil))) (.node (q23_2 P) (.node (q39_2 P) (.node (q71_5 P) (.node (q135_10 P) .nil .nil) .nil) (.node (q103_9 P) .nil .nil)) (.node (q55_2 P) (.node (q87_8 P) .nil .nil) (.node (q119_9 P) .nil .nil)))) (.node (q11_0 P) (.node (q19_2 P) (.node (q35_2 P) (.node (q67_5 P) (.node (q131_9 P) .nil .nil) .nil) (.node (q99_9 P) .nil .nil)) (.node (q51_2 P) (.node (q83_7 P) .nil .nil) (.node (q115_9 P) .nil .nil))) (.node (q27_2 P) (.node (q43_2 P) (.node (q75_7 P) (.node (q139_12 P) .nil .nil) .nil) (.node (q107_9 P) .nil .nil)) (.node (q59_4 P) (.node (q91_8 P) .nil .nil) (.node (q123_9 P) .nil .nil))))) (.node (PySem.W.boot_o_5 P) (.node (PySem.W.boot_o_9 P) (.node (q17_2 P) (.node (q33_2 P) (.node (q65_4 P) (.node (q129_9 P) .nil .nil) .nil) (.node (q97_9 P) .nil .nil)) (.node (q49_2 P) (.node (q81_7 P) (.node (q145_12 P) .nil .nil) .nil) (.node (q113_9 P) .nil .nil))) (.node (q25_2 P) (.node (q41_2 P) (.node (q73_5 P) (.node (q137_10 P) .nil .nil) .nil) (.node (q105_9 P) .nil .nil)) (.node (q57_4 P) (.node (q89_8 P) .nil .nil) (.node (q121_9 P) .nil .nil)))) (.node (q13_0 P) (.node (q21_2 P) (.node (q37_2 P) (.node (q69_5 P) (.node (q133_10 P) .nil .nil) .nil) (.node (q101_9 P) .nil .nil)) (.node (q53_2 P) (.node (q85_7 P) .nil .nil) (.node (q117_9 P) .nil .nil))) (.node (q29_2 P) (.node (q45_2 P) (.node (q77_7 P) (.node (q141_12 P) .nil .nil) .nil) (.node (q109_9 P) .nil .nil)) (.node (q61_4 P) (.node (q93_9 P) .nil .nil) (.node (q125_9 P) .nil .nil)))))) (.node (PySem.W.boot_o_2 P) (.node (PySem.W.boot_o_4 P) (.node (PySem.W.boot_o_8 P) (.node (q16_2 P) (.node (q32_2 P) (.node (q64_4 P) (.node (q128_9 P) .nil .nil) .nil) (.node (q96_9 P) .nil .nil)) (.node (q48_2 P) (.node (q80_7 P) (.node (q144_12 P) .nil .nil) .nil) (.node (q112_9 P) .nil .nil))) (.node (q24_2 P) (.node (q40_2 P) (.node (q72_5 P) (.node (q136_10 P) .nil .nil) .nil) (.node (q104_9 P) .nil .nil)) (.node (q56_2 P) (.node (q88_8 P) .nil .nil) (.node (q120_9 P) .nil .nil)))) (.node (q12_12 P) (.node (q20_2 P) (.node (q36_2 P) (.node (q68_5 P) (.node (q132_10 P) .nil .nil) .nil) (.node (q100_9 P) .nil .nil)) (.node (q52_2 P) (.node (q84_7 P) .nil .nil) (.node (q116_9 P) .nil .nil))) (.node (q28_2 P) (.node (q44_2 P) (.node (q76_7 P) (.node (q140_12 P) .nil .nil) .nil) (.node (q108_9 P) .nil .nil)) (.node (q60_4 P) (.node (q92_8 P) .nil .nil) (.node (q124_9 P) .nil .nil))))) (.node (PySem.W.boot_o_6 P) (.node (PySem.W.boot_o_10 P) (.node (q18_2 P) (.node (q34_2 P) (.node (q66_5 P) (.node (q130_9 P) .nil .nil) .nil) (.node (q98_9 P) .nil .nil)) (.node (q50_2 P) (.node (q82_7 P) .nil .nil) (.node (q114_9 P) .nil .nil))) (.node (q26_2 P) (.node (q42_2 P) (.node (q74_5 P) (.node (q138_10 P) .nil .nil) .nil) (.node (q106_9 P) .nil .nil)) (.node (q58_4 P) (.node (q90_8 P) .nil .nil) (.node (q122_9 P) .nil .nil)))) (.node (q14_0 P) (.node (q22_2 P) (.node (q38_2 P) (.node (q70_5 P) (.node (q134_10 P) .nil .nil) .nil) (.node (q102_9 P) .nil .nil)) (.node (q54_2 P) (.node (q86_8 P) .nil .nil) (.node (q118_9 P) .nil .nil))) (.node (q30_2 P) (.node (q46_2 P) (.node (q78_7 P) (.node (q142_12 P) .nil .nil) .nil) (.node (q110_9 P) .nil .nil)) (.node (q62_4 P) (.node (q94_9 P) .nil .nil) (.node (q126_9 P) .nil .nil)))))))
-- piece 11: steps 34 objs 139 -> 146 toks 2307 -> 2319 pos ⟨96, 0, 96, 8⟩ -> ⟨97, 0, 119, 23⟩
noncomputable def q3_13 (P : Params) : Obj := ⟨(.type "dict"), none, .dict (List.toArray [⟨kh P (S [95, 95, 110, 97, 109, 101, 95, 95]), (.str (S [95, 95, 110, 97, 109, 101, 95, 95]) 165), (.str (S [108, 97, 119, 95, 114, 101, 48, 49, 52, 52, 95, 48, 49]) 2305)⟩, ⟨kh P (S [95, 95, 100, 111, 99, 95, 95]), (.str (S [95, 95, 100, 111, 99, 95, 95]) 166), .none⟩, ⟨kh P (S [95, 95, 112, 97, 99, 107, 97, 103, 101, 95, 95]), (.str (S [95, 95, 112, 97, 99, 107, 97, 103, 101, 95, 95]) 167), .none⟩, ⟨kh P (S [95, 95, 108, 111, 97, 100, 101, 114, 95, 95]), (.str (S [95, 95, 108, 111, 97, 100, 101, 114, 95, 95]) 168), (.builtin "__main__.__loader__#opaque")⟩, ⟨kh P (S [95, 95, 115, 112, 101, 99, 95, 95]), (.str (S [95, 95, 115, 112, 101, 99, 95, 95]) 169), .none⟩, ⟨kh P (S [95, 95, 97, 110, 110, 111, 116, 97, 116, 105, 111, 110, 115, 95, 95]), (.str (S [95, 95, 97, 110, 110, 111, 116, 97, 116, 105, 111, 110, 115, 95, 95]) 170), (.ref 6)⟩, ⟨kh P (S [95, 95, 98, 117, 105, 108, 116, 105, 110, 115, 95, 95]), (.str (S [95, 95, 98, 117, 105, 108, 116, 105, 110, 115, 95, 95]) 171), (.ref 4)⟩, ⟨kh P (S [95, 95, 102, 105, 108, 101, 95, 95]), (.str (S [95, 95, 102, 105, 108, 101, 95, 95]) 173), (.str (S [47, 99, 108, 97, 105, 109, 47, 99, 117, 116, 46, 112, 121]) 172)⟩, ⟨kh P (S [95, 95, 99, 97, 99, 104, 101, 100, 95, 95]), (.str (S [95, 95, 99, 97, 99, 104, 101, 100, 95, 95]) 174), .none⟩, ⟨kh P (S [95, 110, 101, 116, 114, 99, 108, 101, 120]), (.str (S [95, 110, 101, 116, 114, 99, 108, 101, 120]) 246), (.ref 52)⟩, ⟨kh P (S [98, 105, 115, 101, 99, 116, 95, 114, 105, 103, 104, 116]), (.str (S [98, 105, 115, 101, 99, 116, 95, 114, 105, 103, 104, 116]) 262), (.ref 65)⟩, ⟨kh P (S [98, 105, 115, 101, 99, 116, 95, 108, 101, 102, 116]), (.str (S [98, 105, 115, 101, 99, 116, 95, 108, 101, 102, 116]) 276), (.ref 74)⟩, ⟨kh P (S [98, 49, 95, 115, 101, 116]), (.str (S [98, 49, 95, 115, 101, 116]) 338), (.ref 82)⟩, ⟨kh P (S [105, 110, 95, 116, 97, 98, 108, 101, 95, 98, 49]), (.str (S [105, 110, 95, 116, 97, 98, 108, 101, 95, 98, 49]) 345), (.ref 92)⟩, ⟨kh P (S [98, 51, 95, 101, 120, 99, 101, 112, 116, 105, 111, 110, 115]), (.str (S [98, 51, 95, 101, 120, 99, 101, 112, 116, 105, 111, 110, 115]) 2296), (.ref 93)⟩, ⟨kh P (S [109, 97, 112, 95, 116, 97, 98, 108, 101, 95, 98, 51]), (.str (S [109, 97, 112, 95, 116, 97, 98, 108, 101, 95, 98, 51]) 2304), (.ref 138)⟩, ⟨kh P (S [95, 108, 97, 119, 95, 112, 105, 101, 99, 101]), (.str (S [95, 108, 97, 119, 95, 112, 105, 101, 99, 101]) 2318), (.ref 145)⟩, ⟨kh P (S [95, 108, 97, 119, 95, 115, 116, 114, 101, 97, 109]), (.str (S [95, 108, 97, 119, 95, 115, 116, 114, 101, 97, 109]) 2330), (.ref 152)⟩]) 18, List.toArray []⟩
noncomputable def q12_13 (P : Params) : Obj := ⟨.none, none, .fields (List.toArray [(.int (2) 0), (.int (0) 0), (.ref 20), (.int (46) 0), (.int (0) 0), (.ref 64), (.int (66) 0), (.int (0) 0), (.ref 73), (.int (88) 0), (.int (0) 0), (.ref 91), (.int (91) 0), (.int (0) 0), (.ref 137), (.int (97) 0), (.int (0) 0), (.ref 144), (.int (120) 0), (.int (0) 0), (.ref 151)]), List.toArray []⟩
noncomputable def q146_13 (P : Params) : Obj := ⟨(.type "tuple"), none, .seq (List.toArray []) 0, List.toArray []⟩
noncomputable def q147_13 (P : Params) : Obj := ⟨.none, none, .fields (List.toArray []), List.toArray []⟩
noncomputable def q148_13 (P : Params) : Obj := ⟨(.type "tuple"), none, .seq (List.toArray [(.str (S [116, 101, 120, 116]) 2322), (.str (S [114, 101, 97, 100]) 2323), (.str (S [115, 116, 114, 101, 97, 109]) 2324)]) 0, List.toArray []⟩
noncomputable def q149_13 (P : Params) : Obj := ⟨(.type "tuple"), none, .seq (List.toArray [(.str (S [116, 101, 120, 116]) 2325), (.str (S [114, 101, 97, 100, 121]) 2326), (.str (S [116, 97, 107, 101, 110]) 2327)]) 0, List.toArray []⟩
noncomputable def q150_13 (P : Params) : Obj := ⟨.none, none, .func (fnD (stm 12) (S [95, 108, 97, 119, 95, 115, 116, 114, 101, 97, 109]) (S [95, 108, 97, 119, 95, 115, 116, 114, 101, 97, 109]) 0 [] .none .none .none .none none .none .none 0), List.toArray []⟩
noncomputable def q151_13 (P : Params) : Obj := ⟨(.type "code"), none, .fields (List.toArray [(.str (S [95, 108, 97, 119, 95, 115, 116, 114, 101, 97, 109]) 2319), (.str (S [95, 108, 97, 119, 95, 115, 116, 114, 101, 97, 109]) 2320), (.str (S [47, 99, 108, 97, 105, 109, 47, 99, 117, 116, 46, 112, 121]) 2321), (.int (120) 0), (.int (1) 0), (.int (0) 0), (.int (0) 0), (.int (3) 0), (.ref 146), (.bool true), (.int (181) 0), (.ref 147), .none, (.ref 148), (.ref 149), (.ref 150), (.int (2328) 0), (.int (120) 0), (.str (S [47, 99, 108, 97, 105, 109, 47, 99, 117, 116, 46, 112, 121]) 2329)]), List.toArray []⟩
noncomputable def q152_13 (P : Params) : Obj := ⟨(.type "function"), none, .func (fnD (stm 12) (S [95, 108, 97, 119, 95, 115, 116, 114, 101, 97, 109]) (S [95, 108, 97, 119, 95, 115, 116, 114, 101, 97, 109]) 3 [] .none .none .none (.str (S [108, 97, 119, 95, 114, 101, 48, 49, 52, 52, 95, 48, 49]) 2305) none (.ref 151) .none 0), List.toArray []⟩
noncomputable def tr13 (P : Params) : BT := (.node (PySem.W.boot_o_0 P) (.node (PySem.W.boot_o_1 P) (.node (q3_13 P) (.node (PySem.W.boot_o_7 P) (.node (q15_2 P) (.node (q31_2 P) (.node (q63_4 P) (.node (q127_9 P) .nil .nil) .nil) (.node (q95_9 P) .nil .nil)) (.node (q47_2 P) (.node (q79_7 P) (.node (q143_12 P) .nil .nil) .nil) (.node (q111_9 P) .nil .nil))) (.node (q23_2 P) (.node (q39_2 P) (.node (q71_5 P) (.node (q135_10 P) .nil .nil) .nil) (.node (q103_9 P) .nil .nil)) (.node (q55_2 P) (.node (q87_8 P) (.node (q151_13 P) .nil .nil) .nil) (.node (q119_9 P) .nil .nil)))) (.node (q11_0 P) (.node (q19_2 P) (.node (q35_2 P) (.node (q67_5 P) (.node (q131_9 P) .nil .nil) .nil) (.node (q99_9 P) .nil .nil)) (.node (q51_2 P) (.node (q83_7 P) (.node (q147_13 P) .nil .nil) .nil) (.node (q115_9 P) .nil .nil))) (.node (q27_2 P) (.node (q43_2 P) (.node (q75_7 P) (.node (q139_12 P) .nil .nil) .nil) (.node (q107_9 P) .nil .nil)) (.node (q59_4 P) (.node (q91_8 P) .nil .nil) (.node (q123_9 P) .nil .nil))))) (.node (PySem.W.boot_o_5 P) (.node (PySem.W.boot_o_9 P) (.node (q17_2 P) (.node (q33_2 P) (.node (q65_4 P) (.node (q129_9 P) .nil .nil) .nil) (.node (q97_9 P) .nil .nil)) (.node (q49_2 P) (.node (q81_7 P) (.node (q145_12 P) .nil .nil) .nil) (.node (q113_9 P) .nil .nil))) (.node (q25_2 P) (.node (q41_2 P) (.node (q73_5 P) (.node (q137_10 P) .nil .nil) .nil) (.node (q105_9 P) .nil .nil)) (.node (q57_4 P) (.node (q89_8 P) .nil .nil) (.node (q121_9 P) .nil .nil)))) (.node (q13_0 P) (.node (q21_2 P) (.node (q37_2 P) (.node (q69_5 P) (.node (q133_10 P) .nil .nil) .nil) (.node (q101_9 P) .nil .nil)) (.node (q53_2 P) (.node (q85_7 P) (.node (q149_13 P) .nil .nil) .nil) (.node (q117_9 P) .nil .nil))) (.node (q29_2 P) (.node (q45_2 P) (.node (q77_7 P) (.node (q141_12 P) .nil .nil) .nil) (.node (q109_9 P) .nil .nil)) (.node (q61_4 P) (.node (q93_9 P) .nil .nil) (.node (q125_9 P) .nil .nil)))))) (.node (PySem.W.boot_o_2 P) (.node (PySem.W.boot_o_4 P) (.node (PySem.W.boot_o_8 P) (.node (q16_2 P) (.node (q32_2 P) (.node (q64_4 P) (.node (q128_9 P) .nil .nil) .nil) (.node (q96_9 P) .nil .nil)) (.node (q48_2 P) (.node (q80_7 P) (.node (q144_12 P) .nil .nil) .nil) (.node (q112_9 P) .nil .nil))) (.node (q24_2 P) (.node (q40_2 P) (.node (q72_5 P) (.node (q136_10 P) .nil .nil) .nil) (.node (q104_9 P) .nil .nil)) (.node (q56_2 P) (.node (q88_8 P) (.node (q152_13 P) .nil .nil) .nil) (.node (q120_9 P) .nil .nil)))) (.node (q12_13 P) (.node (q20_2 P) (.node (q36_2 P) (.node (q68_5 P) (.node (q132_10 P) .nil .nil) .nil) (.node (q100_9 P) .nil .nil)) (.node (q52_2 P) (.node (q84_7 P) (.node (q148_13 P) .nil .nil) .nil) (.node (q116_9 P) .nil .nil))) (.node (q28_2 P) (.node (q44_2 P) (.node (q76_7 P) (.node (q140_12 P) .nil .nil) .nil) (.node (q108_9 P) .nil .nil)) (.node (q60_4 P) (.node (q92_8 P) .nil .nil) (.node (q124_9 P) .nil .nil))))) (.node (PySem.W.boot_o_6 P) (.node (PySem.W.boot_o_10 P) (.node (q18_2 P) (.node (q34_2 P) (.node (q66_5 P) (.node (q130_9 P) .nil .nil) .nil) (.node (q98_9 P) .nil .nil)) (.node (q50_2 P) (.node (q82_7 P) (.node (q146_13 P) .nil .nil) .nil) (.node (q114_9 P) .nil .nil))) (.node (q26_2 P) (.node (q42_2 P) (.node (q74_5 P) (.node (q138_10 P) .nil .nil) .nil) (.node (q106_9 P) .nil .nil)) (.node (q58_4 P) (.node (q90_8 P) .nil .nil) (.node (q122_9 P) .nil .nil)))) (.node (q14_0 P) (.node (q22_2 P) (.node (q38_2 P) (.node (q70_5 P) (.node (q134_10 P) .nil .nil) .nil) (.node (q102_9 P) .nil .nil)) (.node (q54_2 P) (.node (q86_8 P) (.node (q150_13 P) .nil .nil) .nil) (.node (q118_9 P) .nil .nil))) (.node (q30_2 P) (.node (q46_2 P) (.node (q78_7 P) (.node (q142_12 P) .nil .nil) .nil) (.node (q110_9 P) .nil .nil)) (.node (q62_4 P) (.node (q94_9 P) .nil .nil) (.node (q126_9 P) .nil .nil)))))))
-- piece 12: steps 34 objs 146 -> 153 toks 2319 -> 2331 pos ⟨97, 0, 119, 23⟩ -> ⟨120, 0, 135, 26⟩
noncomputable def q3_14 (P : Params) : Obj := ⟨(.type "dict"), none, .dict (List.toArray [⟨kh P (S [95, 95, 110, 97, 109, 101, 95, 95]), (.str (S [95, 95, 110, 97, 109, 101, 95, 95]) 165), (.str (S [108, 97, 119, 95, 114, 101, 48, 49, 52, 52, 95, 48, 49]) 2305)⟩, ⟨kh P (S [95, 95, 100, 111, 99, 95, 95]), (.str (S [95, 95, 100, 111, 99, 95, 95]) 166), .none⟩, ⟨kh P (S [95, 95, 112, 97, 99, 107, 97, 103, 101, 95, 95]), (.str (S [95, 95, 112, 97, 99, 107, 97, 103, 101, 95, 95]) 167), .none⟩, ⟨kh P (S [95, 95, 108, 111, 97, 100, 101, 114, 95, 95]), (.str (S [95, 95, 108, 111, 97, 100, 101, 114, 95, 95]) 168), (.builtin "__main__.__loader__#opaque")⟩, ⟨kh P (S [95, 95, 115, 112, 101, 99, 95, 95]), (.str (S [95, 95, 115, 112, 101, 99, 95, 95]) 169), .none⟩, ⟨kh P (S [95, 95, 97, 110, 110, 111, 116, 97, 116, 105, 111, 110, 115, 95, 95]), (.str (S [95, 95, 97, 110, 110, 111, 116, 97, 116, 105, 111, 110, 115, 95, 95]) 170), (.ref 6)⟩, ⟨kh P (S [95, 95, 98, 117, 105, 108, 116, 105, 110, 115, 95, 95]), (.str (S [95, 95, 98, 117, 105, 108, 116, 105, 110, 115, 95, 95]) 171), (.ref 4)⟩, ⟨kh P (S [95, 95, 102, 105, 108, 101, 95, 95]), (.str (S [95, 95, 102, 105, 108, 101, 95, 95]) 173), (.str (S [47, 99, 108, 97, 105, 109, 47, 99, 117, 116, 46, 112, 121]) 172)⟩, ⟨kh P (S [95, 95, 99, 97, 99, 104, 101, 100, 95, 95]), (.str (S [95, 95, 99, 97, 99, 104, 101, 100, 95, 95]) 174), .none⟩, ⟨kh P (S [95, 110, 101, 116, 114, 99, 108, 101, 120]), (.str (S [95, 110, 101, 116, 114, 99, 108, 101, 120]) 246), (.ref 52)⟩, ⟨kh P (S [98, 105, 115, 101, 99, 116, 95, 114, 105, 103, 104, 116]), (.str (S [98, 105, 115, 101, 99, 116, 95, 114, 105, 103, 104, 116]) 262), (.ref 65)⟩, ⟨kh P (S [98, 105, 115, 101, 99, 116, 95, 108, 101, 102, 116]), (.str (S [98, 105, 115, 101, 99, 116, 95, 108, 101, 102, 116]) 276), (.ref 74)⟩, ⟨kh P (S [98, 49, 95, 115, 101, 116]), (.str (S [98, 49, 95, 115, 101, 116]) 338), (.ref 82)⟩, ⟨kh P (S [105, 110, 95, 116, 97, 98, 108, 101, 95, 98, 49]), (.str (S [105, 110, 95, 116, 97, 98, 108, 101, 95, 98, 49]) 345), (.ref 92)⟩, ⟨kh P (S [98, 51, 95, 101, 120, 99, 101, 112, 116, 105, 111, 110, 115]), (.str (S [98, 51, 95, 101, 120, 99, 101, 112, 116, 105, 111, 110, 115]) 2296), (.ref 93)⟩, ⟨kh P (S [109, 97, 112, 95, 116, 97, 98, 108, 101, 95, 98, 51]), (.str (S [109, 97, 112, 95, 116, 97, 98, 108, 101, 95, 98, 51]) 2304), (.ref 138)⟩, ⟨kh P (S [95, 108, 97, 119, 95, 112, 105, 101, 99, 101]), (.str (S [95, 108, 97, 119, 95, 112, 105, 101, 99, 101]) 2318), (.ref 145)⟩, ⟨kh P (S [95, 108, 97, 119, 95, 115, 116, 114, 101, 97, 109]), (.str (S [95, 108, 97, 119, 95, 115, 116, 114, 101, 97, 109]) 2330), (.ref 152)⟩, ⟨kh P (S [95, 108, 97, 119, 95, 119, 111, 114, 100, 115]), (.str (S [95, 108, 97, 119, 95, 119, 111, 114, 100, 115]) 2336), (.ref 157)⟩]) 19, List.toArray []⟩
noncomputable def q12_14 (P : Params) : Obj := ⟨.none, none, .fields (List.toArray [(.int (2) 0), (.int (0) 0), (.ref 20), (.int (46) 0), (.int (0) 0), (.ref 64), (.int (66) 0), (.int (0) 0), (.ref 73), (.int (88) 0), (.int (0) 0), (.ref 91), (.int (91) 0), (.int (0) 0), (.ref 137), (.int (97) 0), (.int (0) 0), (.ref 144), (.int (120) 0), (.int (0) 0), (.ref 151), (.int (136) 0), (.int (0) 0), (.ref 156)]), List.toArray []⟩
noncomputable def q153_14 (P : Params) : Obj := ⟨(.type "tuple"), none, .seq (List.toArray []) 0, List.toArray []⟩
noncomputable def q154_14 (P : Params) : Obj := ⟨.none, none, .fields (List.toArray []), List.toArray []⟩
noncomputable def q155_14 (P : Params) : Obj := ⟨.none, none, .func (fnD (stm 13) (S [95, 108, 97, 119, 95, 119, 111, 114, 100, 115]) (S [95, 108, 97, 119, 95, 119, 111, 114, 100, 115]) 0 [] .none .none .none .none none .none .none 0), List.toArray []⟩
noncomputable def q156_14 (P : Params) : Obj := ⟨(.type "code"), none, .fields (List.toArray [(.str (S [95, 108, 97, 119, 95, 119, 111, 114, 100, 115]) 2331), (.str (S [95, 108, 97, 119, 95, 119, 111, 114, 100, 115]) 2332), (.str (S [47, 99, 108, 97, 105, 109, 47, 99, 117, 116, 46, 112, 121]) 2333), (.int (136) 0), (.int (1) 0), (.int (0) 0), (.int (0) 0), (.int (3) 0), (.ref 153), (.bool true), (.int (181) 0), (.ref 154), .none, .none, .none, (.ref 155), (.int (2334) 0), (.int (136) 0), (.str (S [47, 99, 108, 97, 105, 109, 47, 99, 117, 116, 46, 112, 121]) 2335)]), List.toArray []⟩
noncomputable def q157_14 (P : Params) : Obj := ⟨(.type "function"), none, .func (fnD (stm 13) (S [95, 108, 97, 119, 95, 119, 111, 114, 100, 115]) (S [95, 108, 97, 119, 95, 119, 111, 114, 100, 115]) 3 [] .none .none .none (.str (S [108, 97, 119, 95, 114, 101, 48, 49, 52, 52, 95, 48, 49]) 2305) none (.ref 156) .none 0), List.toArray []⟩
noncomputable def tr14 (P : Params) : BT := (.node (PySem.W.boot_o_0 P) (.node (PySem.W.boot_o_1 P) (.node (q3_14 P) (.node (PySem.W.boot_o_7 P) (.node (q15_2 P) (.node (q31_2 P) (.node (q63_4 P) (.node (q127_9 P) .nil .nil) .nil) (.node (q95_9 P) .nil .nil)) (.node (q47_2 P) (.node (q79_7 P) (.node (q143_12 P) .nil .nil) .nil) (.node (q111_9 P) .nil .nil))) (.node (q23_2 P) (.node (q39_2 P) (.node (q71_5 P) (.node (q135_10 P) .nil .nil) .nil) (.node (q103_9 P) .nil .nil)) (.node (q55_2 P) (.node (q87_8 P) (.node (q151_13 P) .nil .nil) .nil) (.node (q119_9 P) .nil .nil)))) (.node (q11_0 P) (.node (q19_2 P) (.node (q35_2 P) (.node (q67_5 P) (.node (q131_9 P) .nil .nil) .nil) (.node (q99_9 P) .nil .nil)) (.node (q51_2 P) (.node (q83_7 P) (.node (q147_13 P) .nil .nil) .nil) (.node (q115_9 P) .nil .nil))) (.node (q27_2 P) (.node (q43_2 P) (.node (q75_7 P) (.node (q139_12 P) .nil .nil) .nil) (.node (q107_9 P) .nil .nil)) (.node (q59_4 P) (.node (q91_8 P) (.node (q155_14 P) .nil .nil) .nil) (.node (q123_9 P) .nil .nil))))) (.node (PySem.W.boot_o_5 P) (.node (PySem.W.boot_o_9 P) (.node (q17_2 P) (.node (q33_2 P) (.node (q65_4 P) (.node (q129_9 P) .nil .nil) .nil) (.node (q97_9 P) .nil .nil)) (.node (q49_2 P) (.node (q81_7 P) (.node (q145_12 P) .nil .nil) .nil) (.node (q113_9 P) .nil .nil))) (.node (q25_2 P) (.node (q41_2 P) (.node (q73_5 P) (.node (q137_10 P) .nil .nil) .nil) (.node (q105_9 P) .nil .nil)) (.node (q57_4 P) (.node (q89_8 P) (.node (q153_14 P) .nil .nil) .nil) (.node (q121_9 P) .nil .nil)))) (.node (q13_0 P) (.node (q21_2 P) (.node (q37_2 P) (.node (q69_5 P) (.node (q133_10 P) .nil .nil) .nil) (.node (q101_9 P) .nil .nil)) (.node (q53_2 P) (.node (q85_7 P) (.node (q149_13 P) .nil .nil) .nil) (.node (q117_9 P) .nil .nil))) (.node (q29_2 P) (.node (q45_2 P) (.node (q77_7 P) (.node (q141_12 P) .nil .nil) .nil) (.node (q109_9 P) .nil .nil)) (.node (q61_4 P) (.node (q93_9 P) (.node (q157_14 P) .nil .nil) .nil) (.node (q125_9 P) .nil .nil)))))) (.node (PySem.W.boot_o_2 P) (.node (PySem.W.boot_o_4 P) (.node (PySem.W.boot_o_8 P) (.node (q16_2 P) (.node (q32_2 P) (.node (q64_4 P) (.node (q128_9 P) .nil .nil) .nil) (.node (q96_9 P) .nil .nil)) (.node (q48_2 P) (.node (q80_7 P) (.node (q144_12 P) .nil .nil) .nil) (.node (q112_9 P) .nil .nil))) (.node (q24_2 P) (.node (q40_2 P) (.node (q72_5 P) (.node (q136_10 P) .nil .nil) .nil) (.node (q104_9 P) .nil .nil)) (.node (q56_2 P) (.node (q88_8 P) (.node (q152_13 P) .nil .nil) .nil) (.node (q120_9 P) .nil .nil)))) (.node (q12_14 P) (.node (q20_2 P) (.node (q36_2 P) (.node (q68_5 P) (.node (q132_10 P) .nil .nil) .nil) (.node (q100_9 P) .nil .nil)) (.node (q52_2 P) (.node (q84_7 P) (.node (q148_13 P) .nil .nil) .nil) (.node (q116_9 P) .nil .nil))) (.node (q28_2 P) (.node (q44_2 P) (.node (q76_7 P) (.node (q140_12 P) .nil .nil) .nil) (.node (q108_9 P) .nil .nil)) (.node (q60_4 P) (.node (q92_8 P) (.node (q156_14 P) .nil .nil) .nil) (.node (q124_9 P) .nil .nil))))) (.node (PySem.W.boot_o_6 P) (.node (PySem.W.boot_o_10 P) (.node (q18_2 P) (.node (q34_2 P) (.node (q66_5 P) (.node (q130_9 P) .nil .nil) .nil) (.node (q98_9 P) .nil .nil)) (.node (q50_2 P) (.node (q82_7 P) (.node (q146_13 P) .nil .nil) .nil) (.node (q114_9 P) .nil .nil))) (.node (q26_2 P) (.node (q42_2 P) (.node (q74_5 P) (.node (q138_10 P) .nil .nil) .nil) (.node (q106_9 P) .nil .nil)) (.node (q58_4 P) (.node (q90_8 P) (.node (q154_14 P) .nil .nil) .nil) (.node (q122_9 P) .nil .nil)))) (.node (q14_0 P) (.node (q22_2 P) (.node (q38_2 P) (.node (q70_5 P) (.node (q134_10 P) .nil .nil) .nil) (.node (q102_9 P) .nil .nil)) (.node (q54_2 P) (.node (q86_8 P) (.node (q150_13 P) .nil .nil) .nil) (.node (q118_9 P) .nil .nil))) (.node (q30_2 P) (.node (q46_2 P) (.node (q78_7 P) (.node (q142_12 P) .nil .nil) .nil) (.node (q110_9 P) .nil .nil)) (.node (q62_4 P) (.node (q94_9 P) .nil .nil) (.node (q126_9 P) .nil .nil)))))))
-- piece 13: steps 26 objs 153 -> 158 toks 2331 -> 2337 pos ⟨120, 0, 135, 26⟩ -> ⟨136, 0, 162, 16⟩
noncomputable def q3_15 (P : Params) : Obj := ⟨(.type "dict"), none, .dict (List.toArray [⟨kh P (S [95, 95, 110, 97, 109, 101, 95, 95]), (.str (S [95, 95, 110, 97, 109, 101, 95, 95]) 165), (.str (S [108, 97, 119, 95, 114, 101, 48, 49, 52, 52, 95, 48, 49]) 2305)⟩, ⟨kh P (S [95, 95, 100, 111, 99, 95, 95]), (.str (S [95, 95, 100, 111, 99, 95, 95]) 166), .none⟩, ⟨kh P (S [95, 95, 112, 97, 99, 107, 97, 103, 101, 95, 95]), (.str (S [95, 95, 112, 97, 99, 107, 97, 103, 101, 95, 95]) 167), .none⟩, ⟨kh P (S [95, 95, 108, 111, 97, 100, 101, 114, 95, 95]), (.str (S [95, 95, 108, 111, 97, 100, 101, 114, 95, 95]) 168), (.builtin "__main__.__loader__#opaque")⟩, ⟨kh P (S [95, 95, 115, 112, 101, 99, 95, 95]), (.str (S [95, 95, 115, 112, 101, 99, 95, 95]) 169), .none⟩, ⟨kh P (S [95, 95, 97, 110, 110, 111, 116, 97, 116, 105, 111, 110, 115, 95, 95]), (.str (S [95, 95, 97, 110, 110, 111, 116, 97, 116, 105, 111, 110, 115, 95, 95]) 170), (.ref 6)⟩, ⟨kh P (S [95, 95, 98, 117, 105, 108, 116, 105, 110, 115, 95, 95]), (.str (S [95, 95, 98, 117, 105, 108, 116, 105, 110, 115, 95, 95]) 171), (.ref 4)⟩, ⟨kh P (S [95, 95, 102, 105, 108, 101, 95, 95]), (.str (S [95, 95, 102, 105, 108, 101, 95, 95]) 173), (.str (S [47, 99, 108, 97, 105, 109, 47, 99, 117, 116, 46, 112, 121]) 172)⟩, ⟨kh P (S [95, 95, 99, 97, 99, 104, 101, 100, 95, 95]), (.str (S [95, 95, 99, 97, 99, 104, 101, 100, 95, 95]) 174), .none⟩, ⟨kh P (S [95, 110, 101, 116, 114, 99, 108, 101, 120]), (.str (S [95, 110, 101, 116, 114, 99, 108, 101, 120]) 246), (.ref 52)⟩, ⟨kh P (S [98, 105, 115, 101, 99, 116, 95, 114, 105, 103, 104, 116]), (.str (S [98, 105, 115, 101, 99, 116, 95, 114, 105, 103, 104, 116]) 262), (.ref 65)⟩, ⟨kh P (S [98, 105, 115, 101, 99, 116, 95, 108, 101, 102, 116]), (.str (S [98, 105, 115, 101, 99, 116, 95, 108, 101, 102, 116]) 276), (.ref 74)⟩, ⟨kh P (S [98, 49, 95, 115, 101, 116]), (.str (S [98, 49, 95, 115, 101, 116]) 338), (.ref 82)⟩, ⟨kh P (S [105, 110, 95, 116, 97, 98, 108, 101, 95, 98, 49]), (.str (S [105, 110, 95, 116, 97, 98, 108, 101, 95, 98, 49]) 345), (.ref 92)⟩, ⟨kh P (S [98, 51, 95, 101, 120, 99, 101, 112, 116, 105, 111, 110, 115]), (.str (S [98, 51, 95, 101, 120, 99, 101, 112, 116, 105, 111, 110, 115]) 2296), (.ref 93)⟩, ⟨kh P (S [109, 97, 112, 95, 116, 97, 98, 108, 101, 95, 98, 51]), (.str (S [109, 97, 112, 95, 116, 97, 98, 108, 101, 95, 98, 51]) 2304), (.ref 138)⟩, ⟨kh P (S [95, 108, 97, 119, 95, 112, 105, 101, 99, 101]), (.str (S [95, 108, 97, 119, 95, 112, 105, 101, 99, 101]) 2318), (.ref 145)⟩, ⟨kh P (S [95, 108, 97, 119, 95, 115, 116, 114, 101, 97, 109]), (.str (S [95, 108, 97, 119, 95, 115, 116, 114, 101, 97, 109]) 2330), (.ref 152)⟩, ⟨kh P (S [95, 108, 97, 119, 95, 119, 111, 114, 100, 115]), (.str (S [95, 108, 97, 119, 95, 119, 111, 114, 100, 115]) 2336), (.ref 157)⟩, ⟨kh P (S [108, 97, 119]), (.str (S [108, 97, 119]) 2342), (.ref 162)⟩]) 20, List.toArray []⟩
noncomputable def q12_15 (P : Params) : Obj := ⟨.none, none, .fields (List.toArray [(.int (2) 0), (.int (0) 0), (.ref 20), (.int (46) 0), (.int (0) 0), (.ref 64), (.int (66) 0), (.int (0) 0), (.ref 73), (.int (88) 0), (.int (0) 0), (.ref 91), (.int (91) 0), (.int (0) 0), (.ref 137), (.int (97) 0), (.int (0) 0), (.ref 144), (.int (120) 0), (.int (0) 0), (.ref 151), (.int (136) 0), (.int (0) 0), (.ref 156), (.int (163) 0), (.int (0) 0), (.ref 161)]), List.toArray []⟩
noncomputable def q158_15 (P : Params) : Obj := ⟨(.type "tuple"), none, .seq (List.toArray []) 0, List.toArray []⟩
noncomputable def q159_15 (P : Params) : Obj := ⟨.none, none, .fields (List.toArray []), List.toArray []⟩
noncomputable def q160_15 (P : Params) : Obj := ⟨.none, none, .func (fnD (stm 14) (S [108, 97, 119]) (S [108, 97, 119]) 0 [] .none .none .none .none none .none .none 0), List.toArray []⟩
noncomputable def q161_15 (P : Params) : Obj := ⟨(.type "code"), none, .fields (List.toArray [(.str (S [108, 97, 119]) 2337), (.str (S [108, 97, 119]) 2338), (.str (S [47, 99, 108, 97, 105, 109, 47, 99, 117, 116, 46, 112, 121]) 2339), (.int (163) 0), (.int (1) 0), (.int (0) 0), (.int (0) 0), (.int (3) 0), (.ref 158), (.bool true), (.int (181) 0), (.ref 159), .none, .none, .none, (.ref 160), (.int (2340) 0), (.int (163) 0), (.str (S [47, 99, 108, 97, 105, 109, 47, 99, 117, 116, 46, 112, 121]) 2341)]), List.toArray []⟩
noncomputable def q162_15 (P : Params) : Obj := ⟨(.type "function"), none, .func (fnD (stm 14) (S [108, 97, 119]) (S [108, 97, 119]) 3 [] .none .none .none (.str (S [108, 97, 119, 95, 114, 101, 48, 49, 52, 52, 95, 48, 49]) 2305) none (.ref 161) .none 0), List.toArray []⟩
noncomputable def tr15 (P : Params) : BT := (.node (PySem.W.boot_o_0 P) (.node (PySem.W.boot_o_1 P) (.node (q3_15 P) (.node (PySem.W.boot_o_7 P) (.node (q15_2 P) (.node (q31_2 P) (.node (q63_4 P) (.node (q127_9 P) .nil .nil) .nil) (.node (q95_9 P) (.node (q159_15 P) .nil .nil) .nil)) (.node (q47_2 P) (.node (q79_7 P) (.node (q143_12 P) .nil .nil) .nil) (.node (q111_9 P) .nil .nil))) (.node (q23_2 P) (.node (q39_2 P) (.node (q71_5 P) (.node (q135_10 P) .nil .nil) .nil) (.node (q103_9 P) .nil .nil)) (.node (q55_2 P) (.node (q87_8 P) (.node (q151_13 P) .nil .nil) .nil) (.node (q119_9 P) .nil .nil)))) (.node (q11_0 P) (.node (q19_2 P) (.node (q35_2 P) (.node (q67_5 P) (.node (q131_9 P) .nil .nil) .nil) (.node (q99_9 P) .nil .nil)) (.node (q51_2 P) (.node (q83_7 P) (.node (q147_13 P) .nil .nil) .nil) (.node (q115_9 P) .nil .nil))) (.node (q27_2 P) (.node (q43_2 P) (.node (q75_7 P) (.node (q139_12 P) .nil .nil) .nil) (.node (q107_9 P) .nil .nil)) (.node (q59_4 P) (.node (q91_8 P) (.node (q155_14 P) .nil .nil) .nil) (.node (q123_9 P) .nil .nil))))) (.node (PySem.W.boot_o_5 P) (.node (PySem.W.boot_o_9 P) (.node (q17_2 P) (.node (q33_2 P) (.node (q65_4 P) (.node (q129_9 P) .nil .nil) .nil) (.node (q97_9 P) (.node (q161_15 P) .nil .nil) .nil)) (.node (q49_2 P) (.node (q81_7 P) (.node (q145_12 P) .nil .nil) .nil) (.node (q113_9 P) .nil .nil))) (.node (q25_2 P) (.node (q41_2 P) (.node (q73_5 P) (.node (q137_10 P) .nil .nil) .nil) (.node (q105_9 P) .nil .nil)) (.node (q57_4 P) (.node (q89_8 P) (.node (q153_14 P) .nil .nil) .nil) (.node (q121_9 P) .nil .nil)))) (.node (q13_0 P) (.node (q21_2 P) (.node (q37_2 P) (.node (q69_5 P) (.node (q133_10 P) .nil .nil) .nil) (.node (q101_9 P) .nil .nil)) (.node (q53_2 P) (.node (q85_7 P) (.node (q149_13 P) .nil .nil) .nil) (.node (q117_9 P) .nil .nil))) (.node (q29_2 P) (.node (q45_2 P) (.node (q77_7 P) (.node (q141_12 P) .nil .nil) .nil) (.node (q109_9 P) .nil .nil)) (.node (q61_4 P) (.node (q93_9 P) (.node (q157_14 P) .nil .nil) .nil) (.node (q125_9 P) .nil .nil)))))) (.node (PySem.W.boot_o_2 P) (.node (PySem.W.boot_o_4 P) (.node (PySem.W.boot_o_8 P) (.node (q16_2 P) (.node (q32_2 P) (.node (q64_4 P) (.node (q128_9 P) .nil .nil) .nil) (.node (q96_9 P) (.node (q160_15 P) .nil .nil) .nil)) (.node (q48_2 P) (.node (q80_7 P) (.node (q144_12 P) .nil .nil) .nil) (.node (q112_9 P) .nil .nil))) (.node (q24_2 P) (.node (q40_2 P) (.node (q72_5 P) (.node (q136_10 P) .nil .nil) .nil) (.node (q104_9 P) .nil .nil)) (.node (q56_2 P) (.node (q88_8 P) (.node (q152_13 P) .nil .nil) .nil) (.node (q120_9 P) .nil .nil)))) (.node (q12_15 P) (.node (q20_2 P) (.node (q36_2 P) (.node (q68_5 P) (.node (q132_10 P) .nil .nil) .nil) (.node (q100_9 P) .nil .nil)) (.node (q52_2 P) (.node (q84_7 P) (.node (q148_13 P) .nil .nil) .nil) (.node (q116_9 P) .nil .nil))) (.node (q28_2 P) (.node (q44_2 P) (.node (q76_7 P) (.node (q140_12 P) .nil .nil) .nil) (.node (q108_9 P) .nil .nil)) (.node (q60_4 P) (.node (q92_8 P) (.node (q156_14 P) .nil .nil) .nil) (.node (q124_9 P) .nil .nil))))) (.node (PySem.W.boot_o_6 P) (.node (PySem.W.boot_o_10 P) (.node (q18_2 P) (.node (q34_2 P) (.node (q66_5 P) (.node (q130_9 P) .nil .nil) .nil) (.node (q98_9 P) (.node (q162_15 P) .nil .nil) .nil)) (.node (q50_2 P) (.node (q82_7 P) (.node (q146_13 P) .nil .nil) .nil) (.node (q114_9 P) .nil .nil))) (.node (q26_2 P) (.node (q42_2 P) (.node (q74_5 P) (.node (q138_10 P) .nil .nil) .nil) (.node (q106_9 P) .nil .nil)) (.node (q58_4 P) (.node (q90_8 P) (.node (q154_14 P) .nil .nil) .nil) (.node (q122_9 P) .nil .nil)))) (.node (q14_0 P) (.node (q22_2 P) (.node (q38_2 P) (.node (q70_5 P) (.node (q134_10 P) .nil .nil) .nil) (.node (q102_9 P) .nil .nil)) (.node (q54_2 P) (.node (q86_8 P) (.node (q150_13 P) .nil .nil) .nil) (.node (q118_9 P) .nil .nil))) (.node (q30_2 P) (.node (q46_2 P) (.node (q78_7 P) (.node (q142_12 P) .nil .nil) .nil) (.node (q110_9 P) .nil .nil)) (.node (q62_4 P) (.node (q94_9 P) (.node (q158_15 P) .nil .nil) .nil) (.node (q126_9 P) .nil .nil)))))))
-- piece 14: steps 26 objs 158 -> 163 toks 2337 -> 2343 pos ⟨136, 0, 162, 16⟩ -> ⟨163, 0, 193, 15⟩
end
end
theorem join_tick_Hd1_0 : True := by
  w_top off
  first | walk1 | exact trivial
section
noncomputable def sT (t : Params → BT) (n : Nat) (k : Nat) (w : World) (os : OsState) : SharedT := ⟨t w.params, n, lifeE, #[], {}, k, os⟩
theorem pc0 (w : World) (os : OsState) : segRunT treeTable p0 w 11 ann0 1 10 (sT tr0 15 187 w os) (piecesOf [stm 0] env0 code0 ⟨0, 0, 0, 0⟩ B0) = some (.next, sT tr1 15 189 w os, code0, ⟨1, 0, 1, 8⟩) := by
  rw [PySem.W.Fast.te10110043849684766642]; kernel_rfl!
theorem pc1 (w : World) (os : OsState) : segRunT treeTable p0 w 11 ann0 1 324 (sT tr1 15 189 w os) (piecesOf [stm 1] env0 code0 ⟨1, 0, 1, 8⟩ B0) = some (.next, sT tr2 57 247 w os, code0, ⟨2, 0, 44, 35⟩) := by
  rw [PySem.W.Fast.te10110043849684766642]; kernel_rfl!
theorem pc2 (w : World) (os : OsState) : segRunT treeTable p0 w 11 ann0 1 10 (sT tr2 57 247 w os) (piecesOf [stm 2] env0 code0 ⟨2, 0, 44, 35⟩ B0) = some (.next, sT tr3 57 249 w os, code0, ⟨45, 0, 45, 8⟩) := by
  rw [PySem.W.Fast.te10110043849684766642]; kernel_rfl!
theorem pc3 (w : World) (os : OsState) : segRunT treeTable p0 w 11 ann0 1 42 (sT tr3 57 249 w os) (piecesOf [stm 3] env0 code0 ⟨45, 0, 45, 8⟩ B0) = some (.next, sT tr4 66 263 w os, code0, ⟨46, 0, 65, 13⟩) := by
  rw [PySem.W.Fast.te10110043849684766642]; kernel_rfl!
theorem pc4 (w : World) (os : OsState) : segRunT treeTable p0 w 11 ann0 1 42 (sT tr4 66 263 w os) (piecesOf [stm 4] env0 code0 ⟨46, 0, 65, 13⟩ B0) = some (.next, sT tr5 75 277 w os, code0, ⟨66, 0, 85, 13⟩) := by
  rw [PySem.W.Fast.te10110043849684766642]; kernel_rfl!
theorem pc5 (w : World) (os : OsState) : segRunT treeTable p0 w 11 ann0 1 10 (sT tr5 75 277 w os) (piecesOf [stm 5] env0 code0 ⟨66, 0, 85, 13⟩ B0) = some (.next, sT tr6 75 279 w os, code0, ⟨86, 0, 86, 8⟩) := by
  rw [PySem.W.Fast.te10110043849684766642]; kernel_rfl!
theorem pc7 (w : World) (os : OsState) : segRunT treeTable p0 w 11 ann0 1 30 (sT tr7 86 339 w os) (piecesOf [stm 7] env0 code0 ⟨87, 0, 87, 6⟩ B0) = some (.next, sT tr8 93 346 w os, code0, ⟨88, 0, 89, 30⟩) := by
  rw [PySem.W.Fast.te10110043849684766642]; kernel_rfl!
theorem pc9 (w : World) (os : OsState) : segRunT treeTable p0 w 11 ann0 1 31 (sT tr9 132 2297 w os) (piecesOf [stm 9] env0 code0 ⟨90, 0, 90, 13⟩ B0) = some (.next, sT tr10 139 2305 w os, code0, ⟨91, 0, 95, 23⟩) := by
  rw [PySem.W.Fast.te10110043849684766642]; kernel_rfl!
theorem pc10 (w : World) (os : OsState) : segRunT treeTable p0 w 11 ann0 1 10 (sT tr10 139 2305 w os) (piecesOf [stm 10] env0 code0 ⟨91, 0, 95, 23⟩ B0) = some (.next, sT tr11 139 2307 w os, code0, ⟨96, 0, 96, 8⟩) := by
  rw [PySem.W.Fast.te10110043849684766642]; kernel_rfl!
theorem pc11 (w : World) (os : OsState) : segRunT treeTable p0 w 11 ann0 1 35 (sT tr11 139 2307 w os) (piecesOf [stm 11] env0 code0 ⟨96, 0, 96, 8⟩ B0) = some (.next, sT tr12 146 2319 w os, code0, ⟨97, 0, 119, 23⟩) := by
  rw [PySem.W.Fast.te10110043849684766642]; kernel_rfl!
theorem pc12 (w : World) (os : OsState) : segRunT treeTable p0 w 11 ann0 1 35 (sT tr12 146 2319 w os) (piecesOf [stm 12] env0 code0 ⟨97, 0, 119, 23⟩ B0) = some (.next, sT tr13 153 2331 w os, code0, ⟨120, 0, 135, 26⟩) := by
  rw [PySem.W.Fast.te10110043849684766642]; kernel_rfl!
theorem pc13 (w : World) (os : OsState) : segRunT treeTable p0 w 11 ann0 1 27 (sT tr13 153 2331 w os) (piecesOf [stm 13] env0 code0 ⟨120, 0, 135, 26⟩ B0) = some (.next, sT tr14 158 2337 w os, code0, ⟨136, 0, 162, 16⟩) := by
  rw [PySem.W.Fast.te10110043849684766642]; kernel_rfl!
theorem pc14 (w : World) (os : OsState) : segRunT treeTable p0 w 11 ann0 1 27 (sT tr14 158 2337 w os) (piecesOf [stm 14] env0 code0 ⟨136, 0, 162, 16⟩ B0) = some (.next, sT tr15 163 2343 w os, code0, ⟨163, 0, 193, 15⟩) := by
  rw [PySem.W.Fast.te10110043849684766642]; kernel_rfl!
end
theorem join_tick_Hd2_0 : True := by
  w_top off
  first | walk1 | exact trivial
section
noncomputable def P6 (w : World) : Prop := ∀ os : OsState, segRun treeTable p0 w 11 ann0 1 999 (sT tr6 75 279 w os).abs (piecesOf [stm 6] env0 code0 ⟨86, 0, 86, 8⟩ B0) = some (.next, (sT tr7 86 339 w os).abs, code0, ⟨87, 0, 87, 6⟩)
theorem pc6b (w : World) (b : Bool) : P6 (w.withFollow "special-get-raises" b) := by
  intro os
  have h : segRunT treeTable p0 (w.withFollow "special-get-raises" b) 11 ann0 1 999 (sT tr6 75 279 (w.withFollow "special-get-raises" b) os) (piecesOf [stm 6] env0 code0 ⟨86, 0, 86, 8⟩ B0) = some (.next, sT tr7 86 339 (w.withFollow "special-get-raises" b) os, code0, ⟨87, 0, 87, 6⟩) := by
    rw [PySem.W.Fast.te10110043849684766642, PySem.W.Fast.te14364793385576792824]
    cases b <;> kernel_rfl!
  exact segRun_of h
theorem pc6 (w : World) (os : OsState) : segRun treeTable p0 w 11 ann0 1 999 (sT tr6 75 279 w os).abs (piecesOf [stm 6] env0 code0 ⟨86, 0, 86, 8⟩ B0) = some (.next, (sT tr7 86 339 w os).abs, code0, ⟨87, 0, 87, 6⟩) :=
  byRow2 "special-get-raises" (P := P6) (fun w => pc6b w false) (fun w => pc6b w true) w os
end
theorem join_tick_Hd3_0 : True := by
  w_top off
  first | walk1 | exact trivial
section
/-- an exact run of a tree without an end: n steps of the top's machine -/
noncomputable def Ev {α : Type} (w : World) (n : Nat) (m : Sem α) (s : Shared) (a : α) (s' : Shared) : Prop :=
  ∀ (K : α → Sem Fin) (H : Value → Sem Fin) (gd : Bool → Bool) (lv : List Value → List Value) (pos : Pos), ∃ pos', segGo treeTable p0 w 11 ann0 1 n s ⟨m.wrap K H gd lv, code0, pos, B0⟩ = some (s', ⟨K a, code0, pos', B0⟩)
theorem segGo_add {tb : String → Option Builtin} {p : Program} {w : World} {n₀ : Nat} {ann : Option Value} {b : Nat} : ∀ {n k : Nat} {s s' : Shared} {t t' : Thread} {r : Shared × Thread},
    segGo tb p w n₀ ann b n s t = some (s', t') → segGo tb p w n₀ ann b k s' t' = some r → segGo tb p w n₀ ann b (n + k) s t = some r
  | 0, k, s, s', t, t', r, h, h2 => by
    obtain ⟨rfl, rfl⟩ : s = s' ∧ t = t' := by simpa [segGo] using h
    rw [Nat.zero_add]; exact h2
  | n + 1, k, s, s', t, t', r, h, h2 => by
    rw [show n + 1 + k = n + k + 1 by omega]
    unfold segGo at h ⊢
    cases he : endAt b t with
    | some f => rw [he] at h; cases h
    | none =>
      rw [he] at h
      cases hk : stepOk n₀ ann t with
      | false => rw [hk] at h; cases h
      | true =>
        rw [hk] at h
        cases hs : step (denote tb) p w s t with
        | halt o s₂ => rw [hs] at h; cases h
        | go s₂ t₂ => rw [hs] at h; exact segGo_add h h2
section
variable {α β : Type} {w : World} {s s' s₁ : Shared}
theorem ev_pure (a : α) : Ev w 0 (Sem.pure a) s a s := fun K H gd lv pos => ⟨pos, rfl⟩
theorem ev_bind {n k : Nat} {m : Sem α} {f : α → Sem β} {a : α} {b : β} (h1 : Ev w n m s a s₁) (h2 : Ev w k (f a) s₁ b s') : Ev w (n + k) (m >>= f) s b s' := fun K H gd lv pos => by
  obtain ⟨p1, e1⟩ := h1 (fun a => (f a).wrap K H gd lv) H gd lv pos
  obtain ⟨p2, e2⟩ := h2 K H gd lv p1
  refine ⟨p2, ?_⟩
  have e : (m >>= f).wrap K H gd lv = m.wrap (fun a => (f a).wrap K H gd lv) H gd lv := by
    rw [Sem.bind_eq_wrap', Sem.wrap_wrap]; rfl
  rw [e]
  exact segGo_add e1 e2
theorem ev_keep {n : Nat} {m : Sem α} {a : α} (vs : List Value) (h : Ev w n m s a s') : Ev w n (m.keep vs) s a s' := fun K H gd lv pos => by
  rw [Sem.keep_eq_wrap, Sem.wrap_wrap]
  exact h K H gd (fun l => lv (vs ++ l)) pos
theorem ev_holding {n : Nat} {m : Sem α} {a : α} (vs : List Value) (h : Ev w n m s a s') : Ev w n (holding vs m) s a s' := by
  unfold holding
  split
  · exact h
  · exact ev_keep _ h
theorem ev_onRaise {n : Nat} {m : Sem α} {a : α} (hd : Value → Sem Unit) (h : Ev w n m s a s') : Ev w n (m.onRaise hd) s a s' := fun K H gd lv pos => by
  rw [Sem.onRaise_eq_wrap, Sem.wrap_wrap]
  exact h K (fun e => Sem.wrap K H gd lv ((hd e).bind fun _ => .raise e)) gd lv pos
theorem ev_rule (tag : String) : Ev w 1 (rule tag) s () s := fun K H gd lv pos => ⟨pos, rfl⟩
theorem ev_at (p : Pos) : Ev w 1 (standAt p) s () s := fun K H gd lv pos => ⟨p, rfl⟩
theorem ev_point : Ev w 1 point s () s := fun K H gd lv pos => ⟨pos, rfl⟩
theorem ev_ask : Ev w 1 ask s ⟨p0, w.params⟩ s := fun K H gd lv pos => ⟨pos, rfl⟩
noncomputable abbrev shd (h : Heap) (tk : Nat) (os : OsState) : Shared := ⟨h, #[], {}, tk, os⟩
theorem ev_fresh {h : Heap} {tk : Nat} {os : OsState} : Ev w 1 fresh (shd h tk os) tk (shd h (tk + 1) os) := fun K H gd lv pos => ⟨pos, rfl⟩
theorem ev_load {h : Heap} {tk : Nat} {os : OsState} {a : Addr} {q : Option Value} {o : Obj} (e : h.get? a = some o) : Ev w 1 (loadPart a q) (shd h tk os) o (shd h tk os) := fun K H gd lv pos => ⟨pos, by
  show (match step (denote treeTable) p0 w (shd h tk os) ⟨.load a q (fun x => (Sem.pure x).wrap K H gd lv), code0, pos, B0⟩ with | .go s' t' => some (s', t') | .halt _ _ => none) = _
  simp only [step, e]; rfl⟩
theorem ev_update {h : Heap} {tk : Nat} {os : OsState} {a : Addr} {q : Option Value} {f : Obj → Obj} {o : Obj} (e : h.get? a = some o) (ha : Nat.ble 11 a = true) : Ev w 1 (updatePart a q f) (shd h tk os) () (shd (h.update a f) tk os) := fun K H gd lv pos => ⟨pos, by
  have ok : stepOk 11 ann0 ⟨.update a q f (fun x => (Sem.pure x).wrap K H gd lv), code0, pos, B0⟩ = true := by
    show (true && (Nat.ble 11 a || a == mainNs || a == cStatics || ann0 == some (.ref a))) = true
    rw [ha]; rfl
  show (match stepOk 11 ann0 ⟨.update a q f (fun x => (Sem.pure x).wrap K H gd lv), code0, pos, B0⟩ with | false => none | true => (match step (denote treeTable) p0 w (shd h tk os) ⟨.update a q f (fun x => (Sem.pure x).wrap K H gd lv), code0, pos, B0⟩ with | .go s' t' => some (s', t') | .halt _ _ => none)) = _
  rw [ok]
  simp only [step, e, Option.isSome_some, if_true]; rfl⟩
theorem ev_alloc {h : Heap} {tk : Nat} {os : OsState} (o : Obj) : Ev w 1 (alloc o) (shd h tk os) h.objs.size (shd (h.push o) tk os) := fun K H gd lv pos => ⟨pos, rfl⟩
noncomputable def hpP (w : World) (b : Bool) : World := w.withFollow "special-get-raises" b
theorem ev_hash0 (w : World) (b : Bool) (k : Int) (t : Tok) (h : Heap) (tk : Nat) (os : OsState) : Ev (w.withFollow "special-get-raises" b) 5 (pyHash (.int k t)) (shd h tk os) (hashInt k) (shd h (tk + 1) os) := fun K H gd lv pos => by
  refine ⟨pos, ?_⟩
  have hr := rawHash_range k
  have e : segGo treeTable p0 (w.withFollow "special-get-raises" b) 11 ann0 1 5 (shd h tk os) ⟨(pyHash (.int k t)).wrap K H gd lv, code0, pos, B0⟩ =
    some (shd h (tk + 1) os, ⟨(pyHashByItsType.reduced (rawHash k)).wrap K H gd lv, code0, pos, B0⟩) := by
    cases b <;> kernel_rfl!
  rw [e]
  have q : pyHashByItsType.reduced (rawHash k) = pure (hashInt k) := by
    unfold pyHashByItsType.reduced
    rw [if_pos (by rw [decide_eq_true hr.1, decide_eq_true hr.2]; rfl)]
    rfl
  rw [q]; rfl
end
noncomputable def hpl (l : List Obj) : Heap := ⟨⟨l⟩, lifeE⟩
theorem hpl_get {l r : List Obj} {o : Obj} (hf : o.isFreed = false) : (hpl (l ++ o :: r)).get? l.length = some o := by
  unfold hpl Heap.get?
  have : (#[] : Array Obj) = #[] := rfl
  show (match (l ++ o :: r).toArray[l.length]? with | some ⟨_, _, .freed, _⟩ => none | o => o) = some o
  rw [List.getElem?_toArray, List.getElem?_append_right (Nat.le_refl _), Nat.sub_self]
  obtain ⟨c, d, dt, sl⟩ := o
  cases dt <;> first | rfl | cases hf
theorem modify_at {α : Type} : ∀ (l r : List α) (o : α) (f : α → α), (l ++ o :: r).modify l.length f = l ++ f o :: r
  | [], r, o, f => rfl
  | x :: l, r, o, f => by
    rw [List.cons_append, List.length_cons, List.modify_succ_cons, modify_at l r o f]; rfl
theorem hpl_upd {l r : List Obj} {o : Obj} {f : Obj → Obj} : (hpl (l ++ o :: r)).update l.length f = hpl (l ++ f o :: r) := by
  unfold hpl Heap.update
  show Heap.mk ((l ++ o :: r).toArray.modify l.length f) lifeE = _
  congr 1
  apply Array.ext'
  rw [Array.toList_modify]
  show (l ++ o :: r).modify l.length f = _
  exact modify_at l r o f
theorem hpl_push {l : List Obj} {o : Obj} : (hpl l).push o = hpl (l ++ [o]) := by
  unfold hpl Heap.push
  show Heap.mk (l.toArray.push o) lifeE = _
  rw [List.push_toArray]
theorem hpl_size {l : List Obj} : (hpl l).objs.size = l.length := rfl
theorem no_place {es : List DictEntry} {h : Int} (hn : ∀ e ∈ es, e.hash ≠ h) : placesWithHash es.toArray.size (fun i => es.toArray[i]?.map (·.hash)) h = [] := by
  unfold placesWithHash
  rw [List.filter_eq_nil_iff]
  intro i hi
  show ¬ ((es.toArray[i]?.map (·.hash)) == some h) = true
  rw [List.getElem?_toArray]
  cases q : es[i]? with
  | none => simp
  | some e => 
    have := hn e (List.mem_of_getElem? q)
    simpa using this
section
variable {w : World} {tk : Nat} {os : OsState} {l r : List Obj} {es : List DictEntry} {n : Nat}
theorem ev_find {k : Int} {t : Tok} {h : Int} (hn : ∀ e ∈ es, e.hash ≠ h) : Ev w 1 (dictFind l.length (.int k t) h) (shd (hpl (l ++ dictOf es n :: r)) tk os) none (shd (hpl (l ++ dictOf es n :: r)) tk os) := by
  unfold dictFind
  refine ev_holding _ ?_
  refine ev_bind (n := 1) (k := 0) (a := es.toArray) (s₁ := shd (hpl (l ++ dictOf es n :: r)) tk os) ?_ ?_
  · unfold dictEntries
    exact ev_bind (n := 1) (k := 0) (ev_load (hpl_get rfl)) (ev_pure _)
  · dsimp only
    rw [no_place hn]
    rw [if_pos (by rfl)]
    exact ev_pure _
theorem ev_keys {f : Array DictEntry → Array DictEntry} {q : Option Value} {es' : List DictEntry} (hf : f es.toArray = es'.toArray) (hz : es'.length ≤ 1000) (hl : Nat.ble 11 l.length = true) :
    Ev w 3 (updateDictKeys l.length f q) (shd (hpl (l ++ dictOf es n :: r)) tk os) () (shd (hpl (l ++ dictOf es' (n + 1) :: r)) tk os) := by
  unfold updateDictKeys
  refine ev_bind (n := 1) (k := 2) (ev_load (hpl_get rfl)) ?_
  dsimp only
  refine ev_bind (n := 1) (k := 1) (ev_update (hpl_get rfl) hl) ?_
  rw [hpl_upd]
  have e : Obj.mapDictKeys f (dictOf es n) = dictOf es' (n + 1) := by
    show (⟨_, _, .dict (f es.toArray) (n + 1), _⟩ : Obj) = _
    rw [hf]
  rw [e]
  unfold lookBehind
  refine ev_bind (n := 1) (k := 0) (ev_load (hpl_get rfl)) ?_
  have z : (dictOf es' (n + 1)).data.pastItsLine = none := by
    show (if es'.toArray.size > sizeLine + 1 then some "dict:memory" else none) = none
    rw [if_neg (by rw [sizeLine_eq, List.size_toArray]; omega)]
  rw [z]
  exact ev_pure _
theorem ev_set (w : World) (b : Bool) {k : Int} {t : Tok} {v : Value} (hn : ∀ e ∈ es, e.hash ≠ hashInt k) (hz : es.length < 1000) (hl : Nat.ble 11 l.length = true) :
    Ev (w.withFollow "special-get-raises" b) 10 (dictSet l.length (.int k t) v) (shd (hpl (l ++ dictOf es n :: r)) tk os) () (shd (hpl (l ++ dictOf (es ++ [ent k t v]) (n + 1) :: r)) (tk + 1) os) := by
  unfold dictSet
  refine ev_holding _ (ev_bind (n := 5) (k := 5) (ev_hash0 w b k t _ tk os) ?_)
  unfold dictSetHashed
  refine ev_holding _ (ev_bind (n := 1) (k := 4) (ev_find hn) ?_)
  dsimp only
  refine ev_bind (n := 1) (k := 3) (ev_rule _) ?_
  exact ev_keys (by rw [List.push_toArray]) (by rw [List.length_append, List.length_singleton]; omega) hl
end
end
theorem join_tick_Hd4_0 : True := by
  w_top off
  first | walk1 | exact trivial
section
noncomputable def pairOf (pos : Pos) (x : KV) : Sem Value × Sem Value := (mkInt x.1, do let v ← mkText x.2; standAt pos; pure v)
noncomputable def asc : Int → List KV → Bool
  | _, [] => true
  | lo, x :: r => decide (lo ≤ x.1) && decide (0 ≤ x.1) && decide (x.1 < 2 ^ 60) && asc (x.1 + 1) r
theorem hash_small {k : Int} (h0 : 0 ≤ k) (h1 : k < 2 ^ 60) : hashInt k = k := by
  have e : rawHash k = k := by
    unfold rawHash
    have h2 : ¬ k < 0 := by omega
    have h3 : ((k.natAbs % (2 ^ 61 - 1) : Nat) : Int) = k := by
      rw [Nat.mod_eq_of_lt (by omega)]; omega
    simp only [h2, if_false]
    show (if (((k.natAbs % (2 ^ 61 - 1 : Nat) : Nat) : Int) == -1) = true then (-2 : Int) else ((k.natAbs % (2 ^ 61 - 1 : Nat) : Nat) : Int)) = k
    rw [h3]
    have : (k == -1) = false := by simp; omega
    rw [this]; rfl
  unfold hashInt
  rw [e]
  have : (k == -1) = false := by simp; omega
  rw [this]; rfl
theorem ents_length : ∀ (kvs : List KV) (tk : Nat), (ents tk kvs).length = kvs.length
  | [], _ => rfl
  | x :: r, tk => by rw [ents, List.length_cons, List.length_cons, ents_length r]
section
variable {w : World} {os : OsState} {l : List Obj}
theorem ev_mkInt {h : Heap} {tk : Nat} (k : Int) : Ev w 1 (mkInt k) (shd h tk os) (.int k tk) (shd h (tk + 1) os) := ev_bind (n := 1) (k := 0) ev_fresh (ev_pure _)
theorem ev_mkText {h : Heap} {tk : Nat} (k : Str) : Ev w 1 (mkText k) (shd h tk os) (.str k tk) (shd h (tk + 1) os) := ev_bind (n := 1) (k := 0) ev_fresh (ev_pure _)
theorem ev_fill (w : World) (b : Bool) (pos : Pos) (hl : Nat.ble 11 l.length = true) (f : (Sem Value × Sem Value) → PUnit → Sem (ForInStep PUnit))
    (hf : ∀ k v, f (k, v) PUnit.unit = (do let kv ← k; let vv ← holding [kv] v; holding [kv, vv] (dictSet l.length kv vv); pure (ForInStep.yield PUnit.unit))) :
    ∀ (kvs : List KV) (es : List DictEntry) (n tk : Nat) (lo : Int), (∀ e ∈ es, e.hash < lo) → asc lo kvs = true → es.length + kvs.length < 1000 →
    Ev (w.withFollow "special-get-raises" b) (13 * kvs.length) (forIn (kvs.map (pairOf pos)) PUnit.unit f)
      (shd (hpl (l ++ [dictOf es n])) tk os) PUnit.unit (shd (hpl (l ++ [dictOf (es ++ ents tk kvs) (n + kvs.length)])) (tk + 3 * kvs.length) os)
  | [], es, n, tk, lo, he, ha, hz => by
    rw [List.map_nil, List.forIn_nil, ents, List.append_nil]
    exact ev_pure _
  | x :: r, es, n, tk, lo, he, ha, hz => by
    simp only [asc, Bool.and_eq_true, decide_eq_true_eq] at ha
    obtain ⟨⟨⟨h1, h2⟩, h3⟩, h4⟩ := ha
    rw [List.map_cons, List.forIn_cons]
    rw [List.length_cons] at hz ⊢
    rw [show 13 * (r.length + 1) = 13 + 13 * r.length by omega]
    refine ev_bind (a := ForInStep.yield PUnit.unit) (s₁ := shd (hpl (l ++ [dictOf (es ++ [ent x.1 tk (.str x.2 (tk + 1))]) (n + 1)])) (tk + 3) os) ?_ ?_
    · show Ev _ 13 (f (mkInt x.1, do let v ← mkText x.2; standAt pos; pure v) PUnit.unit) _ _ _
      rw [hf]
      refine ev_bind (n := 1) (k := 12) (ev_mkInt _) ?_
      refine ev_bind (n := 2) (k := 10) (ev_holding _ (ev_bind (n := 1) (k := 1) (ev_mkText _) (ev_bind (n := 1) (k := 0) (ev_at _) (ev_pure _)))) ?_
      refine ev_bind (n := 10) (k := 0) (ev_holding _ (ev_set w b (r := []) (fun e hm => ?_) (by omega) hl)) (ev_pure _)
      rw [hash_small h2 h3]
      have := he e hm
      omega
    · have := ev_fill w b pos hl f hf r (es ++ [ent x.1 tk (.str x.2 (tk + 1))]) (n + 1) (tk + 3) (x.1 + 1) (fun e hm => by
        rcases List.mem_append.mp hm with hm | hm
        · have := he e hm; omega
        · rw [List.mem_singleton.mp hm]
          show hashInt x.1 < x.1 + 1
          rw [hash_small h2 h3]; omega) h4 (by rw [List.length_append, List.length_singleton]; omega)
      rw [ents]
      rw [List.append_assoc] at this
      rw [show n + (r.length + 1) = n + 1 + r.length by omega, show tk + 3 * (r.length + 1) = tk + 3 + 3 * r.length by omega]
      exact this
theorem ev_sub (w : World) (b : Bool) (pos : Pos) (hl : Nat.ble 11 l.length = true) {kvs : List KV} {tk : Nat} {lo : Int} (ha : asc lo kvs = true) (hz : kvs.length < 1000) (hn : 15 < kvs.length) :
    Ev (w.withFollow "special-get-raises" b) (2 + 13 * kvs.length) (subDict (kvs.map (pairOf pos))) (shd (hpl l) tk os) l.length (shd (hpl (l ++ [dictOf (ents tk kvs) kvs.length])) (tk + 3 * kvs.length) os) := by
  unfold subDict
  rw [show 2 + 13 * kvs.length = 1 + (1 + 13 * kvs.length + 0) by omega]
  refine ev_bind (ev_alloc _) ?_
  rw [hpl_push, hpl_size]
  refine ev_bind (a := PUnit.unit) (s₁ := shd (hpl (l ++ [dictOf (ents tk kvs) kvs.length])) (tk + 3 * kvs.length) os) (ev_holding _ ?_) (ev_pure _)
  rw [if_neg (by rw [List.length_map]; omega)]
  refine ev_bind (ev_rule _) ?_
  rw [show 13 * kvs.length = 13 * kvs.length + 0 by omega]
  refine ev_bind (a := PUnit.unit) ?_ (ev_pure _)
  have := ev_fill (os := os) (l := l) w b pos hl (fun x __s =>
                match x with
                | (k, v) => do
                  let kv ← k
                  let vv ← holding [kv] v
                  holding [kv, vv] (dictSet l.length kv vv)
                  pure (ForInStep.yield PUnit.unit)) (fun k v => rfl) kvs [] 0 tk lo (fun e he => (nomatch he)) ha (by simpa using hz)
  rw [List.nil_append, Nat.zero_add] at this
  exact this
end
end
theorem join_tick_Hd5_0 : True := by
  w_top off
  first | walk1 | exact trivial
section
noncomputable def vals : Nat → List KV → List (Value × Value)
  | _, [] => []
  | tk, x :: r => (.int x.1 tk, .str x.2 (tk + 1)) :: vals (tk + 2) r
theorem ents2_length : ∀ (kvs : List KV) (tk : Nat), (ents2 tk kvs).length = kvs.length
  | [], _ => rfl
  | x :: r, tk => by rw [ents2, List.length_cons, List.length_cons, ents2_length r]
section
variable {w : World} {os : OsState} {l : List Obj}
theorem ev_pairs (w : World) (pos : Pos) {h : Heap} : ∀ (kvs : List KV) (tk : Nat), Ev w (3 * kvs.length) (evalPairs (kvs.map (pairOf pos))) (shd h tk os) (vals tk kvs) (shd h (tk + 2 * kvs.length) os)
  | [], tk => ev_pure _
  | x :: r, tk => by
    rw [List.map_cons, List.length_cons]
    show Ev w _ (evalPairs ((mkInt x.1, do let v ← mkText x.2; standAt pos; pure v) :: r.map (pairOf pos))) _ _ _
    rw [evalPairs]
    rw [show 3 * (r.length + 1) = 1 + (2 + (3 * r.length + 0)) by omega]
    refine ev_bind (ev_mkInt _) ?_
    refine ev_bind (n := 2) (ev_holding _ (ev_bind (n := 1) (k := 1) (ev_mkText _) (ev_bind (n := 1) (k := 0) (ev_at _) (ev_pure _)))) ?_
    have := ev_pairs w pos (h := h) r (tk + 2)
    refine ev_bind (ev_holding _ this) ?_
    rw [vals, show tk + 2 * (r.length + 1) = tk + 2 + 2 * r.length by omega]
    exact ev_pure _
theorem ev_puts (w : World) (b : Bool) (hl : Nat.ble 11 l.length = true) (f : (Value × Value) → PUnit → Sem (ForInStep PUnit))
    (hf : ∀ k v, f (k, v) PUnit.unit = (do dictSet l.length k v; pure (ForInStep.yield PUnit.unit))) :
    ∀ (kvs : List KV) (es : List DictEntry) (n tk tv : Nat) (lo : Int), (∀ e ∈ es, e.hash < lo) → asc lo kvs = true → es.length + kvs.length < 1000 →
    Ev (w.withFollow "special-get-raises" b) (10 * kvs.length) (forIn (vals tv kvs) PUnit.unit f)
      (shd (hpl (l ++ [dictOf es n])) tk os) PUnit.unit (shd (hpl (l ++ [dictOf (es ++ ents2 tv kvs) (n + kvs.length)])) (tk + kvs.length) os)
  | [], es, n, tk, tv, lo, he, ha, hz => by
    rw [vals, List.forIn_nil, ents2, List.append_nil]
    exact ev_pure _
  | x :: r, es, n, tk, tv, lo, he, ha, hz => by
    simp only [asc, Bool.and_eq_true, decide_eq_true_eq] at ha
    obtain ⟨⟨⟨h1, h2⟩, h3⟩, h4⟩ := ha
    rw [vals, List.forIn_cons]
    rw [List.length_cons] at hz ⊢
    rw [show 10 * (r.length + 1) = 10 + 10 * r.length by omega]
    refine ev_bind (a := ForInStep.yield PUnit.unit) (s₁ := shd (hpl (l ++ [dictOf (es ++ [ent x.1 tv (.str x.2 (tv + 1))]) (n + 1)])) (tk + 1) os) ?_ ?_
    · rw [hf]
      refine ev_bind (n := 10) (k := 0) (ev_set w b (r := []) (fun e hm => ?_) (by omega) hl) (ev_pure _)
      rw [hash_small h2 h3]
      have := he e hm
      omega
    · have := ev_puts w b hl f hf r (es ++ [ent x.1 tv (.str x.2 (tv + 1))]) (n + 1) (tk + 1) (tv + 2) (x.1 + 1) (fun e hm => by
        rcases List.mem_append.mp hm with hm | hm
        · have := he e hm; omega
        · rw [List.mem_singleton.mp hm]
          show hashInt x.1 < x.1 + 1
          rw [hash_small h2 h3]; omega) h4 (by rw [List.length_append, List.length_singleton]; omega)
      rw [ents2]
      rw [List.append_assoc] at this
      rw [show n + (r.length + 1) = n + 1 + r.length by omega, show tk + (r.length + 1) = tk + 1 + r.length by omega]
      exact this
theorem ev_subShort (w : World) (b : Bool) (pos : Pos) (hl : Nat.ble 11 l.length = true) {kvs : List KV} {tk : Nat} {lo : Int} (ha : asc lo kvs = true) (hn : kvs.length ≤ 15) :
    Ev (w.withFollow "special-get-raises" b) (1 + 13 * kvs.length) (subDict (kvs.map (pairOf pos))) (shd (hpl l) tk os) l.length (shd (hpl (l ++ [dictOf (ents2 tk kvs) kvs.length])) (tk + 3 * kvs.length) os) := by
  unfold subDict
  rw [show 1 + 13 * kvs.length = 1 + ((3 * kvs.length + (10 * kvs.length + 0)) + 0) by omega]
  refine ev_bind (ev_alloc _) ?_
  rw [hpl_push, hpl_size]
  refine ev_bind (a := PUnit.unit) (s₁ := shd (hpl (l ++ [dictOf (ents2 tk kvs) kvs.length])) (tk + 3 * kvs.length) os) (ev_holding _ ?_) (ev_pure _)
  rw [if_pos (by rw [List.length_map]; omega)]
  refine ev_bind (ev_pairs _ pos kvs tk) (ev_holding _ ?_)
  refine ev_bind (a := PUnit.unit) ?_ (ev_pure _)
  have := ev_puts (os := os) (l := l) w b hl (fun x __s =>
                    match x with
                    | (k, v) => do
                      dictSet l.length k v
                      pure (ForInStep.yield PUnit.unit)) (fun k v => rfl) kvs [] 0 (tk + 2 * kvs.length) tk lo (fun e he => (nomatch he)) ha (by simp; omega)
  rw [List.nil_append, Nat.zero_add] at this
  rw [show tk + 3 * kvs.length = tk + 2 * kvs.length + kvs.length by omega]
  exact this
theorem sub_dict : isSubtype (.type "dict") (.type "dict") = pure true := by rw [isSubtype_type]; kernel_rfl
theorem look_dict : typeLookup (.type "dict") "__iter__" = pure (some (.builtin "dict.__iter__")) := by rw [typeLookup_type, builtinLookup_eq_fast]; kernel_rfl
theorem ev_typeOf {h : Heap} {tk : Nat} {a : Addr} {o : Obj} (e : h.get? a = some o) : Ev w 1 (typeOf (.ref a)) (shd h tk os) o.cls (shd h tk os) := by
  show Ev w 1 (do return (← loadPart a (some headPart)).cls) _ _ _
  exact ev_bind (n := 1) (k := 0) (ev_load e) (ev_pure _)
theorem ev_dictEntries {h : Heap} {tk : Nat} {a : Addr} {q : Option Value} {es : List DictEntry} {n : Nat} (e : h.get? a = some (dictOf es n)) : Ev w 1 (dictEntries a q) (shd h tk os) es.toArray (shd h tk os) := by
  unfold dictEntries
  exact ev_bind (n := 1) (k := 0) (ev_load e) (ev_pure _)
theorem ev_dictEpoch {h : Heap} {tk : Nat} {a : Addr} {q : Option Value} {es : List DictEntry} {n : Nat} (e : h.get? a = some (dictOf es n)) : Ev w 1 (dictEpoch a q) (shd h tk os) n (shd h tk os) := by
  unfold dictEpoch
  exact ev_bind (n := 1) (k := 0) (ev_load e) (ev_pure _)
theorem ev_put {es : List DictEntry} {n tk : Nat} {r : List Obj} {k : Int} {t : Tok} {v : Value} (hn : ∀ e ∈ es, e.hash ≠ hashInt k) (hz : es.length < 1000) (hl : Nat.ble 11 l.length = true) :
    Ev w 4 (dictPut l.length (hashInt k) (.int k t) v) (shd (hpl (l ++ dictOf es n :: r)) tk os) () (shd (hpl (l ++ dictOf (es ++ [ent k t v]) (n + 1) :: r)) tk os) := by
  unfold dictPut
  refine ev_bind (n := 1) (k := 3) (ev_find hn) ?_
  exact ev_keys (by rw [List.push_toArray]) (by rw [List.length_append, List.length_singleton]; omega) hl
end
/-- the entries of a table keyed by small ints, rising from lo -/
noncomputable def ascE : Int → List DictEntry → Prop
  | _, [] => True
  | lo, e :: r => (∃ k t v, e = ent k t v ∧ lo ≤ k ∧ 0 ≤ k ∧ k < 2 ^ 60 ∧ ascE (k + 1) r)
theorem ascE_ents : ∀ (kvs : List KV) (tk : Nat) (lo : Int), asc lo kvs = true → ascE lo (ents tk kvs)
  | [], _, _, _ => trivial
  | x :: r, tk, lo, ha => by
    simp only [asc, Bool.and_eq_true, decide_eq_true_eq] at ha
    obtain ⟨⟨⟨h1, h2⟩, h3⟩, h4⟩ := ha
    exact ⟨x.1, tk, _, rfl, h1, h2, h3, ascE_ents r _ _ h4⟩
theorem ascE_ents2 : ∀ (kvs : List KV) (tk : Nat) (lo : Int), asc lo kvs = true → ascE lo (ents2 tk kvs)
  | [], _, _, _ => trivial
  | x :: r, tk, lo, ha => by
    simp only [asc, Bool.and_eq_true, decide_eq_true_eq] at ha
    obtain ⟨⟨⟨h1, h2⟩, h3⟩, h4⟩ := ha
    exact ⟨x.1, tk, _, rfl, h1, h2, h3, ascE_ents2 r _ _ h4⟩
section
variable {w : World} {os : OsState} {l mid : List Obj}
theorem ev_moves (hl : Nat.ble 11 l.length = true) (all : List DictEntry) (na : Nat) (f : Nat → PUnit → Sem (ForInStep PUnit))
    (hf : ∀ i, f i PUnit.unit = (do
      let d ← dictEntries (l.length + 1 + mid.length)
      match d[i]? with
        | some e => do
          holding [e.key, e.val] (dictPut l.length e.hash e.key e.val)
          let d ← dictEpoch (l.length + 1 + mid.length)
          if (d != na) = true then do
              unsupported "dict.changed-during-merge"
              pure (ForInStep.yield PUnit.unit)
            else pure (ForInStep.yield PUnit.unit)
        | x => do
          unsupported "dict.changed-during-merge"
          pure (ForInStep.yield PUnit.unit))) :
    ∀ (todo : List DictEntry) (i : Nat) (es : List DictEntry) (n tk : Nat) (lo : Int), all.drop i = todo → ascE lo todo → (∀ e ∈ es, e.hash < lo) → es.length + todo.length < 1000 →
    Ev w (6 * todo.length) (forIn (List.range' i todo.length) PUnit.unit f)
      (shd (hpl (l ++ dictOf es n :: (mid ++ [dictOf all na]))) tk os) PUnit.unit (shd (hpl (l ++ dictOf (es ++ todo) (n + todo.length) :: (mid ++ [dictOf all na]))) tk os)
  | [], i, es, n, tk, lo, hd, ha, he, hz => by
    rw [List.length_nil, List.range'_zero, List.forIn_nil, List.append_nil]
    exact ev_pure _
  | e :: r, i, es, n, tk, lo, hd, ha, he, hz => by
    obtain ⟨k, t, v, rfl, h1, h2, h3, h4⟩ := ha
    rw [List.length_cons] at hz ⊢
    rw [List.range'_succ, List.forIn_cons]
    rw [show 6 * (r.length + 1) = 6 + 6 * r.length by omega]
    have hg : ∀ o : Obj, (hpl (l ++ o :: (mid ++ [dictOf all na]))).get? (l.length + 1 + mid.length) = some (dictOf all na) := fun o => by
      have := hpl_get (l := l ++ o :: mid) (r := []) (o := dictOf all na) rfl
      rw [List.append_assoc] at this
      rw [show l.length + 1 + mid.length = (l ++ o :: mid).length by rw [List.length_append, List.length_cons]; omega]
      exact this
    have hi : all[i]? = some (ent k t v) := by
      have q : (all.drop i)[0]? = all[i + 0]? := List.getElem?_drop
      rw [hd] at q; exact q.symm
    refine ev_bind (a := ForInStep.yield PUnit.unit) (s₁ := shd (hpl (l ++ dictOf (es ++ [ent k t v]) (n + 1) :: (mid ++ [dictOf all na]))) tk os) ?_ ?_
    · rw [hf]
      refine ev_bind (n := 1) (k := 5) (ev_dictEntries (hg _)) ?_
      rw [List.getElem?_toArray, hi]
      dsimp only
      refine ev_bind (n := 4) (k := 1) (ev_holding _ (ev_put (fun e hm => ?_) (by omega) hl)) ?_
      · rw [hash_small h2 h3]
        have := he e hm
        omega
      refine ev_bind (n := 1) (k := 0) (ev_dictEpoch (hg _)) ?_
      rw [if_neg (by simp)]
      exact ev_pure _
    · have := ev_moves hl all na f hf r (i + 1) (es ++ [ent k t v]) (n + 1) tk (k + 1) (by rw [← List.drop_drop, hd]; rfl) h4 (fun e hm => by
        rcases List.mem_append.mp hm with hm | hm
        · have := he e hm; omega
        · rw [List.mem_singleton.mp hm]
          show hashInt k < k + 1
          rw [hash_small h2 h3]; omega) (by rw [List.length_append, List.length_singleton]; omega)
      rw [List.append_assoc] at this
      rw [show n + (r.length + 1) = n + 1 + r.length by omega]
      exact this
theorem ev_merge (hl : Nat.ble 11 l.length = true) {es all : List DictEntry} {n na tk : Nat} {lo : Int} (ha : ascE lo all) (he : ∀ e ∈ es, e.hash < lo) (h0 : es ≠ []) (hz : es.length + all.length < 1000) :
    Ev w (5 + 6 * all.length) (mergeMapping l.length (.ref (l.length + 1 + mid.length)) false)
      (shd (hpl (l ++ dictOf es n :: (mid ++ [dictOf all na]))) tk os) () (shd (hpl (l ++ dictOf (es ++ all) (n + all.length) :: (mid ++ [dictOf all na]))) tk os) := by
  have hg : ∀ o : Obj, (hpl (l ++ o :: (mid ++ [dictOf all na]))).get? (l.length + 1 + mid.length) = some (dictOf all na) := fun o => by
    have := hpl_get (l := l ++ o :: mid) (r := []) (o := dictOf all na) rfl
    rw [List.append_assoc] at this
    rw [show l.length + 1 + mid.length = (l ++ o :: mid).length by rw [List.length_append, List.length_cons]; omega]
    exact this
  unfold mergeMapping
  rw [show 5 + 6 * all.length = 1 + (1 + (1 + (1 + (1 + (6 * all.length + 0))))) by omega]
  refine ev_bind (a := true) (s₁ := shd (hpl (l ++ dictOf es n :: (mid ++ [dictOf all na]))) tk os) ?_ ?_
  · unfold isInstance
    refine ev_bind (n := 1) (k := 0) (ev_typeOf (hg _)) ?_
    rw [sub_dict]
    exact ev_pure _
  dsimp only
  rw [if_pos rfl]
  refine ev_bind (a := some (.builtin "dict.__iter__")) (s₁ := shd (hpl (l ++ dictOf es n :: (mid ++ [dictOf all na]))) tk os) ?_ ?_
  · unfold specialOf
    refine ev_bind (n := 1) (k := 0) (ev_typeOf (hg _)) ?_
    rw [look_dict]
    exact ev_pure _
  rw [pure_bind]
  rw [show (some (Value.builtin "dict.__iter__") == some (Value.builtin "dict.__iter__")) = true from beq_self_eq_true _]
  dsimp only
  have hs : (l.length + 1 + mid.length == sysModules) = false := by
    have := Nat.le_of_ble_eq_true hl
    show (l.length + 1 + mid.length == 1) = false
    simp; omega
  rw [hs]
  simp only [Bool.false_eq_true, if_false]
  refine ev_bind (ev_dictEntries (hpl_get rfl)) ?_
  have hne : es.toArray.isEmpty = false := by
    cases es with
    | nil => exact absurd rfl h0
    | cons => rfl
  rw [hne]
  simp only [Bool.false_eq_true, if_false]
  refine ev_bind (ev_dictEntries (hg _)) ?_
  refine ev_bind (ev_dictEpoch (hg _)) ?_
  refine ev_bind (a := PUnit.unit) ?_ (ev_pure _)
  rw [List.size_toArray, List.range_eq_range']
  exact ev_moves hl all na _ (fun i => rfl) all 0 es n tk lo rfl ha he hz
end
end
theorem join_tick_Hd6_0 : True := by
  w_top off
  first | walk1 | exact trivial
section
theorem asc_split : ∀ (a b : List KV) (lo : Int), asc lo (a ++ b) = true → asc lo a = true ∧ ∃ lo', asc lo' b = true ∧ lo ≤ lo' ∧ ∀ x ∈ a, x.1 < lo'
  | [], b, lo, h => ⟨rfl, lo, h, Int.le_refl _, fun _ hx => nomatch hx⟩
  | x :: a, b, lo, h => by
    rw [List.cons_append, asc, Bool.and_eq_true] at h
    obtain ⟨h1, h2⟩ := h
    obtain ⟨i1, lo', i2, i3, i4⟩ := asc_split a b (x.1 + 1) h2
    have h3 := h1
    simp only [Bool.and_eq_true, decide_eq_true_eq] at h3
    refine ⟨by rw [asc, h1, i1]; rfl, lo', i2, by omega, fun y hy => ?_⟩
    rcases List.mem_cons.mp hy with rfl | hy
    · omega
    · exact i4 y hy
theorem ents_hash : ∀ (kvs : List KV) (tk : Nat) (lo : Int), asc lo kvs = true → ∀ e ∈ ents tk kvs, ∃ x ∈ kvs, e.hash = x.1
  | [], _, _, _, _, he => nomatch he
  | x :: r, tk, lo, h, e, he => by
    rw [asc, Bool.and_eq_true] at h
    obtain ⟨h1, h2⟩ := h
    simp only [Bool.and_eq_true, decide_eq_true_eq] at h1
    rcases List.mem_cons.mp he with rfl | he
    · exact ⟨x, .head _, hash_small h1.1.2 h1.2⟩
    · obtain ⟨y, hy, e'⟩ := ents_hash r _ _ h2 e he
      exact ⟨y, .tail _ hy, e'⟩
theorem entsAll_hash : ∀ (cs : List (List KV)) (tk : Nat) (lo : Int), asc lo cs.flatten = true → ∀ e ∈ entsAll tk cs, ∃ x ∈ cs.flatten, e.hash = x.1
  | [], _, _, _, _, he => nomatch he
  | c :: r, tk, lo, h, e, he => by
    rw [List.flatten_cons] at h ⊢
    obtain ⟨a1, lo', a2, _, _⟩ := asc_split _ _ _ h
    rw [entsAll] at he
    rcases List.mem_append.mp he with he | he
    · obtain ⟨x, hx, e'⟩ := ents_hash c tk lo a1 e he
      exact ⟨x, List.mem_append_left _ hx, e'⟩
    · obtain ⟨x, hx, e'⟩ := entsAll_hash r _ lo' a2 e he
      exact ⟨x, List.mem_append_right _ hx, e'⟩
theorem entsAll_length : ∀ (cs : List (List KV)) (tk : Nat), (∀ c ∈ cs, c.length = 17) → (entsAll tk cs).length = 17 * cs.length
  | [], _, _ => rfl
  | c :: r, tk, h => by
    rw [entsAll, List.length_append, ents_length, h c (.head _), entsAll_length r _ (fun x hx => h x (.tail _ hx)), List.length_cons]; omega
noncomputable abbrev it (p : Sem Value × Sem Value) : Option (Sem Value) × Sem Value := (some p.1, p.2)
noncomputable abbrev LS := Option Addr × List (Sem Value × Sem Value)
section
variable (f : (Option (Sem Value) × Sem Value) → LS → Sem (ForInStep LS)) (FL : List (Sem Value × Sem Value) → Option Addr → Sem (Option Addr))
variable (hf1 : ∀ p run main, run.length + 1 ≠ 17 → f (it p) (main, run) = pure (.yield (main, run ++ [p])))
variable (hf2 : ∀ p run main, run.length + 1 = 17 → f (it p) (main, run) = (do let m ← FL (run ++ [p]) main; pure (.yield (m, []))))
include hf1 hf2
theorem gather : ∀ (c run rest : List (Sem Value × Sem Value)) (main : Option Addr), run.length + c.length = 17 → c ≠ [] →
    forIn ((c ++ rest).map it) (main, run) f = (do let m ← FL (run ++ c) main; forIn (rest.map it) (m, []) f)
  | [], _, _, _, _, h => absurd rfl h
  | [p], run, rest, main, hl, _ => by
    rw [List.singleton_append, List.map_cons, List.forIn_cons, hf2 p run main (by simpa using hl), bind_assoc]
    simp only [pure_bind]
  | p :: q :: c, run, rest, main, hl, _ => by
    rw [List.cons_append, List.map_cons, List.forIn_cons, hf1 p run main (by simp at hl; omega), pure_bind]
    show forIn (((q :: c) ++ rest).map it) (main, run ++ [p]) f = _
    rw [gather (q :: c) (run ++ [p]) rest main (by simp at hl ⊢; omega) (by simp), List.append_assoc]
    rfl
theorem gatherEnd : ∀ (c run : List (Sem Value × Sem Value)) (main : Option Addr), run.length + c.length < 17 → forIn (c.map it) (main, run) f = pure (main, run ++ c)
  | [], run, main, _ => by simp
  | p :: c, run, main, hl => by
    rw [List.map_cons, List.forIn_cons, hf1 p run main (by simp at hl; omega), pure_bind]
    show forIn (c.map it) (main, run ++ [p]) f = _
    rw [gatherEnd c (run ++ [p]) main (by simp at hl ⊢; omega), List.append_assoc]
    rfl
end
section
variable {os : OsState} {l : List Obj}
theorem ev_flush (w : World) (b : Bool) (pos : Pos) (hd : Addr → Value → Sem Unit) (hl : Nat.ble 11 l.length = true) {kvs : List KV} {es ns : List DictEntry} {mid : List Obj} {n tk k : Nat} {lo : Int}
    (hs : Ev (w.withFollow "special-get-raises" b) k (subDict (kvs.map (pairOf pos))) (shd (hpl (l ++ dictOf es n :: mid)) tk os) (l ++ dictOf es n :: mid).length (shd (hpl ((l ++ dictOf es n :: mid) ++ [dictOf ns kvs.length])) (tk + 3 * kvs.length) os))
    (ha : ascE lo ns) (hk : ns.length = kvs.length) (he : ∀ e ∈ es, e.hash < lo) (h0 : es ≠ []) (hz : es.length + kvs.length < 1000) :
    Ev (w.withFollow "special-get-raises" b) (k + (5 + 6 * kvs.length + 0)) (do
        let sub ← holding [Value.ref l.length] (subDict (kvs.map (pairOf pos)))
        (holding [Value.ref l.length, Value.ref sub] (mergeMapping l.length (Value.ref sub) false)).onRaise (hd sub)
        pure (some l.length) : Sem (Option Addr))
      (shd (hpl (l ++ dictOf es n :: mid)) tk os) (some l.length) (shd (hpl (l ++ dictOf (es ++ ns) (n + kvs.length) :: (mid ++ [dictOf ns kvs.length]))) (tk + 3 * kvs.length) os) := by
  refine ev_bind (ev_holding _ hs) ?_
  refine ev_bind (a := ()) (ev_onRaise _ (ev_holding _ ?_)) (ev_pure _)
  have := ev_merge (w := w.withFollow "special-get-raises" b) (os := os) (l := l) (mid := mid) (n := n) (na := kvs.length) (tk := tk + 3 * kvs.length) hl ha he h0 (by rw [hk]; exact hz)
  rw [hk] at this
  rw [List.append_assoc, List.cons_append, show (l ++ dictOf es n :: mid).length = l.length + 1 + mid.length by rw [List.length_append, List.length_cons]; omega]
  exact this
theorem ev_chunks (w : World) (b : Bool) (pos : Pos) (hd : Addr → Addr → Value → Sem Unit) (hl : Nat.ble 11 l.length = true)
    (f : (Option (Sem Value) × Sem Value) → LS → Sem (ForInStep LS)) (FL : List (Sem Value × Sem Value) → Option Addr → Sem (Option Addr))
    (hf1 : ∀ p run main, run.length + 1 ≠ 17 → f (it p) (main, run) = pure (.yield (main, run ++ [p])))
    (hf2 : ∀ p run main, run.length + 1 = 17 → f (it p) (main, run) = (do let m ← FL (run ++ [p]) main; pure (.yield (m, []))))
    (hFL : ∀ run d, run ≠ [] → FL run (some d) = (do
        let sub ← holding [Value.ref d] (subDict run)
        (holding [Value.ref d, Value.ref sub] (mergeMapping d (Value.ref sub) false)).onRaise (hd d sub)
        pure (some d))) (last : List KV) (hlast : last.length < 17) :
    ∀ (cs : List (List KV)) (es : List DictEntry) (mid : List Obj) (n tk : Nat) (lo : Int), (∀ c ∈ cs, c.length = 17) → asc lo (cs.flatten ++ last) = true → (∀ e ∈ es, e.hash < lo) → es ≠ [] → es.length + 17 * cs.length < 1000 →
    Ev (w.withFollow "special-get-raises" b) (330 * cs.length) (forIn (((cs.flatten ++ last).map (pairOf pos)).map it) (some l.length, []) f)
      (shd (hpl (l ++ dictOf es n :: mid)) tk os) (some l.length, last.map (pairOf pos)) (shd (hpl (l ++ dictOf (es ++ entsAll tk cs) (n + 17 * cs.length) :: (mid ++ subsAll tk cs))) (tk + 51 * cs.length) os)
  | [], es, mid, n, tk, lo, hc, ha, he, h0, hz => by
    rw [List.flatten_nil, List.nil_append, gatherEnd f FL hf1 hf2 _ [] _ (by simpa using hlast), entsAll, subsAll, List.append_nil, List.append_nil, List.nil_append]
    exact ev_pure _
  | c :: cs, es, mid, n, tk, lo, hc, ha, he, h0, hz => by
    have c17 : c.length = 17 := hc c (.head _)
    rw [List.flatten_cons, List.append_assoc] at ha ⊢
    obtain ⟨a1, lo', a2, a3, a4⟩ := asc_split _ _ _ ha
    rw [List.length_cons] at hz ⊢
    rw [List.map_append, gather f FL hf1 hf2 (c.map (pairOf pos)) [] _ _ (by simpa using c17) (by intro e; rw [List.map_eq_nil_iff] at e; rw [e] at c17; cases c17), List.nil_append,
      hFL _ _ (by intro e; rw [List.map_eq_nil_iff] at e; rw [e] at c17; cases c17)]
    rw [show 330 * (cs.length + 1) = (2 + 13 * c.length + (5 + 6 * c.length + 0)) + 330 * cs.length by rw [c17]; omega]
    have hs := ev_sub (os := os) (l := l ++ dictOf es n :: mid) w b pos (by
      have := Nat.le_of_ble_eq_true hl
      exact Nat.ble_eq_true_of_le (by rw [List.length_append]; omega)) (tk := tk) a1 (by omega) (by omega)
    refine ev_bind (ev_flush w b pos (hd l.length) hl hs (ascE_ents c tk lo a1) (ents_length _ _) he h0 (by omega)) ?_
    have := ev_chunks w b pos hd hl f FL hf1 hf2 hFL last hlast cs (es ++ ents tk c) (mid ++ [dictOf (ents tk c) c.length]) (n + c.length) (tk + 3 * c.length) lo' (fun x hx => hc x (.tail _ hx)) a2 (fun e hm => by
      rcases List.mem_append.mp hm with hm | hm
      · have := he e hm; omega
      · obtain ⟨x, hx, e'⟩ := ents_hash c tk lo a1 e hm
        rw [e']; exact a4 x hx) (by intro e; exact h0 (List.append_eq_nil_iff.mp e).1) (by rw [List.length_append, ents_length]; omega)
    rw [c17] at this ⊢
    rw [entsAll, subsAll, show n + 17 * (cs.length + 1) = n + 17 + 17 * cs.length by omega, show tk + 51 * (cs.length + 1) = tk + 3 * 17 + 51 * cs.length by omega]
    rw [List.append_assoc, List.append_assoc] at this
    exact this
theorem ev_display (w : World) (b : Bool) (pos : Pos) (hl : Nat.ble 11 l.length = true) (c : List KV) (cs : List (List KV)) (last : List KV) (lo : Int) (tk : Nat)
    (c17 : c.length = 17) (hc : ∀ c ∈ cs, c.length = 17) (h1 : 0 < last.length) (h2 : last.length ≤ 15) (ha : asc lo (c ++ (cs.flatten ++ last)) = true) (hz : 17 * cs.length < 900) :
    Ev (w.withFollow "special-get-raises" b) (223 + (330 * cs.length + (1 + 13 * last.length + (5 + 6 * last.length)))) (dictDisplay (((c ++ (cs.flatten ++ last)).map (pairOf pos)).map it))
      (shd (hpl l) tk os) (.ref l.length)
      (shd (hpl (l ++ dictOf (ents tk c ++ entsAll (tk + 51) cs ++ ents2 (tk + 51 + 51 * cs.length) last) (17 + 17 * cs.length + last.length) :: (subsAll (tk + 51) cs ++ [dictOf (ents2 (tk + 51 + 51 * cs.length) last) last.length])))
        (tk + 51 + 51 * cs.length + 3 * last.length) os) := by
  obtain ⟨a1, lo', a2, a3, a4⟩ := asc_split _ _ _ ha
  have aL := asc_split _ _ _ a2
  obtain ⟨b1, lo'', b2, b3, b4⟩ := aL
  unfold dictDisplay
  dsimp only
  rw [List.map_append]
  rw [gather _ (fun run main => if run.isEmpty = true then pure main else match main with
      | none => do let d ← subDict run; pure (some d)
      | some d => do
        let sub ← holding [Value.ref d] (subDict run)
        (holding [Value.ref d, Value.ref sub] (mergeMapping d (Value.ref sub) false)).onRaise fun x => do
            let _ ← holding [Value.ref d, x] (runValue (Code.builtin "proto.let_go" { }))
            pure ()
        pure (some d)) (fun p run main h => by
      have hne : ((run ++ [(p.1, p.2)]).length == 17) = false := by simp; omega
      simp only [hne, Bool.false_eq_true, if_false]) (fun p run main h => by
      have hne : ((run ++ [(p.1, p.2)]).length == 17) = true := by simp; omega
      simp only [hne, if_true]
      rfl) (c.map (pairOf pos)) [] _ _ (by simpa using c17) (by intro e; rw [List.map_eq_nil_iff] at e; rw [e] at c17; cases c17)]
  have hcne : (([] : List (Sem Value × Sem Value)) ++ c.map (pairOf pos)).isEmpty = false := by
    cases c with
    | nil => cases c17
    | cons => rfl
  rw [bind_assoc]
  rw [show 223 + (330 * cs.length + (1 + 13 * last.length + (5 + 6 * last.length))) = (2 + 13 * c.length + 0) + (330 * cs.length + ((1 + 13 * last.length + (5 + 6 * last.length + 0)) + 0)) by rw [c17]; omega]
  refine ev_bind (a := some l.length) (s₁ := shd (hpl (l ++ [dictOf (ents tk c) c.length])) (tk + 3 * c.length) os) ?_ ?_
  · rw [hcne]
    simp only [Bool.false_eq_true, if_false]
    exact ev_bind (ev_sub w b pos hl a1 (by omega) (by omega)) (ev_pure _)
  have hE : ents tk c ≠ [] := by
    cases c with
    | nil => cases c17
    | cons => intro e; cases e
  have hEl : ∀ e ∈ ents tk c, e.hash < lo' := fun e hm => by
    obtain ⟨x, hx, e'⟩ := ents_hash c tk lo a1 e hm
    rw [e']; exact a4 x hx
  refine ev_bind (ev_chunks (os := os) w b pos (fun d sub x => do
            let _ ← holding [Value.ref d, x] (runValue (Code.builtin "proto.let_go" { }))
            pure ()) hl _ (fun run main => if run.isEmpty = true then pure main else match main with
      | none => do let d ← subDict run; pure (some d)
      | some d => do
        let sub ← holding [Value.ref d] (subDict run)
        (holding [Value.ref d, Value.ref sub] (mergeMapping d (Value.ref sub) false)).onRaise fun x => do
            let _ ← holding [Value.ref d, x] (runValue (Code.builtin "proto.let_go" { }))
            pure ()
        pure (some d)) (fun p run main h => by
      have hne : ((run ++ [(p.1, p.2)]).length == 17) = false := by simp; omega
      simp only [hne, Bool.false_eq_true, if_false]) (fun p run main h => by
      have hne : ((run ++ [(p.1, p.2)]).length == 17) = true := by simp; omega
      simp only [hne, if_true]
      rfl) (fun run d h => by
      have hne : run.isEmpty = false := by
        cases run with
        | nil => exact absurd rfl h
        | cons => rfl
      simp only [hne, Bool.false_eq_true, if_false]) last (by omega) cs (ents tk c) [] c.length (tk + 3 * c.length) lo' hc a2 hEl hE (by rw [ents_length]; omega)) ?_
  have hlne : (last.map (pairOf pos)).isEmpty = false := by
    cases last with
    | nil => cases h1
    | cons => rfl
  dsimp only
  rw [hlne]
  simp only [Bool.false_eq_true, if_false]
  have h1' : Nat.ble 11 (l ++ dictOf (ents tk c ++ entsAll (tk + 3 * c.length) cs) (c.length + 17 * cs.length) :: ([] ++ subsAll (tk + 3 * c.length) cs)).length = true := by
    have := Nat.le_of_ble_eq_true hl
    exact Nat.ble_eq_true_of_le (by rw [List.length_append]; omega)
  have hE2 : ∀ e ∈ ents tk c ++ entsAll (tk + 3 * c.length) cs, e.hash < lo'' := fun e hm => by
    rcases List.mem_append.mp hm with hm | hm
    · have := hEl e hm; omega
    · obtain ⟨x, hx, e'⟩ := entsAll_hash cs (tk + 3 * c.length) lo' b1 e hm
      rw [e']; exact b4 x hx
  have hfl := ev_flush (os := os) (l := l) w b pos (fun sub x => do
            let _ ← holding [Value.ref l.length, x] (runValue (Code.builtin "proto.let_go" { }))
            pure ()) hl (ev_subShort (os := os) w b pos h1' (tk := tk + 3 * c.length + 51 * cs.length) b2 h2) (ascE_ents2 last _ lo'' b2) (ents2_length _ _) hE2 (by intro e; exact hE (List.append_eq_nil_iff.mp e).1) (by
      rw [List.length_append, ents_length, entsAll_length cs _ hc]; omega)
  refine ev_bind (a := some l.length) ?_ (ev_pure _)
  rw [c17] at hfl ⊢
  rw [List.nil_append] at hfl ⊢
  exact hfl
end
end
theorem join_tick_Hd7_0 : True := by
  w_top off
  first | walk1 | exact trivial
section
noncomputable def kvOk : List (Option PySem.Expr) → List PySem.Expr → Bool
  | k :: ks, v :: vs => (kInt k).isSome && ((vStr v).isSome && kvOk ks vs)
  | [], [] => true
  | _, _ => false
theorem kInt_some {k : Option PySem.Expr} (h : (kInt k).isSome = true) : ∃ n p q, k = some (.Constant (.int n) p q) := by
  unfold kInt at h
  split at h
  · exact ⟨_, _, _, rfl⟩
  · cases h
theorem vStr_some {v : PySem.Expr} (h : (vStr v).isSome = true) : ∃ n p q, v = .Constant (.str n) p q := by
  unfold vStr at h
  split at h
  · exact ⟨_, _, _, rfl⟩
  · cases h
theorem items_eq (pos : Pos) (env : Env) : ∀ (ks : List (Option PySem.Expr)) (vs : List PySem.Expr), kvOk ks vs = true →
    (evalEachOpt ks env).zip ((evalEach vs env).map fun v => do let x ← v; standAt pos; pure x) = ((kvOf ks vs).map (pairOf pos)).map it
  | k :: ks, v :: vs, h => by
    have h1 := Bool.and_eq_true_iff.mp (show ((kInt k).isSome && ((vStr v).isSome && kvOk ks vs)) = true from h)
    have h2 := Bool.and_eq_true_iff.mp h1.2
    obtain ⟨n, p, q, rfl⟩ := kInt_some h1.1
    obtain ⟨m, p', q', rfl⟩ := vStr_some h2.1
    have := items_eq pos env ks vs h2.2
    show _ :: List.zip (evalEachOpt ks env) ((evalEach vs env).map _) = it (pairOf pos (n, m)) :: ((kvOf ks vs).map (pairOf pos)).map it
    rw [this]
    rfl
  | [], [], _ => rfl
  | [], _ :: _, h => by cases h
  | _ :: _, [], h => by cases h
theorem kv8_ok : kvOk (dKeys (stm 8)) (dVals (stm 8)) = true := by decide +kernel
theorem kv8_len : kv8.length = 650 := by decide +kernel
theorem kv8_asc : asc 0 kv8 = true := by decide +kernel
noncomputable def aPos : Stmt → Pos
  | .Assign _ _ p => p
  | _ => default
noncomputable def aT : Stmt → Str
  | .Assign [.Name t _] _ _ => t
  | _ => default
noncomputable def aTp : Stmt → Pos
  | .Assign [.Name _ p] _ _ => p
  | _ => default
theorem assign_dict (t : Str) (tp ap dp : Pos) (ks : List (Option PySem.Expr)) (vs : List PySem.Expr) (env : Env) :
    exec (.Assign [.Name t tp] (.Dict ks vs dp) ap) env = (do standAt ap; standAt dp; let v ← dictDisplay ((evalEachOpt ks env).zip ((evalEach vs env).map fun v => do let x ← v; standAt dp; pure x)); assignStores env v none [fun v => assign (.Name t tp) env v]) := by
  kernel_rfl!
theorem stm8_is : stm 8 = .Assign [.Name (aT (stm 8)) (aTp (stm 8))] (.Dict (dKeys (stm 8)) (dVals (stm 8)) (dPos (stm 8))) (aPos (stm 8)) := by kernel_rfl!
noncomputable def H8 (P : Params) : List Obj := (tr8 P).list 93
theorem chunks_flat : ∀ (n : Nat) (l : List KV), (chunks17 n l).flatten ++ l.drop (17 * n) = l
  | 0, l => by simp [chunks17]
  | n + 1, l => by
    have := chunks_flat n (l.drop 17)
    rw [List.drop_drop] at this
    rw [chunks17, List.flatten_cons, List.append_assoc, show 17 * (n + 1) = 17 + 17 * n by omega, this, List.take_append_drop]
theorem chunks_len : ∀ (n : Nat) (l : List KV), 17 * n ≤ l.length → ∀ c ∈ chunks17 n l, c.length = 17
  | 0, _, _, _, h => nomatch h
  | n + 1, l, hl, c, h => by
    rcases List.mem_cons.mp h with rfl | h
    · rw [List.length_take]; omega
    · exact chunks_len n _ (by rw [List.length_drop]; omega) c h
theorem chunks_num : ∀ (n : Nat) (l : List KV), (chunks17 n l).length = n
  | 0, _ => rfl
  | n + 1, l => by rw [chunks17, List.length_cons, chunks_num]
theorem kv8_split : c8 ++ (cs8.flatten ++ last8) = kv8 := by
  have := chunks_flat 37 (kv8.drop 17)
  rw [List.drop_drop] at this
  unfold c8 cs8 last8
  rw [this, List.take_append_drop]
noncomputable def objB3 (P : Params) : List Obj := H8 P ++ dictOf (ents 346 c8 ++ entsAll 397 cs8 ++ ents2 2284 last8) 650 :: (subsAll 397 cs8 ++ [dictOf (ents2 2284 last8) 4])
theorem run8 (w : World) (b : Bool) (os : OsState) : Ev (w.withFollow "special-get-raises" b) (1 + (1 + (223 + (330 * 37 + (1 + 13 * 4 + (5 + 6 * 4)))))) (do standAt (aPos (stm 8)); standAt (dPos (stm 8)); dictDisplay ((kv8.map (pairOf (dPos (stm 8)))).map it))
    (shd (hpl (H8 (w.withFollow "special-get-raises" b).params)) 346 os) (.ref 93) (shd (hpl (objB3 (w.withFollow "special-get-raises" b).params)) 2296 os) := by
  have hl : (H8 (w.withFollow "special-get-raises" b).params).length = 93 := by unfold H8 BT.list; rw [List.length_map, List.length_range]
  refine ev_bind (ev_at _) (ev_bind (ev_at _) ?_)
  have h4 : last8.length = 4 := by unfold last8; rw [List.length_drop, kv8_len]
  have h17 : c8.length = 17 := by unfold c8; rw [List.length_take, kv8_len]; rfl
  have h37 : cs8.length = 37 := chunks_num _ _
  have := ev_display (os := os) (l := H8 (w.withFollow "special-get-raises" b).params) w b (dPos (stm 8)) (by rw [hl]; rfl) c8 cs8 last8 0 346 h17 (chunks_len _ _ (by rw [List.length_drop, kv8_len]; decide)) (by rw [h4]; decide) (by rw [h4]; decide)
    (by rw [kv8_split]; exact kv8_asc) (by rw [h37]; decide)
  rw [kv8_split, h4, h37, hl] at this
  exact this
noncomputable def K8 : Flow → Sem Fin := fun f => match f with
  | .next => (execs [] env0).wrap doneF deadEnd id id
  | f => doneF f
theorem fin8 (w : World) (os : OsState) (pos : Pos) : segRun treeTable p0 w 11 ann0 1 8 (shd (hpl (objB3 w.params)) 2296 os) ⟨(assignStores env0 (.ref 93) none [fun v => assign (.Name (aT (stm 8)) (aTp (stm 8))) env0 v]).wrap K8 deadEnd id id, code0, pos, B0⟩ = some (.next, (sT tr9 132 2297 w os).abs, code0, ⟨90, 0, 90, 13⟩) := by
  rw [PySem.W.Fast.te14374325043358763698]; kernel_rfl!
noncomputable def P8 (w : World) : Prop := ∀ os : OsState, segRun treeTable p0 w 11 ann0 1 12525 (sT tr8 93 346 w os).abs (piecesOf [stm 8] env0 code0 ⟨88, 0, 89, 30⟩ B0) = some (.next, (sT tr9 132 2297 w os).abs, code0, ⟨90, 0, 90, 13⟩)
theorem exec8 : exec (stm 8) env0 = (do standAt (aPos (stm 8)); standAt (dPos (stm 8)); let v ← dictDisplay ((kv8.map (pairOf (dPos (stm 8)))).map it); assignStores env0 v none [fun v => assign (.Name (aT (stm 8)) (aTp (stm 8))) env0 v]) :=
  (congrArg (fun s => exec s env0) stm8_is).trans ((assign_dict _ _ _ _ _ _ _).trans (by rw [items_eq _ _ _ _ kv8_ok]; unfold kv8; exact Eq.refl _))
noncomputable abbrev X8 : Sem Value := do standAt (aPos (stm 8)); standAt (dPos (stm 8)); dictDisplay ((kv8.map (pairOf (dPos (stm 8)))).map it)
theorem wrap8 (st : Stmt) (X : Sem Value) (Y : Value → Sem Flow) (h : exec st env0 = X >>= Y) : (execs [st] env0).wrap doneF deadEnd id id = X.wrap (fun v => (Y v).wrap K8 deadEnd id id) deadEnd id id := by
  rw [execs_cons_wrap, h, Sem.bind_eq_wrap', Sem.wrap_wrap]
  rfl
theorem exec8' : exec (stm 8) env0 = X8 >>= fun v => assignStores env0 v none [fun v => assign (.Name (aT (stm 8)) (aTp (stm 8))) env0 v] := by
  rw [exec8]; unfold X8; simp only [bind_assoc]
theorem pc8b (w : World) (b : Bool) : P8 (w.withFollow "special-get-raises" b) := fun os => by
  obtain ⟨pos', e⟩ := run8 w b os (fun v => (assignStores env0 v none [fun v => assign (.Name (aT (stm 8)) (aTp (stm 8))) env0 v]).wrap K8 deadEnd id id) deadEnd id id ⟨88, 0, 89, 30⟩
  have q := wrap8 _ _ _ exec8'
  unfold piecesOf
  rw [q]
  exact seg_go (n := 12517) (N := 8) e (fin8 _ os pos')
theorem pc8 (w : World) (os : OsState) : segRun treeTable p0 w 11 ann0 1 12525 (sT tr8 93 346 w os).abs (piecesOf [stm 8] env0 code0 ⟨88, 0, 89, 30⟩ B0) = some (.next, (sT tr9 132 2297 w os).abs, code0, ⟨90, 0, 90, 13⟩) :=
  byRow2 "special-get-raises" (P := P8) (fun w => pc8b w false) (fun w => pc8b w true) w os
end
theorem join_tick_Hd8_0 : True := by
  w_top off
  first | walk1 | exact trivial
section
theorem body_is : behindTheImports p0 = [stm 0] ++ ([stm 1] ++ ([stm 2] ++ ([stm 3] ++ ([stm 4] ++ ([stm 5] ++ ([stm 6] ++ ([stm 7] ++ ([stm 8] ++ ([stm 9] ++ ([stm 10] ++ ([stm 11] ++ ([stm 12] ++ ([stm 13] ++ ([stm 14] ++ [])))))))))))))) := by kernel_rfl!
theorem opening_is : opening p0 = plainProg p0.main.scope.names := by kernel_rfl!
theorem fence_is (s : Shared) : fenceModules? p0 s = some s := by rw [PySem.W.Fast.te14289696077712309145]; kernel_rfl!
theorem open_is : ∀ w : World, (fencedOpening treeTable p0 w 20000).map (fun s => (s.heap, s.gens, s.drawn, s.toks)) = some (boot_heap w.params, Array.mk [], boot_drawn, boot_toks) := boot_open opening_is (by decide) fence_is
theorem size_is (w : World) : ((boot_heap w.params).isNs mainGlobals && (#[] : Array GenState).size == 0, (boot_heap w.params).objs.size, (boot_heap w.params).nsMap mainGlobals "__annotations__") = (true, 11, ann0) := by
  rw [PySem.W.Fast.te8920871248978507458]; kernel_rfl!
theorem pre_is (w : World) (os : OsState) : topGo treeTable p0 w 11 ann0 12 ⟨boot_heap w.params, #[], boot_drawn, boot_toks, os⟩ (topStub p0) = some (⟨hp0 w.params, #[], {}, 187, os⟩, ⟨denote treeTable code0, code0, ⟨0, 0, 0, 0⟩, B0⟩) := by
  rw [PySem.W.Fast.te15667345088766844465, PySem.W.Fast.te11892475500146522536]; kernel_rfl!
theorem block_is (w : World) (os : OsState) : segRun treeTable p0 w 11 ann0 1 1 ⟨hp0 w.params, #[], {}, 187, os⟩ (blockOf (behindTheImports p0) env0 code0 ⟨0, 0, 0, 0⟩ B0) = some (.next, (sT tr0 15 187 w os).abs, code0, ⟨0, 0, 0, 0⟩) := by
  rw [PySem.W.Fast.te14374325043358763698]; kernel_rfl!
theorem fin_is (w : World) (os : OsState) : topRun treeTable p0 w 11 ann0 2 (sT tr15 163 2343 w os).abs ⟨doneF .next, code0, ⟨163, 0, 193, 15⟩, B0⟩ = some (sT tr15 163 2343 w os).abs := by
  rw [PySem.W.Fast.te14082659384304107361]; kernel_rfl!
end
theorem join_tick_Hd9_0 : True := by
  w_top off
  first | walk1 | exact trivial
section
noncomputable def L15 : List Stmt := []
noncomputable def L14 : List Stmt := [stm 14] ++ L15
noncomputable def L13 : List Stmt := [stm 13] ++ L14
noncomputable def L12 : List Stmt := [stm 12] ++ L13
noncomputable def L11 : List Stmt := [stm 11] ++ L12
noncomputable def L10 : List Stmt := [stm 10] ++ L11
noncomputable def L9 : List Stmt := [stm 9] ++ L10
noncomputable def L8 : List Stmt := [stm 8] ++ L9
noncomputable def L7 : List Stmt := [stm 7] ++ L8
noncomputable def L6 : List Stmt := [stm 6] ++ L7
noncomputable def L5 : List Stmt := [stm 5] ++ L6
noncomputable def L4 : List Stmt := [stm 4] ++ L5
noncomputable def L3 : List Stmt := [stm 3] ++ L4
noncomputable def L2 : List Stmt := [stm 2] ++ L3
noncomputable def L1 : List Stmt := [stm 1] ++ L2
noncomputable def L0 : List Stmt := [stm 0] ++ L1
theorem r15 (w : World) (os : OsState) : topRun treeTable p0 w 11 ann0 2 (sT tr15 163 2343 w os).abs (restOf L15 env0 code0 ⟨163, 0, 193, 15⟩ B0) = some (sT tr15 163 2343 w os).abs := fin_is w os
theorem r14 (w : World) (os : OsState) : topRun treeTable p0 w 11 ann0 (27 + 2) (sT tr14 158 2337 w os).abs (restOf L14 env0 code0 ⟨136, 0, 162, 16⟩ B0) = some (sT tr15 163 2343 w os).abs :=
  piece_app (n := 27) (N := 2) (l := [stm 14]) (rest := L15) (q := ⟨0, 0, 0, 0⟩) (segRun_of (pc14 w os)) (r15 w os)
theorem r13 (w : World) (os : OsState) : topRun treeTable p0 w 11 ann0 (27 + 29) (sT tr13 153 2331 w os).abs (restOf L13 env0 code0 ⟨120, 0, 135, 26⟩ B0) = some (sT tr15 163 2343 w os).abs :=
  piece_app (n := 27) (N := 29) (l := [stm 13]) (rest := L14) (q := ⟨0, 0, 0, 0⟩) (segRun_of (pc13 w os)) (r14 w os)
theorem r12 (w : World) (os : OsState) : topRun treeTable p0 w 11 ann0 (35 + 56) (sT tr12 146 2319 w os).abs (restOf L12 env0 code0 ⟨97, 0, 119, 23⟩ B0) = some (sT tr15 163 2343 w os).abs :=
  piece_app (n := 35) (N := 56) (l := [stm 12]) (rest := L13) (q := ⟨0, 0, 0, 0⟩) (segRun_of (pc12 w os)) (r13 w os)
theorem r11 (w : World) (os : OsState) : topRun treeTable p0 w 11 ann0 (35 + 91) (sT tr11 139 2307 w os).abs (restOf L11 env0 code0 ⟨96, 0, 96, 8⟩ B0) = some (sT tr15 163 2343 w os).abs :=
  piece_app (n := 35) (N := 91) (l := [stm 11]) (rest := L12) (q := ⟨0, 0, 0, 0⟩) (segRun_of (pc11 w os)) (r12 w os)
theorem r10 (w : World) (os : OsState) : topRun treeTable p0 w 11 ann0 (10 + 126) (sT tr10 139 2305 w os).abs (restOf L10 env0 code0 ⟨91, 0, 95, 23⟩ B0) = some (sT tr15 163 2343 w os).abs :=
  piece_app (n := 10) (N := 126) (l := [stm 10]) (rest := L11) (q := ⟨0, 0, 0, 0⟩) (segRun_of (pc10 w os)) (r11 w os)
theorem r9 (w : World) (os : OsState) : topRun treeTable p0 w 11 ann0 (31 + 136) (sT tr9 132 2297 w os).abs (restOf L9 env0 code0 ⟨90, 0, 90, 13⟩ B0) = some (sT tr15 163 2343 w os).abs :=
  piece_app (n := 31) (N := 136) (l := [stm 9]) (rest := L10) (q := ⟨0, 0, 0, 0⟩) (segRun_of (pc9 w os)) (r10 w os)
theorem r8 (w : World) (os : OsState) : topRun treeTable p0 w 11 ann0 (12525 + 167) (sT tr8 93 346 w os).abs (restOf L8 env0 code0 ⟨88, 0, 89, 30⟩ B0) = some (sT tr15 163 2343 w os).abs :=
  piece_app (n := 12525) (N := 167) (l := [stm 8]) (rest := L9) (q := ⟨0, 0, 0, 0⟩) (pc8 w os) (r9 w os)
theorem r7 (w : World) (os : OsState) : topRun treeTable p0 w 11 ann0 (30 + 12692) (sT tr7 86 339 w os).abs (restOf L7 env0 code0 ⟨87, 0, 87, 6⟩ B0) = some (sT tr15 163 2343 w os).abs :=
  piece_app (n := 30) (N := 12692) (l := [stm 7]) (rest := L8) (q := ⟨0, 0, 0, 0⟩) (segRun_of (pc7 w os)) (r8 w os)
theorem r6 (w : World) (os : OsState) : topRun treeTable p0 w 11 ann0 (999 + 12722) (sT tr6 75 279 w os).abs (restOf L6 env0 code0 ⟨86, 0, 86, 8⟩ B0) = some (sT tr15 163 2343 w os).abs :=
  piece_app (n := 999) (N := 12722) (l := [stm 6]) (rest := L7) (q := ⟨0, 0, 0, 0⟩) (pc6 w os) (r7 w os)
theorem r5 (w : World) (os : OsState) : topRun treeTable p0 w 11 ann0 (10 + 13721) (sT tr5 75 277 w os).abs (restOf L5 env0 code0 ⟨66, 0, 85, 13⟩ B0) = some (sT tr15 163 2343 w os).abs :=
  piece_app (n := 10) (N := 13721) (l := [stm 5]) (rest := L6) (q := ⟨0, 0, 0, 0⟩) (segRun_of (pc5 w os)) (r6 w os)
theorem r4 (w : World) (os : OsState) : topRun treeTable p0 w 11 ann0 (42 + 13731) (sT tr4 66 263 w os).abs (restOf L4 env0 code0 ⟨46, 0, 65, 13⟩ B0) = some (sT tr15 163 2343 w os).abs :=
  piece_app (n := 42) (N := 13731) (l := [stm 4]) (rest := L5) (q := ⟨0, 0, 0, 0⟩) (segRun_of (pc4 w os)) (r5 w os)
theorem r3 (w : World) (os : OsState) : topRun treeTable p0 w 11 ann0 (42 + 13773) (sT tr3 57 249 w os).abs (restOf L3 env0 code0 ⟨45, 0, 45, 8⟩ B0) = some (sT tr15 163 2343 w os).abs :=
  piece_app (n := 42) (N := 13773) (l := [stm 3]) (rest := L4) (q := ⟨0, 0, 0, 0⟩) (segRun_of (pc3 w os)) (r4 w os)
theorem r2 (w : World) (os : OsState) : topRun treeTable p0 w 11 ann0 (10 + 13815) (sT tr2 57 247 w os).abs (restOf L2 env0 code0 ⟨2, 0, 44, 35⟩ B0) = some (sT tr15 163 2343 w os).abs :=
  piece_app (n := 10) (N := 13815) (l := [stm 2]) (rest := L3) (q := ⟨0, 0, 0, 0⟩) (segRun_of (pc2 w os)) (r3 w os)
theorem r1 (w : World) (os : OsState) : topRun treeTable p0 w 11 ann0 (324 + 13825) (sT tr1 15 189 w os).abs (restOf L1 env0 code0 ⟨1, 0, 1, 8⟩ B0) = some (sT tr15 163 2343 w os).abs :=
  piece_app (n := 324) (N := 13825) (l := [stm 1]) (rest := L2) (q := ⟨0, 0, 0, 0⟩) (segRun_of (pc1 w os)) (r2 w os)
theorem r0 (w : World) (os : OsState) : topRun treeTable p0 w 11 ann0 (10 + 14149) (sT tr0 15 187 w os).abs (restOf L0 env0 code0 ⟨0, 0, 0, 0⟩ B0) = some (sT tr15 163 2343 w os).abs :=
  piece_app (n := 10) (N := 14149) (l := [stm 0]) (rest := L1) (q := ⟨0, 0, 0, 0⟩) (segRun_of (pc0 w os)) (r1 w os)
theorem rest_is (w : World) (os : OsState) : topRun treeTable p0 w 11 ann0 14159 (sT tr0 15 187 w os).abs (restOf (behindTheImports p0) env0 code0 ⟨0, 0, 0, 0⟩ B0) = some (sT tr15 163 2343 w os).abs := by
  have e : behindTheImports p0 = L0 := body_is
  rw [e]
  exact r0 w os
theorem run_is (w : World) (os : OsState) : topRun treeTable p0 w 11 ann0 14172 ⟨boot_heap w.params, #[], boot_drawn, boot_toks, os⟩ (topStub p0) = some (sT tr15 163 2343 w os).abs :=
  go_top (n := 12) (N := 14160) (pre_is w os) (piece_block (n := 1) (N := 14159) (block_is w os) (rest_is w os))
noncomputable def H1 (P : Params) : Heap := absHeap (tr15 P) 163 lifeE
noncomputable def Kf (P : Params) : Frag := [(0, PySem.W.boot_o_0 P), (1, PySem.W.boot_o_1 P), (2, PySem.W.boot_o_2 P), (3, q3_15 P), (4, PySem.W.boot_o_4 P), (5, PySem.W.boot_o_5 P), (6, PySem.W.boot_o_6 P), (7, PySem.W.boot_o_7 P), (8, PySem.W.boot_o_8 P), (9, PySem.W.boot_o_9 P), (10, PySem.W.boot_o_10 P), (11, q11_0 P), (12, q12_15 P), (13, q13_0 P), (14, q14_0 P), (15, q15_2 P), (16, q16_2 P), (17, q17_2 P), (18, q18_2 P), (19, q19_2 P), (20, q20_2 P), (21, q21_2 P), (22, q22_2 P), (23, q23_2 P), (24, q24_2 P), (25, q25_2 P), (26, q26_2 P), (27, q27_2 P), (28, q28_2 P), (29, q29_2 P), (30, q30_2 P), (31, q31_2 P), (32, q32_2 P), (33, q33_2 P), (34, q34_2 P), (35, q35_2 P), (36, q36_2 P), (37, q37_2 P), (38, q38_2 P), (39, q39_2 P), (40, q40_2 P), (41, q41_2 P), (42, q42_2 P), (43, q43_2 P), (44, q44_2 P), (45, q45_2 P), (46, q46_2 P), (47, q47_2 P), (48, q48_2 P), (49, q49_2 P), (50, q50_2 P), (51, q51_2 P), (52, q52_2 P), (53, q53_2 P), (54, q54_2 P), (55, q55_2 P), (56, q56_2 P), (57, q57_4 P), (58, q58_4 P), (59, q59_4 P), (60, q60_4 P), (61, q61_4 P), (62, q62_4 P), (63, q63_4 P), (64, q64_4 P), (65, q65_4 P), (66, q66_5 P), (67, q67_5 P), (68, q68_5 P), (69, q69_5 P), (70, q70_5 P), (71, q71_5 P), (72, q72_5 P), (73, q73_5 P), (74, q74_5 P), (75, q75_7 P), (76, q76_7 P), (77, q77_7 P), (78, q78_7 P), (79, q79_7 P), (80, q80_7 P), (81, q81_7 P), (82, q82_7 P), (83, q83_7 P), (84, q84_7 P), (85, q85_7 P), (86, q86_8 P), (87, q87_8 P), (88, q88_8 P), (89, q89_8 P), (90, q90_8 P), (91, q91_8 P), (92, q92_8 P), (93, q93_9 P), (94, q94_9 P), (95, q95_9 P), (96, q96_9 P), (97, q97_9 P), (98, q98_9 P), (99, q99_9 P), (100, q100_9 P), (101, q101_9 P), (102, q102_9 P), (103, q103_9 P), (104, q104_9 P), (105, q105_9 P), (106, q106_9 P), (107, q107_9 P), (108, q108_9 P), (109, q109_9 P), (110, q110_9 P), (111, q111_9 P), (112, q112_9 P), (113, q113_9 P), (114, q114_9 P), (115, q115_9 P), (116, q116_9 P), (117, q117_9 P), (118, q118_9 P), (119, q119_9 P), (120, q120_9 P), (121, q121_9 P), (122, q122_9 P), (123, q123_9 P), (124, q124_9 P), (125, q125_9 P), (126, q126_9 P), (127, q127_9 P), (128, q128_9 P), (129, q129_9 P), (130, q130_9 P), (131, q131_9 P), (132, q132_10 P), (133, q133_10 P), (134, q134_10 P), (135, q135_10 P), (136, q136_10 P), (137, q137_10 P), (138, q138_10 P), (139, q139_12 P), (140, q140_12 P), (141, q141_12 P), (142, q142_12 P), (143, q143_12 P), (144, q144_12 P), (145, q145_12 P), (146, q146_13 P), (147, q147_13 P), (148, q148_13 P), (149, q149_13 P), (150, q150_13 P), (151, q151_13 P), (152, q152_13 P), (153, q153_14 P), (154, q154_14 P), (155, q155_14 P), (156, q156_14 P), (157, q157_14 P), (158, q158_15 P), (159, q159_15 P), (160, q160_15 P), (161, q161_15 P), (162, q162_15 P)]
noncomputable def keysF : List Addr := List.range 163
theorem keys_is (P : Params) : keysF = (Kf P).map (·.1) := by kernel_rfl!
noncomputable def q0 : Program := view p0 [14]
noncomputable def loose0 : List Str := ["_netrclex", "bisect_right", "bisect_left", "b1_set", "in_table_b1", "b3_exceptions", "map_table_b3", "_law_piece", "_law_stream", "_law_words"]
noncomputable def obsF (s : Shared) : List (Option Obj) := keysF.map s.heap.get?
noncomputable def valF (w : World) : List (Option Obj) := (Kf w.params).map fun p => some p.2
theorem look1 (w : World) (os : OsState) : (staticsOk (importedModules p0.main.body) (boot_heap w.params) (H1 w.params) && namesBound p0 (H1 w.params) && gensDone ⟨H1 w.params, #[], {}, 2343, os⟩ && laidKept (boot_heap w.params) (H1 w.params)) = true := by
  kernel_rfl!
theorem look2 (w : World) (os : OsState) : openSeen q0 loose0 (importedModules p0.main.body) (fun _ => true) true ⟨H1 w.params, #[], {}, 2343, os⟩ = openGood q0 loose0 := by
  rw [PySem.W.Fast.te4187177175401517315]; kernel_rfl!
theorem look3 (w : World) (os : OsState) : obsF ⟨H1 w.params, #[], {}, 2343, os⟩ = valF w := by
  kernel_rfl!
theorem left0 : LeftO p0 q0 loose0 (fun _ => true) obsF valF 20000 :=
  LeftO.of_pieces (H₀ := boot_heap) (H₁ := H1) (gs₀ := #[]) (gs₁ := #[]) (d₀ := boot_drawn) (d₁ := {}) (k₀ := boot_toks) (k₁ := 2343) (m₀ := 11) (ann := ann0) (M := 14172)
    open_is size_is (fun w os => run_is w os) (by decide) fun w => funext fun os => looks_pair (look1 w os) (looks_pair (look2 w os) (look3 w os))
end
theorem join_tick_Hd10_0 : True := by
  w_top off
  first | walk1 | exact trivial
section
noncomputable abbrev rw0 : RowW := PySem.Challenge.rw_re0144_01.row.toRowW
noncomputable def fArgs : Stmt → Arguments
  | .FunctionDef _ a _ _ _ _ _ _ _ _ => a
  | _ => ⟨[], [], none, [], [], none, []⟩
noncomputable def fBody : Stmt → List Stmt
  | .FunctionDef _ _ b _ _ _ _ _ _ _ => b
  | _ => []
noncomputable def fScope : Stmt → Scope
  | .FunctionDef _ _ _ _ _ _ sc _ _ _ => sc
  | _ => default
noncomputable def fPos : Stmt → Pos
  | .FunctionDef _ _ _ _ _ _ _ _ _ p => p
  | _ => default
noncomputable def d14 : DefRec := ⟨"law", fArgs (stm 14), fBody (stm 14), fScope (stm 14), fPos (stm 14)⟩
theorem hdef0 : defOf q0 rw0.name = some (d14, []) := by kernel_rfl!
theorem hp00 : rw0.prog.theDef rw0.name = some (d14.params, d14.body, d14.scope) := by kernel_rfl!
theorem hk0 : kwWritten? d14.params.kwonlyargs d14.params.kw_defaults = some [] := by kernel_rfl!
theorem ok0 : (chainsOk q0 && opensWell rw0.prog && (frees rw0 && rw0.within.isEmpty)) = true := by decide +kernel
noncomputable abbrev lw0 : OpenLaw := PySem.Challenge.rw_re0144_01
theorem said_looks : looksOpen p0 = true := by
  delta looksOpen
  repeat' with_reducible refine look_both ?_ ?_
  all_goals decide +kernel
theorem said_looks2 : looksOpen lw0.row.prog = true := said_looks
theorem said_part : OpenRow.partSaid lw0.row = true := by
  show OpenRow.partSaid _ = true
  delta OpenRow.partSaid
  repeat' with_reducible refine look_both ?_ ?_
  any_goals with_reducible exact said_looks2
  all_goals decide +kernel
theorem said0 : OpenLaw.wellSaid lw0 = true := by
  delta OpenLaw.wellSaid OpenRow.wellSaid
  repeat' with_reducible refine look_both ?_ ?_
  any_goals with_reducible exact said_part
  all_goals decide +kernel
theorem head0 (call : WalkO q0 loose0 (fun _ _ => True) (InK Kf) rw0 d14 [] fun f vs => PySem.call f vs) : PySem.Challenge.rw_re0144_01.Holds := by
  refine holds_law said0 fun said => ?_
  refine holds_open (q := q0) (loose := loose0) (Xt := fun _ => true) (XP := fun _ _ => True) (Yf := obsF) (Ya := valF) (YP := InK Kf) (N := 20000) left0 ?_ InK.keeps (fun _ _ => trivial) (fun _ _ _ _ _ => trivial) hdef0 hp00 hk0
    (fun s _ => recFacts_nil rfl) (by first | rfl | fail "x") (by assumption) ok0 ⟨rfl, rfl, rfl, rfl, rfl, by decide +kernel⟩ ?hw call
  · intro w s e
    exact InK.of keys_is w s e
  case hw => w_witness2
end
theorem join_tick_Wk0_0 : True := by
  w_top off
  first | walk1 | exact trivial
section
noncomputable def Kr (P : Params) : Frag := [(0, PySem.W.boot_o_0 P), (1, PySem.W.boot_o_1 P), (2, PySem.W.boot_o_2 P), (3, q3_15 P), (4, PySem.W.boot_o_4 P), (5, PySem.W.boot_o_5 P), (6, PySem.W.boot_o_6 P), (7, PySem.W.boot_o_7 P), (8, PySem.W.boot_o_8 P), (9, PySem.W.boot_o_9 P), (10, PySem.W.boot_o_10 P), (11, q11_0 P), (12, q12_15 P), (13, q13_0 P), (14, q14_0 P), (15, q15_2 P), (16, q16_2 P), (17, q17_2 P), (18, q18_2 P), (19, q19_2 P), (20, q20_2 P), (21, q21_2 P), (22, q22_2 P), (23, q23_2 P), (24, q24_2 P), (25, q25_2 P), (26, q26_2 P), (27, q27_2 P), (28, q28_2 P), (29, q29_2 P), (30, q30_2 P), (31, q31_2 P), (32, q32_2 P), (33, q33_2 P), (34, q34_2 P), (35, q35_2 P), (36, q36_2 P), (37, q37_2 P), (38, q38_2 P), (39, q39_2 P), (40, q40_2 P), (41, q41_2 P), (42, q42_2 P), (43, q43_2 P), (44, q44_2 P), (45, q45_2 P), (46, q46_2 P), (47, q47_2 P), (48, q48_2 P), (49, q49_2 P), (50, q50_2 P), (51, q51_2 P), (52, q52_2 P), (53, q53_2 P), (54, q54_2 P), (55, q55_2 P), (56, q56_2 P), (57, q57_4 P), (58, q58_4 P), (59, q59_4 P), (60, q60_4 P), (61, q61_4 P), (62, q62_4 P), (63, q63_4 P), (64, q64_4 P), (65, q65_4 P), (66, q66_5 P), (67, q67_5 P), (68, q68_5 P), (69, q69_5 P), (70, q70_5 P), (71, q71_5 P), (72, q72_5 P), (73, q73_5 P), (74, q74_5 P), (75, q75_7 P), (76, q76_7 P), (77, q77_7 P), (78, q78_7 P), (79, q79_7 P), (80, q80_7 P), (81, q81_7 P), (82, q82_7 P), (83, q83_7 P), (84, q84_7 P), (85, q85_7 P), (86, q86_8 P), (87, q87_8 P), (88, q88_8 P), (89, q89_8 P), (90, q90_8 P), (91, q91_8 P), (92, q92_8 P), (93, q93_9 P), (94, q94_9 P), (95, q95_9 P), (96, q96_9 P), (97, q97_9 P), (98, q98_9 P), (99, q99_9 P), (100, q100_9 P), (101, q101_9 P), (102, q102_9 P), (103, q103_9 P), (104, q104_9 P), (105, q105_9 P), (106, q106_9 P), (107, q107_9 P), (108, q108_9 P), (109, q109_9 P), (110, q110_9 P), (111, q111_9 P), (112, q112_9 P), (113, q113_9 P), (114, q114_9 P), (115, q115_9 P), (116, q116_9 P), (117, q117_9 P), (118, q118_9 P), (119, q119_9 P), (120, q120_9 P), (121, q121_9 P), (122, q122_9 P), (123, q123_9 P), (124, q124_9 P), (125, q125_9 P), (126, q126_9 P), (127, q127_9 P), (128, q128_9 P), (129, q129_9 P), (130, q130_9 P), (131, q131_9 P), (132, q132_10 P), (133, q133_10 P), (134, q134_10 P), (135, q135_10 P), (136, q136_10 P), (137, q137_10 P), (138, q138_10 P), (139, q139_12 P), (140, q140_12 P), (141, q141_12 P), (142, q142_12 P), (143, q143_12 P), (144, q144_12 P), (145, q145_12 P), (146, q146_13 P), (148, q148_13 P), (149, q149_13 P), (150, q150_13 P), (151, q151_13 P), (152, q152_13 P), (153, q153_14 P), (154, q154_14 P), (155, q155_14 P), (156, q156_14 P), (157, q157_14 P), (158, q158_15 P), (159, q159_15 P), (160, q160_15 P), (161, q161_15 P), (162, q162_15 P)]
theorem lookup_split (a b : Addr) : ∀ (l r : Frag) (o : Obj), (l ++ r).lookup a = some o → a ≠ b → ∀ ob, (l ++ (b, ob) :: r).lookup a = some o
  | [], r, o, e, n, ob => by
    rw [List.nil_append] at e ⊢
    rw [List.lookup_cons]
    have : (a == b) = false := beq_false_of_ne n
    rw [this]; exact e
  | (c, oc) :: l, r, o, e, n, ob => by
    rw [List.cons_append, List.lookup_cons] at e ⊢
    cases h : (a == c) with
    | true => rw [h] at e; exact e
    | false => rw [h] at e; exact lookup_split a b l r o e n ob
theorem kf_split (P : Params) : Kf P = (Kf P).take 147 ++ (147, q147_13 P) :: (Kf P).drop 148 := by kernel_rfl!
theorem kr_split (P : Params) : Kr P = (Kf P).take 147 ++ (Kf P).drop 148 := by kernel_rfl!
theorem no147 (P : Params) : (Kr P).lookup 147 = none := by kernel_rfl!
theorem kr_in {P : Params} {h : Heap} (X : (Kf P).In h) : (Kr P).In h := fun a o e => X a o (by
  have n : a ≠ 147 := fun q => by rw [q, no147] at e; cases e
  rw [kr_split] at e
  rw [kf_split]
  exact lookup_split a 147 _ _ o e n _)
theorem kf_147 {P : Params} {h : Heap} (X : (Kf P).In h) : h.get? 147 = some (q147_13 P) := X 147 _ (by kernel_rfl!)
/-- what the walk asks of the top: the written objects (but the one table that grows) and the names -/
structure Gd (w : World) (mg mb : Str → Option Value) (h : Heap) : Prop where
  K : (Kr w.params).In h
  T : TopRead q0 loose0 mg mb h
theorem Gd.keeps {w : World} {mg mb : Str → Option Value} {h h' : Heap} (G : Gd w mg mb h) (k : ∀ b o, h.get? b = some o → h'.get? b = some o) : Gd w mg mb h' := ⟨G.K.keeps k, G.T.keeps k⟩
/-- only the heap and the tokens turn, and all that stood stands -/
noncomputable def Kept (s s' : Shared) : Prop := ∃ h' tk', s' = { s with heap := h', toks := tk' } ∧ ∀ b o, s.heap.get? b = some o → h'.get? b = some o
end
end Mine
end
section
open PySem PySem.W PyProof.Rows PySem.Calls
namespace Mine
theorem join_tick_Wk1_0 : True := by
  w_top off
  first | walk1 | exact trivial
section
theorem g_netrclex (P : Params) : nsIn (Kr P) mainGlobals (Str.ofString "_netrclex") = some (some (.ref 52)) := by kernel_rfl!
theorem g_bisect_right (P : Params) : nsIn (Kr P) mainGlobals (Str.ofString "bisect_right") = some (some (.ref 65)) := by kernel_rfl!
theorem g_bisect_left (P : Params) : nsIn (Kr P) mainGlobals (Str.ofString "bisect_left") = some (some (.ref 74)) := by kernel_rfl!
theorem g_b1_set (P : Params) : nsIn (Kr P) mainGlobals (Str.ofString "b1_set") = some (some (.ref 82)) := by kernel_rfl!
theorem g_in_table_b1 (P : Params) : nsIn (Kr P) mainGlobals (Str.ofString "in_table_b1") = some (some (.ref 92)) := by kernel_rfl!
theorem g_b3_exceptions (P : Params) : nsIn (Kr P) mainGlobals (Str.ofString "b3_exceptions") = some (some (.ref 93)) := by kernel_rfl!
theorem g_map_table_b3 (P : Params) : nsIn (Kr P) mainGlobals (Str.ofString "map_table_b3") = some (some (.ref 138)) := by kernel_rfl!
theorem g_law_piece (P : Params) : nsIn (Kr P) mainGlobals (Str.ofString "_law_piece") = some (some (.ref 145)) := by kernel_rfl!
theorem g_law_stream (P : Params) : nsIn (Kr P) mainGlobals (Str.ofString "_law_stream") = some (some (.ref 152)) := by kernel_rfl!
theorem g_law_words (P : Params) : nsIn (Kr P) mainGlobals (Str.ofString "_law_words") = some (some (.ref 157)) := by kernel_rfl!
theorem g_len (P : Params) : nsIn (Kr P) mainGlobals (Str.ofString "len") = some none := by kernel_rfl!
theorem g_ord (P : Params) : nsIn (Kr P) mainGlobals (Str.ofString "ord") = some none := by kernel_rfl!
theorem g_range (P : Params) : nsIn (Kr P) mainGlobals (Str.ofString "range") = some none := by kernel_rfl!
theorem g_chr (P : Params) : nsIn (Kr P) mainGlobals (Str.ofString "chr") = some none := by kernel_rfl!
theorem g_list (P : Params) : nsIn (Kr P) mainGlobals (Str.ofString "list") = some none := by kernel_rfl!
theorem g_sum (P : Params) : nsIn (Kr P) mainGlobals (Str.ofString "sum") = some none := by kernel_rfl!
theorem g_iter (P : Params) : nsIn (Kr P) mainGlobals (Str.ofString "iter") = some none := by kernel_rfl!
section
variable {prog : Program} {w : World} {A : Around} {E : Value → Shared → Prop} {s : Shared} {env : Env} {test : PySem.Expr} {body orelse : List Stmt} {Q : Flow → Shared → Prop}
noncomputable def LoopRest (prog : Program) (w : World) (A : Around) (env : Env) (test : PySem.Expr) (body orelse : List Stmt) (Q : Flow → Shared → Prop) (s : Shared) : Prop :=
  codeAny (model prog w) A (.whileLoop test body orelse env) (fun r s' => match r with | .ok f => Q f s' | .error e => cameBackBy (model prog w) A env (fun _ _ => False) e s') s
/-- what a turn of the body must reach: R is «the loop goes on from here», Q the loop's own post; both are variables in a turn's proof, so that the steps' terms stay small -/
noncomputable def LoopPost (R : Shared → Prop) (Q : Flow → Shared → Prop) (f : Flow) (s : Shared) : Prop :=
  match f with
  | .next => R s
  | .cont => R s
  | .brk => Q .next s
  | .ret v => Q (.ret v) s
noncomputable def LoopIf (b : Bool) (T F : Prop) : Prop := if b = true then T else F
theorem LoopIf.of {b : Bool} {T F : Prop} (h : b = true → T) (g : b = false → F) : LoopIf b T F := by
  cases b with
  | true => exact h rfl
  | false => exact g rfl
theorem loop_start {pos : Pos} (h : LoopRest prog w A env test body orelse Q s) : wpAny (model prog w) A (exec (.While test body orelse pos) env) Q (fun _ _ => False) s := whl_start 0 h
theorem loop_turn (h : wpAny (model prog w) A (isTrue test env (eval test env)) (fun b s₂ => LoopIf b (wpAny (model prog w) A (execs body env) (LoopPost (LoopRest prog w A env test body orelse Q) Q) (fun _ _ => False) s₂) (wpAny (model prog w) A (execs orelse env) Q (fun _ _ => False) s₂)) (fun _ _ => False) s) :
    LoopRest prog w A env test body orelse Q s := by
  refine whl_turn (k := 0) (by first | passes_own | with_unfolding_all passes_own) ?_
  exact h
theorem loop_ind {α : Type} (I : α → Shared → Prop) (μ : α → Nat)
    (turn : ∀ (R : Shared → Prop) (Q' : Flow → Shared → Prop), (∀ f s', Q f s' → Q' f s') → ∀ a s, I a s → (∀ b s', μ b < μ a → I b s' → R s') →
      wpAny (model prog w) A (isTrue test env (eval test env)) (fun b s₂ => LoopIf b (wpAny (model prog w) A (execs body env) (LoopPost R Q') (fun _ _ => False) s₂) (wpAny (model prog w) A (execs orelse env) Q' (fun _ _ => False) s₂)) (fun _ _ => False) s)
    (a : α) (h : I a s) : LoopRest prog w A env test body orelse Q s := by
  have H : ∀ n a s, μ a < n → I a s → LoopRest prog w A env test body orelse Q s := by
    intro n
    induction n with
    | zero => intro a s q; exact absurd q (Nat.not_lt_zero _)
    | succ n ih => exact fun a s q i => loop_turn (turn _ Q (fun _ _ h => h) a s i fun b s' l j => ih b s' (by omega) j)
  exact H _ a s (Nat.lt_succ_self _) h
end
/-- the post as a variable: it stands in every step's term, so it had better be small -/
theorem gen_post {α : Type} {M : Model} {A : Around} {t : Sem α} {Q : α → Shared → Prop} {E : Value → Shared → Prop} {s : Shared} (h : ∀ Q' : α → Shared → Prop, (∀ a s', Q a s' → Q' a s') → wpAny M A t Q' E s) : wpAny M A t Q E s := h Q fun _ _ h => h
/-- a halt: no step looks under it -/
noncomputable def Stop (P : Prop) : Prop := P
theorem Stop.of {P : Prop} (h : Stop P) : P := h
theorem Stop.go {P : Prop} (h : P) : Stop P := h
theorem ite_yes {b : Bool} {T F : Prop} (h : b = true) (t : T) : if b = true then T else F := by rw [if_pos h]; exact t
theorem ite_no {b : Bool} {T F : Prop} (h : b = false) (f : F) : if b = true then T else F := by rw [if_neg (by rw [h]; decide)]; exact f
theorem kept_of {s : Shared} {h' : Heap} {tk' : Nat} (k : ∀ b o, s.heap.get? b = some o → h'.get? b = some o) : Kept s { s with heap := h', toks := tk' } := ⟨h', tk', rfl, k⟩
end
section
theorem fcons {α : Type} {p : α → Prop} {a : α} {l : List α} (h : p a) (t : ∀ x ∈ l, p x) : ∀ x ∈ a :: l, p x := List.forall_mem_cons.mpr ⟨h, t⟩
theorem all5 {α : Type} {p : α → Prop} {a b c d e : α} (h1 : p a) (h2 : p b) (h3 : p c) (h4 : p d) (h5 : p e) : ∀ x ∈ [a, b, c, d, e], p x := fun x hx => by
  simp only [List.mem_cons, List.not_mem_nil, or_false] at hx
  rcases hx with rfl | rfl | rfl | rfl | rfl <;> assumption
theorem all8 {α : Type} {p : α → Prop} {a b c d e f g h : α} (h1 : p a) (h2 : p b) (h3 : p c) (h4 : p d) (h5 : p e) (h6 : p f) (h7 : p g) (h8 : p h) : ∀ x ∈ [a, b, c, d, e, f, g, h], p x := fun x hx => by
  simp only [List.mem_cons, List.not_mem_nil, or_false] at hx
  rcases hx with rfl | rfl | rfl | rfl | rfl | rfl | rfl | rfl <;> assumption
theorem non5 {α : Type} {x a b c d e : α} (h1 : x ≠ a) (h2 : x ≠ b) (h3 : x ≠ c) (h4 : x ≠ d) (h5 : x ≠ e) : x ∉ [a, b, c, d, e] := fun hx => all5 (p := fun y => x ≠ y) h1 h2 h3 h4 h5 x hx rfl
theorem non8 {α : Type} {x a b c d e f g h : α} (h1 : x ≠ a) (h2 : x ≠ b) (h3 : x ≠ c) (h4 : x ≠ d) (h5 : x ≠ e) (h6 : x ≠ f) (h7 : x ≠ g) (h8 : x ≠ h) : x ∉ [a, b, c, d, e, f, g, h] := fun hx => all8 (p := fun y => x ≠ y) h1 h2 h3 h4 h5 h6 h7 h8 x hx rfl
theorem nd_ne {α : Type} {l : List α} {i j : Nat} {a b : α} (h : l.Nodup) (ei : l[i]? = some a) (ej : l[j]? = some b) (hij : i < j) : a ≠ b := fun e => by
  obtain ⟨hi, ei⟩ := List.getElem?_eq_some_iff.mp ei
  obtain ⟨hj, ej⟩ := List.getElem?_eq_some_iff.mp ej
  exact List.pairwise_iff_getElem.mp h i j hi hj hij (by rw [ei, ej, e])
theorem nd5 {α : Type} {a b c d e : α} (ab : a ≠ b) (ac : a ≠ c) (ad : a ≠ d) (ae : a ≠ e) (bc : b ≠ c) (bd : b ≠ d) (be : b ≠ e) (cd : c ≠ d) (ce : c ≠ e) (de : d ≠ e) : [a, b, c, d, e].Nodup := by
  simp only [List.nodup_cons, List.mem_cons, List.not_mem_nil, or_false, not_or, List.nodup_nil, and_true, not_false_eq_true]
  exact ⟨⟨ab, ac, ad, ae⟩, ⟨bc, bd, be⟩, ⟨cd, ce⟩, de⟩
theorem all2 {α : Type} {p : α → Prop} {a b : α} (h1 : p a) (h2 : p b) : ∀ x ∈ [a, b], p x := fcons h1 (fcons h2 fun _ h => nomatch h)
theorem all4 {α : Type} {p : α → Prop} {a b c d : α} (h1 : p a) (h2 : p b) (h3 : p c) (h4 : p d) : ∀ x ∈ [a, b, c, d], p x := fcons h1 (fcons h2 (all2 h3 h4))
theorem nd5_ne {α : Type} {a b c d e : α} (h : [a, b, c, d, e].Nodup) : (a ≠ b ∧ a ≠ c ∧ a ≠ d ∧ a ≠ e) ∧ (b ≠ c ∧ b ≠ d ∧ b ≠ e) ∧ (c ≠ d ∧ c ≠ e) ∧ d ≠ e := by
  simpa only [List.nodup_cons, List.mem_cons, List.not_mem_nil, or_false, not_or, List.nodup_nil, and_true, not_false_eq_true] using h
theorem sub45 {α : Type} {a b c d e : α} : ∀ x ∈ [a, b, c, d], x ∈ [a, b, c, d, e] := all4 (.head _) (.tail _ (.head _)) (.tail _ (.tail _ (.head _))) (.tail _ (.tail _ (.tail _ (.head _))))
theorem sub25 {α : Type} {a b c d e : α} : ∀ x ∈ [c, d], x ∈ [a, b, c, d, e] := all2 (.tail _ (.tail _ (.head _))) (.tail _ (.tail _ (.tail _ (.head _))))
theorem sub24 {α : Type} {a b c d : α} : ∀ x ∈ [c, d], x ∈ [a, b, c, d] := all2 (.tail _ (.tail _ (.head _))) (.tail _ (.tail _ (.tail _ (.head _))))
theorem sub43 {α : Type} {a b c d : α} : ∀ x ∈ [a, b, c, d], x ≠ a → x ∈ [c, d, b] := all4 (fun n => absurd rfl n) (fun _ => .tail _ (.tail _ (.head _))) (fun _ => .head _) (fun _ => .tail _ (.head _))
theorem non4 {α : Type} {x a b c d : α} (h1 : x ≠ a) (h2 : x ≠ b) (h3 : x ≠ c) (h4 : x ≠ d) : x ∉ [a, b, c, d] := fun hx => all4 (p := fun y => x ≠ y) h1 h2 h3 h4 x hx rfl
theorem non2 {α : Type} {x a b : α} (h1 : x ≠ a) (h2 : x ≠ b) : x ∉ [a, b] := fun hx => all2 (p := fun y => x ≠ y) h1 h2 x hx rfl
end
theorem join_tick_Wk2_0 : True := by
  w_top off
  first | walk1 | exact trivial
section
theorem call_fd {w : World} {A : Around} {s : Shared} {mg mb : Str → Option Value} {R : Result → Shared → Prop} {a : Addr} {o : Obj} {fd : FuncData} {nm : Str} {sc : Scope} {cd : Value} {body : List Stmt} {args : Args} {binds : List (Str × Value)}
    (G : Gd w mg mb s.heap) (hA : A.depth < 900) (ho : (Kr w.params).lookup a = some o) (hdata : o.data = .func fd) (hcd : codeIn (Kr w.params) fd.code fd.qualname = true)
    (hbody : fd.body = .stmts body) (henv : ∀ L, callEnv fd L a = envOf nm sc L a cd) (hbind : BindsTo s fd args binds)
    (hcell : (fd.scope.names.all fun x => x.2 != .cell) = true) (hloc : (binds.all fun x => decide (fd.scope.names.lookup x.1 = some .local)) = true)
    (h : ∀ h₁, Fr s.heap s.heap.objs.size h₁ (fun x => binds.reverse.lookup x) → (Kr w.params).In s.heap → TopRead q0 loose0 mg mb s.heap → News s.heap s.heap.objs.size h₁ [] →
      wpAny (model p0 w) (A.deeper (envOf nm sc s.heap.objs.size a cd)) (execs body (envOf nm sc s.heap.objs.size a cd))
        (fun f s' => R (.ok (.ret (match f with | .ret v => v | _ => .none))) s') (fun _ _ => False)
        { s with heap := h₁, toks := s.toks + binds.length })
    (hco : fd.scope.isCoroutine = false) (hgen : fd.scope.isGenerator = false) (hk : fd.scope.kind = .function) :
    codeAny (model p0 w) A (.call (.ref a) args) R s := by
  refine codeAny_call_def (Nat.lt_trans hA (by decide)) (G.K _ _ ho) hdata G.T.nolimit (codeRec_of G.K hcd) hbody hbind (fun x hx => by simpa using List.all_eq_true.mp hcell x hx) (locs hloc) (fun h₁ hns hk => ?_) hco hgen hk
  rw [henv]
  exact wpAny_mono (h h₁ ⟨hns, hk, Nat.le_refl _⟩ G.K G.T (fun p hp => by cases hp)) (fun _ _ x => x) (fun _ _ x => x.elim)
theorem wpAny_loadC {α : Type} {M : Model} {A : Around} {E : Value → Shared → Prop} {s : Shared} {a : Addr} {part : Option Value} {k : Obj → Sem α} {o : Obj} {Q : α → Shared → Prop} (ho : s.heap.get? a = some o) (h : wpAny M A (k o) Q E s) :
    wpAny M A (.load a part k) Q E s := wpAny_bind (m := loadPart a part) (wpAny_loadPart ho h)
theorem binds2 {s : Shared} {fd : FuncData} {args : Args} {binds : List (Str × Value)} {T D : Addr} {o o2 : Obj} {p1 p2 : Option Value} {k k2 : Obj → Sem (List (Str × Value))}
    (h₁ : bindArgs fd args = .load T p1 k) (h₂ : k o = .load D p2 k2) (h₃ : k2 o2 = .pure binds)
    (ho : s.heap.get? T = some o) (hD : s.heap.get? D = some o2) : BindsTo s fd args binds :=
  fun _ _ _ _ hq => by
    rw [h₁]
    refine wpAny_loadC ho ?_
    rw [h₂]
    refine wpAny_loadC hD ?_
    rw [h₃]
    exact wpAny_pure hq
end
theorem join_tick_Wk2_1 : True := by
  w_top off
  first | walk1 | exact trivial
section
local macro_rules | `(tactic| k_is) => `(tactic| first | exact g_netrclex _ | exact g_bisect_right _ | exact g_bisect_left _ | exact g_b1_set _ | exact g_in_table_b1 _ | exact g_b3_exceptions _ | exact g_map_table_b3 _ | exact g_law_piece _ | exact g_law_stream _ | exact g_law_words _ | exact g_len _ | exact g_ord _ | exact g_range _ | exact g_chr _ | exact g_list _ | exact g_sum _ | exact g_iter _)
section
local macro_rules | `(tactic| k_steps) => `(tactic| repeat' (first | walk1 | (dsimp only; walk1) | fail "no step"))
section
local macro_rules | `(tactic| walk_at "LoopPost") => `(tactic| dsimp only [LoopPost])
section
local macro_rules | `(tactic| walk_at "exec While") => `(tactic| refine loop_start ?_)
section
local macro_rules | `(tactic| walk_at "exec While Compare") => `(tactic| refine loop_start ?_)
section
local macro_rules | `(tactic| walk_at "ite") => `(tactic| (k_closed; first | refine ite_yes rfl ?_ | refine ite_no rfl ?_))
section
local macro_rules | `(tactic| walk_at "eval Name") => `(tactic| (k_dflt (refine' ld ?k1 ?k2 ?_; (case k1 => k_asm); (case k2 => assumption); k_whole)))
section
/-- what bisect_left gives -/
noncomputable def IsBl (ns : List Int) (x : Int) (r : Nat) : Prop := r ≤ ns.length ∧ (∀ i, i < r → ns.getD i 0 < x) ∧ ∀ i, r ≤ i → i < ns.length → x ≤ ns.getD i 0
noncomputable def IsBr (ns : List Int) (x : Int) (r : Nat) : Prop := r ≤ ns.length ∧ (∀ i, i < r → ns.getD i 0 ≤ x) ∧ ∀ i, r ≤ i → i < ns.length → x < ns.getD i 0
noncomputable def Sorted (ns : List Int) : Prop := ∀ i j, i ≤ j → j < ns.length → ns.getD i 0 ≤ ns.getD j 0
noncomputable def IntPost (s : Shared) (P : Nat → Prop) (r : Result) (s' : Shared) : Prop := ∃ (n : Nat) (tk : Nat), r = .ok (.ret (.int n tk)) ∧ Kept s s' ∧ P n
/-- the loop's state -/
inductive BsInv (s : Shared) (l : Addr) (x : Int) (t : Nat) (n : Nat) (P : Nat → Prop) (R : Nat → Prop) (a : Nat × Nat) (s' : Shared) : Prop
  | mk (h' : _) (tk : _) (m : _) (t1 : _) (t2 : _) (e0 : s' = { s with heap := h', toks := tk }) (e1 : Fr s.heap s.heap.objs.size h' m) (e2 : m "a" = some (.ref l)) (e3 : m "x" = some (.int x t)) (e4 : m "lo" = some (.int (a.1 : Nat) t1)) (e5 : m "hi" = some (.int (a.2 : Nat) t2)) (e6 : a.1 ≤ a.2) (e7 : a.2 ≤ n) (e8 : (∀ i, i < a.1 → P i)) (e9 : ∀ i, a.2 ≤ i → i < n → R i) : BsInv s l x t n P R a s'
theorem fdiv2 (a b : Nat) : ((a : Int) + (b : Int)).fdiv 2 = (((a + b) / 2 : Nat) : Int) := by
  rw [Int.fdiv_eq_ediv_of_nonneg _ (by omega)]; omega
set_option maxHeartbeats 4000000 in
theorem bl_code {w : World} {A : Around} {s : Shared} {mg mb : Str → Option Value} (G : Gd w mg mb s.heap) {l : Addr} {vs : List Value} {ns : List Int} {x : Int} {t : Nat} (hl : s.heap.IsList l vs.toArray) (hn : IntsAre vs ns) (hs : Sorted ns) (hlen : ns.length < 100) (hA : A.depth < 900) :
  codeAny (model p0 w) A (.call (.ref 74) ⟨[.ref l, .int x t], []⟩) (IntPost s (IsBl ns x)) s := by
  refine call_fd (o := q74_5 w.params) (nm := S [98, 105, 115, 101, 99, 116, 95, 108, 101, 102, 116]) (sc := fScope (stm 4)) (cd := .ref 73) (body := fBody (stm 4)) (binds := [("a", .ref l), ("x", .int x t), ("lo", .int 0 263), ("hi", .none), ("key", .none)])
    G hA (by kernel_rfl!) rfl (by kernel_rfl!) (by kernel_rfl!) (fun L => by kernel_rfl!) ?hb (by decide +kernel) (by kernel_rfl!) ?_ (by kernel_rfl!) (by kernel_rfl!) (by kernel_rfl!)
  case hb => 
    refine' binds2 (T := 66) (D := 67) (o := q66_5 w.params) (o2 := q67_5 w.params) ?h1 ?h2 ?h3 (G.K _ _ (by kernel_rfl!)) (G.K _ _ (by kernel_rfl!))
    case h1 => with_unfolding_all exact rfl
    case h2 => with_unfolding_all exact rfl
    case h3 => kernel_rfl!
  intro h₀ F X T N
  have hl' := stays_list F.keep hl
  refine gen_post fun Q' hQ => ?_
  conv => arg 3; arg 1; whnf
  k_steps
  refine loop_ind (BsInv s l x t ns.length (fun i => ns.getD i 0 < x) fun i => x ≤ ns.getD i 0) (fun a => a.2 - a.1) ?_ (0, ns.length) ⟨_, _, _, _, _, rfl, by assumption, rfl, rfl, rfl, rfl, Nat.zero_le _, Nat.le_refl _, fun i hi => by omega, fun i h1 h2 => by omega⟩
  rintro R Q1 hx1 ⟨lo, hi⟩ s' ⟨h', tk, m, t1, t2, rfl, F, ma, mx, mlo, mhi, h1, h2, h3, h4⟩ IH
  dsimp only at mlo mhi h1 h2 h3 h4 IH
  have N : News s.heap s.heap.objs.size h' [] := fun p hp => by cases hp
  have hl' := stays_list F.keep hl
  k_steps
  refine LoopIf.of (fun hlt => ?_) (fun hge => ?_)
  · have hlt := of_decide_eq_true hlt
    have hm1 : (0 : Int) ≤ ((lo : Int) + hi).fdiv 2 := by rw [fdiv2]; omega
    have hm2 : ((lo : Int) + hi).fdiv 2 < ns.length := by rw [fdiv2]; omega
    k_steps
    · rename_i a _ F' N'
      have a' : ns.getD ((lo + hi) / 2) 0 < x := by rw [fdiv2] at a; exact a
      refine IH ((lo + hi) / 2 + 1, hi) _ (by show hi - _ < hi - lo; omega) ⟨_, _, _, _, _, rfl, F', ma, mx, congrArg (fun z => some (Value.int z _)) (by rw [fdiv2]; rfl), mhi, by dsimp only; omega, h2, fun i q => ?_, h4⟩
      have := hs i ((lo + hi) / 2) (by dsimp only at q; omega) (by omega)
      omega
    · rename_i a _ F' N'
      have a' : ¬ ns.getD ((lo + hi) / 2) 0 < x := by rw [fdiv2] at a; exact a
      refine IH (lo, (lo + hi) / 2) _ (by show _ - lo < hi - lo; omega) ⟨_, _, _, _, _, rfl, F', ma, mx, mlo, congrArg (fun z => some (Value.int z _)) (by rw [fdiv2]), by dsimp only; omega, by dsimp only; omega, h3, fun i q q2 => ?_⟩
      have := hs ((lo + hi) / 2) i q q2
      try dsimp only
      omega
  · have hge := of_decide_eq_false hge
    k_steps
    refine hx1 .next _ ?_
    k_steps
    exact hQ (.ret _) _ ⟨lo, _, rfl, kept_of F.keep, by omega, h3, fun i q q2 => h4 i (by omega) q2⟩
set_option maxHeartbeats 4000000 in
theorem br_code {w : World} {A : Around} {s : Shared} {mg mb : Str → Option Value} (G : Gd w mg mb s.heap) {l : Addr} {vs : List Value} {ns : List Int} {x : Int} {t : Nat} (hl : s.heap.IsList l vs.toArray) (hn : IntsAre vs ns) (hs : Sorted ns) (hlen : ns.length < 100) (hA : A.depth < 900) :
  codeAny (model p0 w) A (.call (.ref 65) ⟨[.ref l, .int x t], []⟩) (IntPost s (IsBr ns x)) s := by
  refine call_fd (o := q65_4 w.params) (nm := S [98, 105, 115, 101, 99, 116, 95, 114, 105, 103, 104, 116]) (sc := fScope (stm 3)) (cd := .ref 64) (body := fBody (stm 3)) (binds := [("a", .ref l), ("x", .int x t), ("lo", .int 0 249), ("hi", .none), ("key", .none)])
    G hA (by kernel_rfl!) rfl (by kernel_rfl!) (by kernel_rfl!) (fun L => by kernel_rfl!) ?hb (by decide +kernel) (by kernel_rfl!) ?_ (by kernel_rfl!) (by kernel_rfl!) (by kernel_rfl!)
  case hb => 
    refine' binds2 (T := 57) (D := 58) (o := q57_4 w.params) (o2 := q58_4 w.params) ?h1 ?h2 ?h3 (G.K _ _ (by kernel_rfl!)) (G.K _ _ (by kernel_rfl!))
    case h1 => with_unfolding_all exact rfl
    case h2 => with_unfolding_all exact rfl
    case h3 => kernel_rfl!
  intro h₀ F X T N
  have hl' := stays_list F.keep hl
  refine gen_post fun Q' hQ => ?_
  conv => arg 3; arg 1; whnf
  k_steps
  refine loop_ind (BsInv s l x t ns.length (fun i => ns.getD i 0 ≤ x) fun i => x < ns.getD i 0) (fun a => a.2 - a.1) ?_ (0, ns.length) ⟨_, _, _, _, _, rfl, by assumption, rfl, rfl, rfl, rfl, Nat.zero_le _, Nat.le_refl _, fun i hi => by omega, fun i h1 h2 => by omega⟩
  rintro R Q1 hx1 ⟨lo, hi⟩ s' ⟨h', tk, m, t1, t2, rfl, F, ma, mx, mlo, mhi, h1, h2, h3, h4⟩ IH
  dsimp only at mlo mhi h1 h2 h3 h4 IH
  have N : News s.heap s.heap.objs.size h' [] := fun p hp => by cases hp
  have hl' := stays_list F.keep hl
  k_steps
  refine LoopIf.of (fun hlt => ?_) (fun hge => ?_)
  · have hlt := of_decide_eq_true hlt
    have hm1 : (0 : Int) ≤ ((lo : Int) + hi).fdiv 2 := by rw [fdiv2]; omega
    have hm2 : ((lo : Int) + hi).fdiv 2 < ns.length := by rw [fdiv2]; omega
    k_steps
    · rename_i a _ F' N'
      have a' : x < ns.getD ((lo + hi) / 2) 0 := by rw [fdiv2] at a; exact a
      refine IH (lo, (lo + hi) / 2) _ (by show _ - lo < hi - lo; omega) ⟨_, _, _, _, _, rfl, F', ma, mx, mlo, congrArg (fun z => some (Value.int z _)) (by rw [fdiv2]), by dsimp only; omega, by dsimp only; omega, h3, fun i q q2 => ?_⟩
      have := hs ((lo + hi) / 2) i q q2
      try dsimp only
      omega
    · rename_i a _ F' N'
      have a' : ¬ x < ns.getD ((lo + hi) / 2) 0 := by rw [fdiv2] at a; exact a
      refine IH ((lo + hi) / 2 + 1, hi) _ (by show hi - _ < hi - lo; omega) ⟨_, _, _, _, _, rfl, F', ma, mx, congrArg (fun z => some (Value.int z _)) (by rw [fdiv2]; rfl), mhi, by dsimp only; omega, h2, fun i q => ?_, h4⟩
      have := hs i ((lo + hi) / 2) (by dsimp only at q; omega) (by omega)
      try dsimp only
      omega
  · have hge := of_decide_eq_false hge
    k_steps
    refine hx1 .next _ ?_
    k_steps
    exact hQ (.ret _) _ ⟨lo, _, rfl, kept_of F.keep, by omega, h3, fun i q q2 => h4 i (by omega) q2⟩
end
theorem join_tick_Wk3_0 : True := by
  w_top off
  first | walk1 | exact trivial
section
noncomputable def kv8D : List (Int × PyData) := kv8.map fun p => (p.1, PyData.str p.2)
theorem asc_nodup : ∀ (l : List KV) (lo : Int), asc lo l = true → (l.map (·.1)).Nodup ∧ ∀ x ∈ l, lo ≤ x.1
  | [], _, _ => ⟨List.nodup_nil, fun _ h => (nomatch h)⟩
  | x :: l, lo, h => by
    simp only [asc, Bool.and_eq_true, decide_eq_true_eq] at h
    obtain ⟨⟨⟨h1, h2⟩, h3⟩, h4⟩ := h
    obtain ⟨e1, e2⟩ := asc_nodup l _ h4
    refine ⟨List.nodup_cons.mpr ⟨fun q => ?_, e1⟩, fun y hy => ?_⟩
    · obtain ⟨y, hy, e⟩ := List.mem_map.mp q
      have := e2 y hy
      simp only at e
      omega
    · rcases List.mem_cons.mp hy with rfl | hy
      · exact h1
      · have := e2 y hy
        omega
theorem b3_nums (P : Params) : KTD.numsLook (match (q93_9 P).data with | .dict es _ => es.toList | _ => []) kv8D = true := by kernel_rfl!
theorem b3_keyed {P : Params} {h : Heap} (X : (Kr P).In h) : KTD.Keyed h 93 kv8D := fun prog w => by
  obtain ⟨hk, kvs, hp, hf, hm⟩ := KTD.nums_of_look prog w (b3_nums P)
  refine ⟨by decide, kvs, ⟨q93_9 P, _, _, X 93 (q93_9 P) (by kernel_rfl!), ⟨rfl, rfl, rfl⟩, rfl, fun e he => hk e (Array.mem_toList_iff.mpr he), hp, ?_⟩, hf⟩
  rw [hm, kv8D, List.map_map]
  exact (asc_nodup kv8 0 kv8_asc).1
theorem same_int (i j : Int) : Spec.same (PyData.int i) (PyData.int j) = (i == j) := by
  rfl
theorem b3_look (c : Int) : Spec.lookup (.int c) (kv8D.map fun p => (PyData.int p.1, p.2)) = (kv8.lookup c).map PyData.str := by
  unfold kv8D
  rw [List.map_map]
  generalize kv8 = l
  induction l with
  | nil => rfl
  | cons x l ih =>
    obtain ⟨k, v⟩ := x
    simp only [List.map_cons, Function.comp_apply, Spec.lookup, List.lookup_cons, same_int]
    by_cases h : k = c
    · subst h; simp
    · have h1 : (k == c) = false := beq_false_of_ne h
      have h2 : (c == k) = false := beq_false_of_ne (Ne.symm h)
      rw [h1, h2]
      simpa using ih
noncomputable def b1L (P : Params) : List (Int × Value) := match (q82_7 P).data with
  | .set es _ _ => es.toList
  | _ => []
noncomputable def intOf : Value → Int
  | .int i _ => i
  | _ => 0
noncomputable def b1s : List Int := [65024, 65025, 65026, 65027, 65028, 65029, 6150, 65030, 65031, 65032, 65033, 6155, 6156, 6157, 8203, 8204, 8205, 65034, 65035, 65036, 65037, 65038, 65039, 173, 847, 8288, 65279]
noncomputable def setLook : List (Int × Value) → List Int → Bool
  | [], [] => true
  | (hh, .int j _) :: es, i :: is => hh == hashInt j && j == i && setLook es is
  | _, _ => false
theorem elems_of_look (prog : Program) (w : World) : ∀ {es : List (Int × Value)} {is : List Int}, setLook es is = true → ElemsOf (intKind prog w) es ∧ ∀ k, is.contains k = true ↔ ∃ e ∈ es, (intKind prog w).is k e.2 = true
  | [], [], _ => ⟨fun _ h => (nomatch h), fun k => by simp⟩
  | (hh, .int j t) :: es, i :: is, h => by
    simp only [setLook, Bool.and_eq_true] at h
    obtain ⟨⟨h1, h2⟩, h3⟩ := h
    obtain ⟨e1, e2⟩ := elems_of_look prog w h3
    have hi : ∀ k, (intKind prog w).is k (.int j t) = true ↔ j = k := fun k => by
      show Value.isInt k (.int j t) = true ↔ _
      simp [Value.isInt]
    refine ⟨fun e he => ?_, fun k => ?_⟩
    · rcases List.mem_cons.mp he with rfl | he
      · exact ⟨⟨j, (hi j).mpr rfl, beq_iff_eq.mp h1⟩, rfl⟩
      · exact e1 e he
    · obtain rfl := beq_iff_eq.mp h2
      rw [List.contains_cons, Bool.or_eq_true, e2 k]
      constructor
      · rintro (q | ⟨e, he, q⟩)
        · exact ⟨_, .head _, (hi k).mpr (beq_iff_eq.mp q).symm⟩
        · exact ⟨e, .tail _ he, q⟩
      · rintro ⟨e, he, q⟩
        rcases List.mem_cons.mp he with rfl | he
        · exact .inl (beq_iff_eq.mpr ((hi k).mp q).symm)
        · exact .inr ⟨e, he, q⟩
  | [], _ :: _, h => by simp [setLook] at h
  | (_, .int _ _) :: _, [], h => by simp [setLook] at h
theorem b1_setOf (prog : Program) (w : World) (P : Params) : Obj.SetObjOf (intKind prog w) (q82_7 P) (fun k => b1s.contains k) 27 := by
  obtain ⟨e1, e2⟩ := elems_of_look prog w (es := b1L P) (is := b1s) (by kernel_rfl!)
  exact ⟨⟨rfl, rfl, rfl⟩, _, _, _, rfl, e1, e2, rfl, by kernel_rfl!⟩
noncomputable def chr1 (c : Nat) : Str := ⟨#[c]⟩
noncomputable def StrPost (s : Shared) (r : Result) (s' : Shared) (x : Str) : Prop := ∃ (tk : Nat), r = .ok (.ret (.str x tk)) ∧ Kept s s'
noncomputable def BoolPost (s : Shared) (r : Result) (s' : Shared) (x : Bool) : Prop := r = .ok (.ret (.bool x)) ∧ Kept s s'
noncomputable def b3f (c : Nat) : Str := (kv8.lookup (c : Int)).getD (Txt.lower (chr1 c))
theorem b1_code {w : World} {A : Around} {s : Shared} {mg mb : Str → Option Value} (G : Gd w mg mb s.heap) {c t : Nat} (hA : A.depth < 900) :
  codeAny (model p0 w) A (.call (.ref 92) ⟨[.str (chr1 c) t], []⟩) (fun r s' => BoolPost s r s' (b1s.contains (c : Int))) s := by
  refine call_fd (o := q92_8 w.params) (nm := S [105, 110, 95, 116, 97, 98, 108, 101, 95, 98, 49]) (sc := fScope (stm 7)) (cd := .ref 91) (body := fBody (stm 7)) (binds := [("code", .str (chr1 c) t)])
    G hA (by kernel_rfl!) rfl (by kernel_rfl!) (by kernel_rfl!) (fun L => by kernel_rfl!) (BindsTo.of_eq (by with_unfolding_all rfl)) (by decide +kernel) (by kernel_rfl!) ?_ (by kernel_rfl!) (by kernel_rfl!) (by kernel_rfl!)
  intro h₀ F X T N
  conv => arg 3; arg 1; whnf
  k_steps
  refine in_argsetI F (b1_setOf p0 w w.params) (X _ _ (by kernel_rfl!)) (by decide) ?_
  exact ⟨rfl, kept_of F.keep⟩
theorem b3_code {w : World} {A : Around} {s : Shared} {mg mb : Str → Option Value} (G : Gd w mg mb s.heap) {c t : Nat} (hA : A.depth < 900) :
  codeAny (model p0 w) A (.call (.ref 138) ⟨[.str (chr1 c) t], []⟩) (fun r s' => StrPost s r s' (b3f c)) s := by
  refine call_fd (o := q138_10 w.params) (nm := S [109, 97, 112, 95, 116, 97, 98, 108, 101, 95, 98, 51]) (sc := fScope (stm 9)) (cd := .ref 137) (body := fBody (stm 9)) (binds := [("code", .str (chr1 c) t)])
    G hA (by kernel_rfl!) rfl (by kernel_rfl!) (by kernel_rfl!) (fun L => by kernel_rfl!) (BindsTo.of_eq (by with_unfolding_all rfl)) (by decide +kernel) (by kernel_rfl!) ?_ (by kernel_rfl!) (by kernel_rfl!) (by kernel_rfl!)
  intro h₀ F X T N
  have K9 := b3_keyed X p0 w
  have K10 := K9.keep F.keep
  conv => arg 3; arg 1; whnf
  k_steps
  rename_i v hv h' F' N'
  rw [b3_look] at hv
  cases hc : kv8.lookup (c : Int) with
  | none =>
    rw [hc] at hv
    dict_open hv
    have hlc : Str.length (chr1 c) ≤ 5592405 := Nat.le_of_ble_eq_true rfl
    k_steps
    dsimp only
    unfold b3f
    rw [hc]
    exact ⟨_, rfl, kept_of F'.keep⟩
  | some r =>
    rw [hc] at hv
    dict_open hv
    k_steps
    dsimp only
    unfold b3f
    rw [hc]
    exact ⟨_, rfl, kept_of F'.keep⟩
end
end
end
end
end
end
end
theorem join_tick_Wk4_0 : True := by
  w_top off
  first | walk1 | exact trivial
section
local macro_rules | `(tactic| k_steps) => `(tactic| repeat' (first | (walk1; try dsimp only) | (dsimp only; walk1; try dsimp only) | fail "no step"))
section
local macro_rules | `(tactic| walk_at "LoopPost") => `(tactic| dsimp only [LoopPost])
section
local macro_rules | `(tactic| walk_at "exec While") => `(tactic| refine loop_start ?_)
section
local macro_rules | `(tactic| walk_at "exec While Compare") => `(tactic| refine loop_start ?_)
section
local macro_rules | `(tactic| walk_at "ite") => `(tactic| (k_closed; first | refine ite_yes rfl ?_ | refine ite_no rfl ?_))
section
local macro_rules | `(tactic| walk_at "eval Name") => `(tactic| (k_dflt (refine' ld ?k1 ?k2 ?_; (case k1 => k_asm); (case k2 => assumption); k_whole)))
section
noncomputable def PairPost (s : Shared) (x y : Str) (r : Result) (s' : Shared) : Prop := ∃ (p t1 t2 : Nat), r = .ok (.ret (.ref p)) ∧ Kept s s' ∧ IsTup s'.heap p #[.str x t1, .str y t2]
noncomputable def env11 (L : Addr) : Env := envOf (S [95, 108, 97, 119, 95, 112, 105, 101, 99, 101]) (fScope (stm 11)) L 145 (.ref 144)
noncomputable def PieceAt (k u : Nat) (x y : Str) : Prop := ∀ {w : World} {A : Around} {s : Shared} {mg mb : Str → Option Value} {h' : Heap} {tk : Nat} {L t1 t2 : Nat} {m : Str → Option Value},
  (Kr w.params).In s.heap → TopRead q0 loose0 mg mb s.heap → Fr s.heap L h' m → News s.heap L h' [] → m "kind" = some (.int (k : Nat) t1) → m "which" = some (.int (u : Nat) t2) → A.handled = none →
    wpAny (model p0 w) A (execs ((fBody (stm 11)).drop 2) (envOf (S [95, 108, 97, 119, 95, 112, 105, 101, 99, 101]) (fScope (stm 11)) L 145 (.ref 144)))
      (fun f s' => PairPost s x y (.ok (.ret (match f with | .ret v => v | _ => .none))) s') (fun _ _ => False) { s with heap := h', toks := tk }
noncomputable def hid : List Int := 173 :: 847 :: 6150 :: 6155 :: 6156 :: 6157 :: 8203 :: 8204 :: 8205 :: 8288 :: (rangeKs 65024 16 ++ [65279])
noncomputable def nxt : List Int := [172, 174, 846, 848, 6149, 6151, 6154, 6158, 8202, 8206, 8287, 8289, 65023, 65040, 65278, 65280]
noncomputable def caps : List Int := [65, 119808, 119860, 119912, 120016, 120172, 120224, 120276, 120328, 120380, 120432]
noncomputable def tab8 : List (Str × Str) := [("ß", "ss"), ("ﬀ", "ff"), ("ﬁ", "fi"), ("ﬂ", "fl"), ("ﬅ", "st"), ("ﬆ", "st"), ("№", "no"), ("™", "tm"), ("℠", "sm"), ("㏎", "km")]
noncomputable def tab9 : List (Str × Str) := [("ﬃ", "ffi"), ("ﬄ", "ffl"), ("℡", "tel"), ("㎑", "khz"), ("㎪", "kpa"), ("㏇", "co.")]
noncomputable def chrI (i : Int) : Str := ⟨#[i.toNat]⟩
theorem pair_close {s : Shared} {h' : Heap} {tk p : Nat} {x y : Str} {t1 t2 : Nat} {L : Addr} {m : Str → Option Value} {news : List (Addr × Obj)} (F : Fr s.heap L h' m) (N : News s.heap L h' news) (hm : (p, ({ cls := .type "tuple", data := .seq #[.str x t1, .str y t2] } : Obj)) ∈ news) :
    PairPost s x y (.ok (.ret (.ref p))) { s with heap := h', toks := tk } := ⟨p, t1, t2, rfl, kept_of F.keep, News.isTup N hm⟩
section
variable {prog : Program} {w : World} {A : Around} {E : Value → Shared → Prop} {env : Env} {h₀ : Heap} {L : Addr} {m : Str → Option Value}
noncomputable def PairE (e : PySem.Expr) (p : Str × Str) : Prop := ∃ k1 p1 k2 p2 k3 p3, e = .Tuple [.Constant (.str p.1) k1 p1, .Constant (.str p.2) k2 p2] k3 p3
noncomputable def IntE (e : PySem.Expr) (n : Int) : Prop := ∃ k p, e = .Constant (.int n) k p
noncomputable def PairV (news : List (Addr × Obj)) (v : Value) (p : Str × Str) : Prop := ∃ a t1 t2, v = .ref a ∧ (a, ({ cls := .type "tuple", data := .seq #[.str p.1 t1, .str p.2 t2] } : Obj)) ∈ news
theorem paired_get {α β : Type} {F : α → β → Prop} [Inhabited β] : ∀ {l : List α} {m : List β} {i : Nat}, Paired F l m → i < m.length → ∃ x, l[i]? = some x ∧ F x (m.getD i default)
  | _, _, 0, .cons h _, _ => ⟨_, rfl, h⟩
  | _, _, i + 1, .cons _ t, h => paired_get (i := i) t (Nat.lt_of_succ_lt_succ h)
theorem paired_size {α β : Type} {F : α → β → Prop} {l : List α} {m : List β} (h : Paired F l m) : l.length = m.length := by
  induction h with
  | nil => rfl
  | cons _ _ ih => rw [List.length_cons, List.length_cons, ih]
theorem pairs_list {pos : Pos} {es : List PySem.Expr} {ps : List (Str × Str)} (hes : Paired PairE es ps) : ∀ {s : Shared} {Q : List Value → Shared → Prop} {news : List (Addr × Obj)}, Fr h₀ L s.heap m → News h₀ L s.heap news →
    (∀ h' tk' vs news', Fr h₀ L h' m → News h₀ L h' news' → (∀ x ∈ news, x ∈ news') → Paired (PairV news') vs ps → Q vs { s with heap := h', toks := tk' }) →
    wpAny (model prog w) A (spliced (backTo pos (starEach es env))) Q E s := by
  induction hes with
  | nil => exact fun {s Q news} F N go => args_nil (go s.heap s.toks [] news F N (fun _ h => h) .nil)
  | cons he _ ih =>
    intro s Q news F N go
    obtain ⟨k1, p1, k2, p2, k3, p3, rfl⟩ := he
    refine args_cons (Tuple_ (args_cons (Constant_str (args_cons (Constant_str (args_nil (kup_newTuple F N (fun D h' F' N' _ => ?_) (by show 2 ≤ _; rw [sizeLine_eq]; decide))))))))
    exact ih F' N' fun h'' tk'' vs news' F'' N'' sub P => go h'' tk'' _ news' F'' N'' (fun x hx => sub x (.tail _ hx)) (.cons ⟨D, _, _, rfl, sub _ (.head _)⟩ P)
theorem ints_list {pos : Pos} {es : List PySem.Expr} {ns : List Int} (hes : Paired IntE es ns) : ∀ {s : Shared} {Q : List Value → Shared → Prop}, (∀ tk' vs, IntsAre vs ns → Q vs { s with toks := tk' }) →
    wpAny (model prog w) A (spliced (backTo pos (starEach es env))) Q E s := by
  induction hes with
  | nil => exact fun {s Q} go => args_nil (go s.toks [] .nil)
  | cons he _ ih =>
    intro s Q go
    obtain ⟨k, p, rfl⟩ := he
    exact args_cons (wpAny_Constant_int (ih fun tk' vs h => go tk' _ (.cons _ _ h)))
end
set_option maxHeartbeats 4000000 in
theorem piece0 (u : Nat) : PieceAt 0 u " " " " := by
  intro w A s mg mb h' tk L t1 t2 m X T F N hk hw hh
  refine gen_post fun Q' hQ => ?_
  conv => arg 3; arg 1; whnf
  k_steps
  exact hQ (.ret _) _ (pair_close (by assumption) (by assumption) (.head _))
set_option maxHeartbeats 4000000 in
theorem piece1 (u : Nat) : PieceAt 1 u "\n" "\n" := by
  intro w A s mg mb h' tk L t1 t2 m X T F N hk hw hh
  refine gen_post fun Q' hQ => ?_
  conv => arg 3; arg 1; whnf
  k_steps
  exact hQ (.ret _) _ (pair_close (by assumption) (by assumption) (.head _))
set_option maxHeartbeats 4000000 in
theorem piece2 (u : Nat) : PieceAt 2 u "\"" "\"" := by
  intro w A s mg mb h' tk L t1 t2 m X T F N hk hw hh
  refine gen_post fun Q' hQ => ?_
  conv => arg 3; arg 1; whnf
  k_steps
  exact hQ (.ret _) _ (pair_close (by assumption) (by assumption) (.head _))
set_option maxHeartbeats 4000000 in
theorem piece3 (u : Nat) : PieceAt 3 u "\\" "\\" := by
  intro w A s mg mb h' tk L t1 t2 m X T F N hk hw hh
  refine gen_post fun Q' hQ => ?_
  conv => arg 3; arg 1; whnf
  k_steps
  exact hQ (.ret _) _ (pair_close (by assumption) (by assumption) (.head _))
set_option maxHeartbeats 4000000 in
theorem piece4 (u : Nat) : PieceAt 4 u "ͺ" " ι" := by
  intro w A s mg mb h' tk L t1 t2 m X T F N hk hw hh
  refine gen_post fun Q' hQ => ?_
  conv => arg 3; arg 1; whnf
  k_steps
  exact hQ (.ret _) _ (pair_close (by assumption) (by assumption) (.head _))
set_option maxHeartbeats 4000000 in
theorem piece10 (u : Nat) : PieceAt 10 u (Txt.item "\t\r" ((u : Int).fmod 2)) (Txt.item "\t\r" ((u : Int).fmod 2)) := by
  intro w A s mg mb h' tk L t1 t2 m X T F N hk hw hh
  refine gen_post fun Q' hQ => ?_
  conv => arg 3; arg 1; whnf
  k_steps
  exact hQ (.ret _) _ (pair_close (by assumption) (by assumption) (.head _))
set_option maxHeartbeats 4000000 in
theorem piece11 (u : Nat) : PieceAt 11 u (Txt.item "abfist#" ((u : Int).fmod 7)) (Txt.item "abfist#" ((u : Int).fmod 7)) := by
  intro w A s mg mb h' tk L t1 t2 m X T F N hk hw hh
  refine gen_post fun Q' hQ => ?_
  conv => arg 3; arg 1; whnf
  k_steps
  exact hQ (.ret _) _ (pair_close (by assumption) (by assumption) (.head _))
theorem bnd {l : List Int} (h : (l.all fun x => decide (0 ≤ x ∧ x < 1000000)) = true) (i : Nat) : 0 ≤ l.getD i 0 ∧ l.getD i 0 < 1000000 := by
  rw [List.getD_eq_getElem?_getD]
  cases q : l[i]? with
  | none => exact ⟨by decide, by decide⟩
  | some x => exact of_decide_eq_true (List.all_eq_true.mp h x (List.mem_of_getElem? q))
end
theorem join_tick_Wk4_5_0 : True := by
  w_top off
  first | walk1 | exact trivial
section
local macro_rules | `(tactic| walk_at "call builtin:chr") => `(tactic| refine Stop.of ?_)
section
local macro_rules | `(tactic| walk_at "call type:list") => `(tactic| refine Stop.of ?_)
section
set_option maxHeartbeats 4000000 in
theorem piece5 (u : Nat) : PieceAt 5 u (chrI (hid.getD ((u : Int).fmod 27).toNat 0)) "" := by
  intro w A s mg mb h' tk L t1 t2 m X T F N hk hw hh
  refine gen_post fun Q' hQ => ?_
  conv => arg 3; arg 1; whnf
  k_steps
  refine Stop.go ?_
  refine' kll_range (n := 16) hh ?k1 ?k2 ?k3 ?k4 ?k5 ?k6 ?_
  case k1 => assumption
  case k2 => assumption
  case k3 => assumption
  case k4 => decide +kernel
  case k5 => decide +kernel
  case k6 => decide
  intro D' vs' c' h' tk' F' N' l1 hI'
  k_steps
  refine Stop.go ?_
  have hb := bnd (l := hid) (by decide +kernel) ((u : Int).fmod 27).toNat
  unfold hid at hb
  refine chr_of_range hb.1 (by omega) ?_
  clear hb
  k_steps
  exact hQ (.ret _) _ (pair_close (by assumption) (by assumption) (.head _))
end
end
theorem join_tick_Wk4_7_0 : True := by
  w_top off
  first | walk1 | exact trivial
section
local macro_rules | `(tactic| walk_at "eval List") => `(tactic| k_dflt (refine Stop.of ?_))
section
set_option maxHeartbeats 4000000 in
theorem piece7 (u : Nat) : PieceAt 7 u (chrI (caps.getD (((u : Int).fdiv 26).fmod 11).toNat 0 + (u : Int).fmod 26)) (chrI (97 + (u : Int).fmod 26)) := by
  intro w A s mg mb h' tk L t1 t2 m X T F N hk hw hh
  have hb := bnd (l := caps) (by decide +kernel) (((u : Int).fdiv 26).fmod 11).toNat
  have hf1 := fmod_lo (u : Int) (n := 26) (by decide)
  have hf2 := fmod_hi (u : Int) (n := 26) (by decide)
  have hg1 := fmod_lo ((u : Int).fdiv 26) (n := 11) (by decide)
  have hg2 := fmod_hi ((u : Int).fdiv 26) (n := 11) (by decide)
  refine gen_post fun Q' hQ => ?_
  conv => arg 3; arg 1; whnf
  k_steps
  refine Stop.go ?_
  with_reducible refine List_ ?_
  refine' ints_list (ns := caps) ?hes ?go
  case hes =>
    unfold caps
    repeat' (first | exact .nil | refine .cons ⟨_, _, rfl⟩ ?_)
  intro tk' vs hI
  refine newList_K F N (fun l h' F N l1 => ?_) (by rw [hI.length, sizeLine_eq]; decide)
  k_steps
  refine Stop.go ?_
  refine chr_of_range (by omega) (by omega) ?_
  k_steps
  refine Stop.go ?_
  refine chr_of_range (by omega) (by omega) ?_
  k_steps
  exact hQ (.ret _) _ (pair_close (by assumption) (by assumption) (.head _))
set_option maxHeartbeats 4000000 in
theorem piece6 (u : Nat) : PieceAt 6 u (chrI (nxt.getD ((u : Int).fmod 16).toNat 0)) (chrI (nxt.getD ((u : Int).fmod 16).toNat 0)) := by
  intro w A s mg mb h' tk L t1 t2 m X T F N hk hw hh
  have hb := bnd (l := nxt) (by decide +kernel) ((u : Int).fmod 16).toNat
  have hg1 := fmod_lo (u : Int) (n := 16) (by decide)
  have hg2 := fmod_hi (u : Int) (n := 16) (by decide)
  refine gen_post fun Q' hQ => ?_
  conv => arg 3; arg 1; whnf
  k_steps
  rename_i F2 N2 _ _
  refine Stop.go ?_
  with_reducible refine List_ ?_
  refine' ints_list (ns := nxt) ?hes ?go
  case hes =>
    unfold nxt
    repeat' (first | exact .nil | refine .cons ⟨_, _, rfl⟩ ?_)
  intro tk' vs hI
  refine newList_K F2 N2 (fun l h' F N l1 => ?_) (by rw [hI.length, sizeLine_eq]; decide)
  k_steps
  refine Stop.go ?_
  refine chr_of_range hb.1 (by omega) ?_
  k_steps
  exact hQ (.ret _) _ (pair_close (by assumption) (by assumption) (.head _))
end
end
end
theorem join_tick_Wk4_8_0 : True := by
  w_top off
  first | walk1 | exact trivial
section
local macro_rules | `(tactic| walk_at "subscriptTail") => `(tactic| refine Stop.of ?_)
section
local macro_rules | `(tactic| walk_at "eval List") => `(tactic| k_dflt (refine Stop.of ?_))
section
theorem len_tab8 : tab8.length = 10 := rfl
set_option maxHeartbeats 400000 in
theorem piece8 (u : Nat) : PieceAt 8 u (tab8.getD ((u : Int).fmod 10).toNat default).1 (tab8.getD ((u : Int).fmod 10).toNat default).2 := by
  intro w A s mg mb h' tk L t1 t2 m X T F N hk hw hh
  have h1 := fmod_lo (u : Int) (n := 10) (by decide)
  have h2 := fmod_hi (u : Int) (n := 10) (by decide)
  refine gen_post fun Q' hQ => ?_
  conv => arg 3; arg 1; whnf
  k_steps
  refine Stop.go ?_
  with_reducible refine List_ ?_
  refine' pairs_list (ps := tab8) ?hes ?F ?N ?go
  case F => exact F
  case N => exact N
  case hes =>
    unfold tab8
    repeat' (first | exact .nil | refine .cons ⟨_, _, _, _, _, _, rfl⟩ ?_)
  intro h' tk' vs news' F N _ P
  refine newList_K F N (fun l h' F N l1 => ?_) (by rw [paired_size P, sizeLine_eq, len_tab8]; decide)
  k_steps
  refine Stop.go ?_
  obtain ⟨v, hv, a, t1, t2, rfl, hm⟩ := paired_get P (i := ((u : Int).fmod 10).toNat) (by show _ < 10; omega)
  refine item_listR (News.isList N (.head _)) h1 (by omega) (by rw [List.getElem?_toArray]; exact hv) ?_
  exact hQ (.ret _) _ (pair_close F N (.tail _ hm))
end
theorem join_tick_Wk4_9_0 : True := by
  w_top off
  first | walk1 | exact trivial
section
theorem len_tab9 : tab9.length = 6 := rfl
set_option maxHeartbeats 400000 in
theorem piece9 (u : Nat) : PieceAt 9 u (tab9.getD ((u : Int).fmod 6).toNat default).1 (tab9.getD ((u : Int).fmod 6).toNat default).2 := by
  intro w A s mg mb h' tk L t1 t2 m X T F N hk hw hh
  have h1 := fmod_lo (u : Int) (n := 6) (by decide)
  have h2 := fmod_hi (u : Int) (n := 6) (by decide)
  refine gen_post fun Q' hQ => ?_
  conv => arg 3; arg 1; whnf
  k_steps
  refine Stop.go ?_
  with_reducible refine List_ ?_
  refine' pairs_list (ps := tab9) ?hes ?F ?N ?go
  case F => exact F
  case N => exact N
  case hes =>
    unfold tab9
    repeat' (first | exact .nil | refine .cons ⟨_, _, _, _, _, _, rfl⟩ ?_)
  intro h' tk' vs news' F N _ P
  refine newList_K F N (fun l h' F N l1 => ?_) (by rw [paired_size P, sizeLine_eq, len_tab9]; decide)
  k_steps
  refine Stop.go ?_
  obtain ⟨v, hv, a, t1, t2, rfl, hm⟩ := paired_get P (i := ((u : Int).fmod 6).toNat) (by show _ < 6; omega)
  refine item_listR (News.isList N (.head _)) h1 (by omega) (by rw [List.getElem?_toArray]; exact hv) ?_
  exact hQ (.ret _) _ (pair_close F N (.tail _ hm))
end
end
end
theorem join_tick_Wk5_0 : True := by
  w_top off
  first | walk1 | exact trivial
section
noncomputable def pk (k u : Nat) : Str × Str := match k with
  | 0 => (" ", " ")
  | 1 => ("\n", "\n")
  | 2 => ("\"", "\"")
  | 3 => ("\\", "\\")
  | 4 => ("ͺ", " ι")
  | 5 => (chrI (hid.getD ((u : Int).fmod 27).toNat 0), "")
  | 6 => (chrI (nxt.getD ((u : Int).fmod 16).toNat 0), chrI (nxt.getD ((u : Int).fmod 16).toNat 0))
  | 7 => (chrI (caps.getD (((u : Int).fdiv 26).fmod 11).toNat 0 + (u : Int).fmod 26), chrI (97 + (u : Int).fmod 26))
  | 8 => ((tab8.getD ((u : Int).fmod 10).toNat default).1, (tab8.getD ((u : Int).fmod 10).toNat default).2)
  | 9 => ((tab9.getD ((u : Int).fmod 6).toNat default).1, (tab9.getD ((u : Int).fmod 6).toNat default).2)
  | 10 => (Txt.item "\t\r" ((u : Int).fmod 2), Txt.item "\t\r" ((u : Int).fmod 2))
  | _ => (Txt.item "abfist#" ((u : Int).fmod 7), Txt.item "abfist#" ((u : Int).fmod 7))
/-- what _law_piece gives -/
noncomputable def pieceOf (v : Nat) : Str × Str := pk (v % 12) (v / 12)
theorem pieceAt (k u : Nat) (h : k < 12) : PieceAt k u (pk k u).1 (pk k u).2 := by
  have hk : k = 0 ∨ k = 1 ∨ k = 2 ∨ k = 3 ∨ k = 4 ∨ k = 5 ∨ k = 6 ∨ k = 7 ∨ k = 8 ∨ k = 9 ∨ k = 10 ∨ k = 11 := by omega
  clear h
  rcases hk with rfl | rfl | rfl | rfl | rfl | rfl | rfl | rfl | rfl | rfl | rfl | rfl
  · exact @piece0 u
  · exact @piece1 u
  · exact @piece2 u
  · exact @piece3 u
  · exact @piece4 u
  · exact @piece5 u
  · exact @piece6 u
  · exact @piece7 u
  · exact @piece8 u
  · exact @piece9 u
  · exact @piece10 u
  · exact @piece11 u
end
theorem join_tick_Wk5_1 : True := by
  w_top off
  first | walk1 | exact trivial
section
local macro_rules | `(tactic| k_steps) => `(tactic| iterate 16 (first | (walk1; try dsimp only) | (dsimp only; walk1; try dsimp only) | fail "no step"))
section
theorem piece_code {w : World} {A : Around} {s : Shared} {mg mb : Str → Option Value} (G : Gd w mg mb s.heap) {v t : Nat} (hA : A.depth < 900) (hh : A.handled = none) :
  codeAny (model p0 w) A (.call (.ref 145) ⟨[.int v t], []⟩) (PairPost s (pieceOf v).1 (pieceOf v).2) s := by
  refine call_fd (o := q145_12 w.params) (nm := S [95, 108, 97, 119, 95, 112, 105, 101, 99, 101]) (sc := fScope (stm 11)) (cd := .ref 144) (body := fBody (stm 11)) (binds := [("v", .int v t)])
    G hA (by kernel_rfl!) rfl (by kernel_rfl!) (by kernel_rfl!) (fun L => by kernel_rfl!) (BindsTo.of_eq (by with_unfolding_all rfl)) (by decide +kernel) (by kernel_rfl!) ?_ (by kernel_rfl!) (by kernel_rfl!) (by kernel_rfl!)
  intro h₀ F X T N
  conv => arg 3; arg 1; whnf
  k_steps
  rename_i F' N'
  exact pieceAt (v % 12) (v / 12) (Nat.mod_lt _ (by decide)) X T F' N' (congrArg (fun z => some (Value.int z _)) (by rw [Int.fmod_eq_emod_of_nonneg _ (by decide)]; rfl)) (congrArg (fun z => some (Value.int z _)) (by rw [Int.fdiv_eq_ediv_of_nonneg _ (by decide)]; rfl)) hh
end
end
theorem join_tick_Wk6_0 : True := by
  w_top off
  first | walk1 | exact trivial
section
local macro_rules | `(tactic| walk_at "loadName") => `(tactic| (k_dflt (refine' ldn ?k1 ?k2 ?_; (case k1 => k_asm); (case k2 => assumption); k_whole)))
section
local macro_rules | `(tactic| size_fits) => `(tactic| assumption)
section
local macro_rules | `(tactic| k_all) => `(tactic| assumption)
section
theorem perm2 {g h : Heap} {L : Addr} {x y : Addr × Obj} {r : List (Addr × Obj)} (N : News g L h (x :: y :: r)) : News g L h (y :: x :: r) := fun p hp => by
  rcases List.mem_cons.mp hp with rfl | hp
  · exact N _ (.tail _ (.head _))
  · rcases List.mem_cons.mp hp with rfl | hp
    · exact N _ (.head _)
    · exact N _ (.tail _ (.tail _ hp))
/-- a pile of tuples on the ledger that stand for data -/
noncomputable abbrev tupO (xs : Array Value) : Obj := { cls := .type "tuple", data := .seq xs }
noncomputable def CutIn (tups : List (Addr × Obj)) (v : Value) (c : Str × Bool × Nat) : Prop := ∃ a t1 t2, v = .ref a ∧ (a, tupO #[.str c.1 t1, .bool c.2.1, .int (c.2.2 : Nat) t2]) ∈ tups
theorem CutIn.more {tups tups' : List (Addr × Obj)} {v : Value} {c : Str × Bool × Nat} (h : CutIn tups v c) (k : ∀ q ∈ tups, q ∈ tups') : CutIn tups' v c := let ⟨a, t1, t2, e, m⟩ := h; ⟨a, t1, t2, e, k _ m⟩
theorem paired_mono {α β : Type} {F G : α → β → Prop} (k : ∀ a b, F a b → G a b) : ∀ {l : List α} {m : List β}, Paired F l m → Paired G l m
  | _, _, .nil => .nil
  | _, _, .cons h t => .cons (k _ _ h) (paired_mono k t)
/-- the page's cuts -/
noncomputable def cutsF (p : Str) : Nat → Nat → List (Str × Bool × Nat)
  | 0, _ => []
  | f + 1, i => if i < p.length then (if Txt.item p (i : Nat) == "\\" then (Txt.slice p (some ((i : Nat) + 1)) (some ((i : Nat) + 2)), false, i + 2) :: cutsF p f (i + 2) else (Txt.item p (i : Nat), true, i + 1) :: cutsF p f (i + 1)) else []
noncomputable def cutsOf (p : Str) : List (Str × Bool × Nat) := cutsF p (p.length + 1) 0
theorem cutsF_end {p : Str} {f i : Nat} (h : ¬ i < p.length) : cutsF p f i = [] := by
  cases f with
  | zero => rfl
  | succ f => rw [cutsF, if_neg h]
inductive CutInv (s : Shared) (p : Str) (t : Nat) (C : Addr) (n : Nat) (s' : Shared) : Prop
  | mk (h' : _) (tk : _) (m : _) (its : _) (c : _) (tups : _) (f : _) (i : _) (cs : _) (ti : _) (e0 : s' = { s with heap := h', toks := tk }) (e1 : Fr s.heap s.heap.objs.size h' m) (e2 : News s.heap s.heap.objs.size h' ((C, listOf its c) :: tups)) (e3 : m "page" = some (.str p t)) (e4 : m "cuts" = some (.ref C)) (e5 : m "at" = some (.int (i : Nat) ti)) (e6 : (∀ q ∈ tups, q.1 ≠ C)) (e7 : Paired (CutIn tups) its.toList cs) (e8 : its.size ≤ i) (e9 : i ≤ p.length + 1) (e10 : p.length < i + f) (e11 : cs ++ cutsF p f i = cutsOf p) (e12 : n = p.length + 1 - i) : CutInv s p t C n s'
/-- from place k on: the first bare sign of these -/
noncomputable def lastF (cs : List (Str × Bool × Nat)) (ends : Str) : Nat → Nat → Nat
  | 0, l => l
  | f + 1, l => if l < cs.length ∧ ((cs.getD l default).2.1 && Txt.contains ends (cs.getD l default).1) = false then lastF cs ends f (l + 1) else l
noncomputable def wordAt (cs : List (Str × Bool × Nat)) (k l : Nat) : Str × Option Nat :=
  (Txt.join "" (((cs.drop k).take (l - k)).map (·.1)), if l < cs.length then some (cs.getD l default).2.2 else none)
noncomputable def wordsF (cs : List (Str × Bool × Nat)) : Nat → Nat → List (Str × Option Nat)
  | 0, _ => []
  | f + 1, k => if k < cs.length then
      (let c := cs.getD k default
       if (c.2.1 && Txt.contains "\n\t\r " c.1) = true then wordsF cs f (k + 1)
       else if (c.2.1 && c.1 == "\"") = true then
         (let l := lastF cs "\"" (cs.length + 1) (k + 1)
          wordAt cs (k + 1) l :: wordsF cs f (l + 1))
       else
         (let l := lastF cs "\n\t\r " (cs.length + 1) k
          wordAt cs k l :: wordsF cs f (l + 1)))
    else []
noncomputable def WordIn (tups : List (Addr × Obj)) (v : Value) (c : Str × Option Nat) : Prop := ∃ a t1 b, v = .ref a ∧ (a, tupO #[.str c.1 t1, b]) ∈ tups ∧ match c.2 with
  | none => b = .none
  | some n => ∃ t, b = .int (n : Nat) t
noncomputable def WordInv (s : Shared) (p : Str) (C W : Addr) (its : Array Value) (c : Nat) (n : Nat) (s' : Shared) : Prop :=
  ∃ (h' : Heap) (tk : Nat) (m : Str → Option Value) (itw : Array Value) (cw : Nat) (tups : List (Addr × Obj)) (f k : Nat) (ws : List (Str × Option Nat)) (tk' : Nat), s' = { s with heap := h', toks := tk } ∧ Fr s.heap s.heap.objs.size h' m ∧
    News s.heap s.heap.objs.size h' ((C, listOf its c) :: (W, listOf itw cw) :: tups) ∧ m "cuts" = some (.ref C) ∧ m "words" = some (.ref W) ∧ m "k" = some (.int (k : Nat) tk') ∧
    (∀ q ∈ tups, q.1 ≠ C) ∧ (∀ q ∈ tups, q.1 ≠ W) ∧ W ≠ C ∧ Paired (WordIn tups) itw.toList ws ∧ Paired (CutIn tups) its.toList (cutsOf p) ∧
    itw.size ≤ k ∧ k ≤ (cutsOf p).length + 1 ∧ (cutsOf p).length < k + f ∧ ws ++ wordsF (cutsOf p) f k = wordsF (cutsOf p) ((cutsOf p).length + 1) 0 ∧ n = (cutsOf p).length + 1 - k
noncomputable def WordOf (h : Heap) (v : Value) (c : Str × Option Nat) : Prop := ∃ a t1 b, v = .ref a ∧ IsTup h a #[.str c.1 t1, b] ∧ match c.2 with
  | none => b = .none
  | some n => ∃ t, b = .int (n : Nat) t
noncomputable def wordsOf (p : Str) : List (Str × Option Nat) := wordsF (cutsOf p) ((cutsOf p).length + 1) 0
noncomputable def WordsPost (s : Shared) (p : Str) (r : Result) (s' : Shared) : Prop := ∃ (a : Addr) (vs : List Value), r = .ok (.ret (.ref a)) ∧ Kept s s' ∧ s'.heap.IsList a vs.toArray ∧ Paired (WordOf s'.heap) vs (wordsOf p)
noncomputable def WordsGo (w : World) (A : Around) (s : Shared) (p : Str) : Prop := ∀ {h' : Heap} {tk : Nat} {m : Str → Option Value} {its : Array Value} {c : Nat} {C : Addr} {tups : List (Addr × Obj)},
  Fr s.heap s.heap.objs.size h' m → News s.heap s.heap.objs.size h' ((C, listOf its c) :: tups) → m "cuts" = some (.ref C) → (∀ q ∈ tups, q.1 ≠ C) → Paired (CutIn tups) its.toList (cutsOf p) → its.size ≤ 101 →
    wpAny (model p0 w) (A.deeper (envOf (S [95, 108, 97, 119, 95, 119, 111, 114, 100, 115]) (fScope (stm 13)) s.heap.objs.size 157 (.ref 156))) (execs ((fBody (stm 13)).drop 3) (envOf (S [95, 108, 97, 119, 95, 119, 111, 114, 100, 115]) (fScope (stm 13)) s.heap.objs.size 157 (.ref 156)))
      (fun f s' => WordsPost s p (.ok (.ret (match f with | .ret v => v | _ => .none))) s') (fun _ _ => False) { s with heap := h', toks := tk }
set_option maxHeartbeats 4000000 in
theorem words_cuts {w : World} {A : Around} {s : Shared} {mg mb : Str → Option Value} (G : Gd w mg mb s.heap) {p : Str} {t : Nat} (hp : p.length < 100) (hA : A.depth < 900) (go : WordsGo w A s p) :
  codeAny (model p0 w) A (.call (.ref 157) ⟨[.str p t], []⟩) (WordsPost s p) s := by
  refine call_fd (o := q157_14 w.params) (nm := S [95, 108, 97, 119, 95, 119, 111, 114, 100, 115]) (sc := fScope (stm 13)) (cd := .ref 156) (body := fBody (stm 13)) (binds := [("page", .str p t)])
    G hA (by kernel_rfl!) rfl (by kernel_rfl!) (by kernel_rfl!) (fun L => by kernel_rfl!) (BindsTo.of_eq (by with_unfolding_all rfl)) (by decide +kernel) (by kernel_rfl!) ?_ (by kernel_rfl!) (by kernel_rfl!) (by kernel_rfl!)
  intro h₀ F X T N
  conv => arg 3; arg 1; whnf
  k_steps
  rename_i C _ _ _ _ _ _ _
  refine loop_ind (CutInv s p t C) (fun n => n) ?_ (p.length + 1) ⟨_, _, _, _, _, [], p.length + 1, 0, [], _, rfl, by assumption, by assumption, rfl, rfl, rfl, (fun _ h => (nomatch h)), .nil, Nat.le_refl _, Nat.zero_le _, by omega, rfl, rfl⟩
  rintro R Q1 hx1 n s' ⟨h', tk, m, its, c, tups, f, i, cs, ti, rfl, F, N, mp, mc, mat, hne, hP, hi1, hi2, hf, hcs, rfl⟩ IH
  have hsz : its.size ≤ sizeLine := by rw [sizeLine_eq]; omega
  k_steps
  refine LoopIf.of (fun hlt => ?_) (fun hge => ?_)
  · have hlt := of_decide_eq_true hlt
    k_steps
    · rename_i a _ _ _ _ _ D _ l1 _ _ _ F' N'
      cases f with
      | zero => omega
      | succ f =>
        have e1 : cutsF p (f + 1) i = (Txt.slice p (some ((i : Nat) + 1)) (some ((i : Nat) + 2)), false, i + 2) :: cutsF p f (i + 2) := by rw [cutsF, if_pos (by omega), if_pos a]
        refine IH (p.length + 1 - (i + 2)) _ (by omega) ⟨_, _, _, _, _, _, f, i + 2, cs ++ [(Txt.slice p (some ((i : Nat) + 1)) (some ((i : Nat) + 2)), false, i + 2)], _, rfl, F', perm2 N', mp, mc, rfl, ?_, ?_, ?_, by omega, by omega, ?_, rfl⟩
        · exact List.forall_mem_cons.mpr ⟨fun e => Nat.ne_of_gt l1.1 e, hne⟩
        · rw [Array.toList_push]
          exact Paired.snoc (paired_mono (fun _ _ x => x.more fun q h => .tail _ h) hP) ⟨D, _, _, rfl, .head _⟩
        · rw [Array.size_push]; omega
        · rw [e1] at hcs
          rw [List.append_assoc]
          exact hcs
    · rename_i a _ _ D _ l1 _ _ _ F' N'
      cases f with
      | zero => omega
      | succ f =>
        have e1 : cutsF p (f + 1) i = (Txt.item p (i : Nat), true, i + 1) :: cutsF p f (i + 1) := by rw [cutsF, if_pos (by omega), if_neg (by rw [a]; decide)]
        refine IH (p.length + 1 - (i + 1)) _ (by omega) ⟨_, _, _, _, _, _, f, i + 1, cs ++ [(Txt.item p (i : Nat), true, i + 1)], _, rfl, F', perm2 N', mp, mc, rfl, ?_, ?_, ?_, by omega, by omega, ?_, rfl⟩
        · exact List.forall_mem_cons.mpr ⟨fun e => Nat.ne_of_gt l1.1 e, hne⟩
        · rw [Array.toList_push]
          exact Paired.snoc (paired_mono (fun _ _ x => x.more fun q h => .tail _ h) hP) ⟨D, _, _, rfl, .head _⟩
        · rw [Array.size_push]; omega
        · rw [e1] at hcs
          rw [List.append_assoc]
          exact hcs
  · have hge := of_decide_eq_false hge
    rw [cutsF_end (by omega), List.append_nil] at hcs
    subst hcs
    refine wpAny_execs_nil (hx1 .next _ ?_)
    exact go F N mc hne hP (by omega)
end
section
section
variable {prog : Program} {w : World} {A : Around} {E : Value → Shared → Prop} {env : Env} {s : Shared}
theorem comp_list {elt iter : PySem.Expr} {x : Str} {px : Pos} {scope : Scope} {cl : List (Str × Addr)} {pos : Pos} {Q : Value → Shared → Prop} (F : Value → Value → Prop)
    (hh : A.handled = none) (hclos : closureFor scope env = pure cl) (hcell : (scope.names.all fun y => y.2 != .cell) = true) (hkind : scope.kind = .function)
    (hnames : (scope.names.all fun y => y.2 != .local || scope.names.lookup y.1 == some .local) = true) (hx : scope.names.lookup x = some .local)
    (h : wpAny (model prog w) A (eval iter env) (fun xv s₁ => ∃ (ax : Addr) (items : Array Value), xv = .ref ax ∧ s₁.heap.IsList ax items ∧ items.size ≤ sizeLine ∧
      (∀ (C : Addr) (i : Nat) (v : Value) (s₃ : Shared) (m₃ : Str → Option Value) (E' : Value → Shared → Prop), items[i]? = some v → s₃.heap.Ns C m₃ → m₃ x = some v → (∀ b o, s₁.heap.get? b = some o → s₃.heap.get? b = some o) →
        wpAny (model prog w) A (eval elt (compEnvC scope cl C env)) (fun y s₄ => F v y ∧ Keeps s₃ s₄) E' s₃) ∧
      (∀ (D : Addr) (h' : Heap) (tk : Nat) (ys : Array Value), s₁.heap.get? D = none → h'.IsList D ys → h'.PlainList D ys → Paired F items.toList ys.toList → (∀ b o, s₁.heap.get? b = some o → h'.get? b = some o) → Q (.ref D) { s₁ with heap := h', toks := tk })) E s)
    (hs : ∀ x, foldedSetIterable iter env x = pure x := by intro _; rfl) :
    wpAny (model prog w) A (eval (.ListComp elt [⟨.Name x px, iter, [], 0⟩] scope pos) env) Q E s := by
  refine wpAny_ListComp_free (fun _ => true) F hclos (fun y hy => by simpa using List.all_eq_true.mp hcell y hy) hkind (fun y hy e => by
    have := List.all_eq_true.mp hnames y hy
    rw [e] at this
    simpa using this) hx (wpAny_mono h (fun xv s₁ h₁ => ?_) fun _ _ e => e) hs
  obtain ⟨ax, items, rfl, hl₁, hsz, helt, hQ⟩ := h₁
  have hax : ax < s₁.heap.objs.size := by obtain ⟨_, e, _⟩ := hl₁; exact Heap.lt_size e
  have notI : ∀ b, b < s₁.heap.objs.size → b ∉ [s₁.heap.objs.size] := fun b hb hm => by
    rcases List.mem_cons.mp hm with e | hm
    · exact Nat.ne_of_lt hb e
    · cases hm
  refine wpAny_pyIter_list hl₁ ?_
  refine ⟨s₁.heap.objs.size, [s₁.heap.objs.size, ax], [s₁.heap.objs.size], items.size, (fun i v => items[i]? = some v), _, rfl, Walks.list hh s₁.heap.objs.size ax (Nat.ne_of_lt hax) items, hsz,
    ⟨⟨_, Heap.get?_push_size _ rfl, rfl, rfl⟩, hl₁.push _⟩, ?_, ⟨?_, ?_⟩, ?_⟩
  · intro b hb
    show b < (s₁.heap.push _).objs.size
    rw [Heap.size_push]
    rcases List.mem_cons.mp hb with rfl | hb
    · exact Nat.lt_succ_self _
    · rcases List.mem_cons.mp hb with rfl | hb
      · exact Nat.lt_succ_of_lt hax
      · cases hb
  · intro C i v s₃ m₃ E' _ hP hn hm hold _
    exact wpAny_pure ⟨rfl, _, _, rfl, fun _ _ e => e⟩
  · intro C i v s₃ m₃ E' _ hP hp hn hm hold _
    exact helt C i v s₃ m₃ E' hP hn hm fun b o e => hold b o (notI b (Heap.lt_size e)) (Heap.get?_push_of_some _ e)
  · intro D h' tk ys vs hnew hlD hplD hlen hP hF hk
    rw [list_of_places hlen hP, List.filter_eq_self.mpr fun _ _ => rfl] at hF
    have keep : ∀ b o, s₁.heap.get? b = some o → h'.get? b = some o := fun b o e => hk b o (notI b (Heap.lt_size e)) (Heap.get?_push_of_some _ e)
    refine hQ D h' tk ys ?_ hlD hplD hF keep
    cases e : s₁.heap.get? D with
    | none => rfl
    | some o' => rw [Heap.get?_push_of_some _ e] at hnew; cases hnew
end
end
theorem join_tick_Wk7_0 : True := by
  w_top off
  first | walk1 | exact trivial
section
local macro_rules | `(tactic| k_mem) => `(tactic| assumption)
section
local macro_rules | `(tactic| walk_at "subscriptTail Name Name ref int") => `(tactic| (refine item_list (by is_list) (Int.natCast_nonneg _) (by omega) (by assumption) ?_))
section
local macro_rules | `(tactic| walk_at "assign Tuple") => `(tactic| (k_dflt (refine' unpackN_ ?F ?N ?T ?k1 ?k2 ?k3 ?_; (case F => k_asm); (case N => k_asm); (case T => exact News.isTup (by k_asm) (by k_mem)); (case k1 => assumption); (case k2 => exact rfl); (case k3 => exact rfl); k_whole); intro h' F' N'; (try k_sweep)))
section
theorem news_tail {g h : Heap} {L : Addr} {x : Addr × Obj} {r : List (Addr × Obj)} (N : News g L h (x :: r)) : News g L h r := fun p hp => N p (.tail _ hp)
theorem allLt_ne {d : Addr} : ∀ {l : List (Addr × Obj)}, AllLt d l → ∀ q ∈ l, q.1 ≠ d := by
  intro l
  induction l with
  | nil => intro _ q h; cases h
  | cons p r ih =>
    intro h q hq
    rcases List.mem_cons.mp hq with rfl | hq
    · exact Nat.ne_of_lt h.1
    · exact ih h.2 q hq
noncomputable def whB : Stmt → List Stmt
  | .While _ b _ _ => b
  | _ => []
noncomputable def ifE : Stmt → List Stmt
  | .If _ _ e _ => e
  | _ => []
noncomputable def tl13 : List Stmt := (ifE ((whB (((fBody (stm 13))[5]?).getD default))[1]?.getD default)).drop 2
noncomputable abbrev env13 (L : Addr) : Env := envOf (S [95, 108, 97, 119, 95, 119, 111, 114, 100, 115]) (fScope (stm 13)) L 157 (.ref 156)
end
theorem join_tick_Wk7_1 : True := by
  w_top off
  first | walk1 | exact trivial
section
local macro_rules | `(tactic| walk_at "subscriptTail Name Slice ref ref") => `(tactic| refine Stop.of ?_)
section
theorem cut_strs {tups : List (Addr × Obj)} : ∀ {vs ys : List Value} {cs : List (Str × Bool × Nat)}, Paired (CutIn tups) vs cs → Paired (fun v y => ∃ t, ∀ c, CutIn tups v c → y = .str c.1 t) vs ys → StrsAre ys (cs.map (·.1)) := by
  intro vs ys cs h
  induction h generalizing ys with
  | nil => intro g; cases g; exact .nil
  | cons h _ ih =>
    intro g
    cases g with
    | cons g gs =>
      obtain ⟨t, g⟩ := g
      rw [g _ h]
      exact .cons _ _ (ih gs)
theorem paired_drop {α β : Type} {F : α → β → Prop} : ∀ {l : List α} {m : List β} (k : Nat), Paired F l m → Paired F (l.drop k) (m.drop k)
  | _, _, 0, h => h
  | _, _, _ + 1, .nil => .nil
  | _, _, k + 1, .cons _ t => paired_drop k t
theorem paired_take {α β : Type} {F : α → β → Prop} : ∀ {l : List α} {m : List β} (k : Nat), Paired F l m → Paired F (l.take k) (m.take k)
  | _, _, 0, _ => .nil
  | _, _, _ + 1, .nil => .nil
  | _, _, k + 1, .cons h t => .cons h (paired_take k t)
theorem paired_mem {α β : Type} {F : α → β → Prop} : ∀ {l : List α} {m : List β} {x : α}, Paired F l m → x ∈ l → ∃ y, F x y := by
  intro l m x h
  induction h with
  | nil => intro q; cases q
  | cons a _ ih =>
    intro q
    rcases List.mem_cons.mp q with rfl | q
    · exact ⟨_, a⟩
    · exact ih q
set_option maxHeartbeats 4000000 in
theorem cuts_comp {w : World} {A : Around} {E : Value → Shared → Prop} {s : Shared} {h₀ : Heap} {mg mb : Str → Option Value} (X : (Kr w.params).In h₀) (T : TopRead q0 loose0 mg mb h₀) (hh : A.handled = none) {L : Addr} {m : Str → Option Value} {its : Array Value} {c : Nat} {C : Addr} {news tups : List (Addr × Obj)} {cs : List (Str × Bool × Nat)} {k l tk' tl : Nat} {Q : Value → Shared → Prop} {scope : Scope} {p1 p2 p3 p4 p5 p6 p7 p8 p9 p10 : Pos}
    (F : Fr h₀ L s.heap m) (N : News h₀ L s.heap news) (hC : (C, listOf its c) ∈ news) (hT : ∀ q ∈ tups, q ∈ news) (mc : m "cuts" = some (.ref C)) (mk : m "k" = some (.int (k : Nat) tk')) (ml : m "last" = some (.int (l : Nat) tl))
    (hP : Paired (CutIn tups) its.toList cs) (hkl : k ≤ l) (hl : l ≤ cs.length) (hsz : its.size ≤ sizeLine)
    (hsc : scope = ⟨.function, [(Str.ofString ".0", .local), (Str.ofString "cut", .local)], false, false, []⟩)
    (go : ∀ D h' tk ys, Fr h₀ L h' m → News h₀ L h' news → h'.IsList D ys → StrsAre ys.toList (((cs.drop k).take (l - k)).map (·.1)) → Q (.ref D) { s with heap := h', toks := tk }) :
    wpAny (model p0 w) A (eval (.ListComp (.Subscript (.Name (Str.ofString "cut") p1) (.Constant (.int 0) 0 p2) p3) [⟨.Name (Str.ofString "cut") p4, .Subscript (.Name (Str.ofString "cuts") p5) (.Slice (some (.Name (Str.ofString "k") p6)) (some (.Name (Str.ofString "last") p7)) none p8) p9, [], 0⟩] scope p10) (env13 L)) Q E s := by
  have hlen : its.size = cs.length := by rw [← Array.length_toList]; exact Paired.length hP
  subst hsc
  refine comp_list (cl := []) (fun v y => ∃ t, ∀ c, CutIn tups v c → y = .str c.1 t) hh rfl (by decide +kernel) rfl (by decide +kernel) (by decide +kernel) ?_
  unfold env13
  k_steps
  refine Stop.go ?_
  refine slice_list (lo := some (k : Int)) (hi := some (l : Int)) F N (News.isList N hC) (.int _ _) (.int _ _) (fun h' F' N' => ?_) (by with_unfolding_all rfl) (by intro _; with_unfolding_all rfl) hsz
  have hp := slicePick_run its k l (by omega) hkl
  refine ⟨_, _, rfl, News.isList N' (.head _), by rw [hp, sizeLine_eq]; simp; have := hsz; rw [sizeLine_eq] at this; omega, ?_, ?_⟩
  · intro C' i v s₃ m₃ E' hv hn hm hk
    have hv' : v ∈ its.toList := by
      rw [hp] at hv
      have := Array.mem_of_getElem? hv
      simp only [List.mem_toArray] at this
      exact List.mem_of_mem_drop (List.mem_of_mem_take this)
    obtain ⟨c0, a, t1, t2, rfl, hm0⟩ := paired_mem hP hv'
    have ha : s₃.heap.get? a = some (tupO #[.str c0.1 t1, .bool c0.2.1, .int (c0.2.2 : Nat) t2]) := hk _ _ (N' _ (.tail _ (hT _ hm0))).1
    refine Subscript_ ?_
    refine wpAny_Name (wpAny_loadName_local rfl (by rfl) hn hm ?_)
    refine wpAny_Constant_int ?_
    refine item_tupleT (l := [.str c0.1 t1, .bool c0.2.1, .int (c0.2.2 : Nat) t2]) ⟨_, ha, rfl, _, rfl⟩ (by decide) (by decide) rfl rfl ?_
    refine ⟨⟨t1, fun c1 h1 => ?_⟩, _, _, rfl, fun _ _ e => e⟩
    obtain ⟨a1, u1, u2, e, hm1⟩ := h1
    cases e
    have e2 := (N _ (hT _ hm1)).1
    rw [(N _ (hT _ hm0)).1] at e2
    have e3 := congrArg (fun o => match o with | some (⟨_, _, .seq xs _, _⟩ : Obj) => xs.toList | _ => []) e2
    injection e3 with e4 _
    injection e4 with e5 _
    rw [e5]
  · intro D h'' tk ys hD hl1 _ hF hk
    refine go D h'' _ ys (F'.keeps hk) (fun p hp => ⟨hk _ _ (N' p (.tail _ hp)).1, (N' p (.tail _ hp)).2⟩) hl1 ?_
    rw [hp] at hF
    exact cut_strs (paired_take _ (paired_drop _ hP)) hF
end
theorem join_tick_Wk7_2 : True := by
  w_top off
  first | walk1 | exact trivial
section
local macro_rules | `(tactic| walk_at "callWith") => `(tactic| ((with_reducible show wpAny _ _ (callWith _ (Value.builtin _) (_ :: _) (backTo _ (starEach (_ :: _) _)) []) _ _ _); k_dflt (refine callWith_method1 ?_)))
section
local macro_rules | `(tactic| walk_at "eval ListComp") => `(tactic| refine Stop.of ?_)
section
local macro_rules | `(tactic| walk_at "call builtin:str.join") => `(tactic| refine Stop.of ?_)
section
theorem perm3 {g h : Heap} {L : Addr} {x y z : Addr × Obj} {r : List (Addr × Obj)} (N : News g L h (x :: y :: z :: r)) : News g L h (y :: z :: x :: r) := fun p hp => by
  rcases List.mem_cons.mp hp with rfl | hp
  · exact N _ (.tail _ (.head _))
  · rcases List.mem_cons.mp hp with rfl | hp
    · exact N _ (.tail _ (.tail _ (.head _)))
    · rcases List.mem_cons.mp hp with rfl | hp
      · exact N _ (.head _)
      · exact N _ (.tail _ (.tail _ (.tail _ hp)))
theorem sum_le {b : Nat} : ∀ (l : List Nat), (∀ x ∈ l, x ≤ b) → l.sum ≤ b * l.length
  | [], _ => Nat.zero_le _
  | x :: l, h => by
    have h1 := h x (.head _)
    have h2 := sum_le l fun y hy => h y (.tail _ hy)
    rw [List.sum_cons, List.length_cons, Nat.mul_succ]
    omega
theorem join_room {cs : List (Str × Bool × Nat)} {a b : Nat} (h : ∀ c ∈ cs, c.1.length ≤ 100) (hl : cs.length < 102) : (((((cs.drop a).take b).map (·.1)).map (·.length)).sum + (((cs.drop a).take b).map (·.1)).length) ≤ 1048576 := by
  have h1 : ((cs.drop a).take b).length ≤ 102 := by rw [List.length_take, List.length_drop]; omega
  have h2 := sum_le (b := 100) ((((cs.drop a).take b).map (·.1)).map (·.length)) (fun x hx => by
    obtain ⟨y, hy, rfl⟩ := List.mem_map.mp hx
    obtain ⟨z, hz, rfl⟩ := List.mem_map.mp hy
    exact h z (List.mem_of_mem_drop (List.mem_of_mem_take hz)))
  rw [List.length_map, List.length_map] at h2
  rw [List.length_map]
  omega
inductive LastInv (s : Shared) (C W : Addr) (its : Array Value) (c : Nat) (itw : Array Value) (cw : Nat) (tups : List (Addr × Obj)) (cs : List (Str × Bool × Nat)) (ends : Str) (k : Nat) (l₀ : Nat) (n : Nat) (s' : Shared) : Prop
  | mk (h' : Heap) (tk : Nat) (m : Str → Option Value) (f l : Nat) (tl te tk' : Nat) (e0 : s' = { s with heap := h', toks := tk }) (e1 : Fr s.heap s.heap.objs.size h' m) (e2 : News s.heap s.heap.objs.size h' ((C, listOf its c) :: (W, listOf itw cw) :: tups)) (e3 : m "cuts" = some (.ref C)) (e4 : m "words" = some (.ref W)) (e5 : m "k" = some (.int (k : Nat) tk')) (e6 : m "ends" = some (.str ends te)) (e7 : m "last" = some (.int (l : Nat) tl)) (e8 : k ≤ l) (e9 : l ≤ cs.length) (e10 : cs.length < l + f) (e11 : lastF cs ends f l = l₀) (e12 : n = cs.length + 1 - l) : LastInv s C W its c itw cw tups cs ends k l₀ n s'
set_option maxHeartbeats 4000000 in
theorem words_tail {w : World} {A : Around} {s : Shared} {mg mb : Str → Option Value} (G : Gd w mg mb s.heap) (hA : A.depth < 900) (hh : A.handled = none) {h' : Heap} {tk : Nat} {m : Str → Option Value} {its itw : Array Value} {c cw : Nat} {C W : Addr} {tups : List (Addr × Obj)} {cs : List (Str × Bool × Nat)} {k tk' te : Nat} {ends : Str} {Q : Flow → Shared → Prop}
    (F : Fr s.heap s.heap.objs.size h' m) (N : News s.heap s.heap.objs.size h' ((C, listOf its c) :: (W, listOf itw cw) :: tups)) (mc : m "cuts" = some (.ref C)) (mw : m "words" = some (.ref W)) (mk : m "k" = some (.int (k : Nat) tk')) (me : m "ends" = some (.str ends te))
    (hne : ∀ q ∈ tups, q.1 ≠ C) (hneW : ∀ q ∈ tups, q.1 ≠ W) (hCW : C < W) (hP : Paired (CutIn tups) its.toList cs) (hone : ∀ c ∈ cs, c.1.length ≤ 100) (hcl : cs.length < 102) (hk : k ≤ cs.length) (hsz2 : itw.size ≤ sizeLine)
    (go : ∀ h' tk m' tups' D, Fr s.heap s.heap.objs.size h' m' → News s.heap s.heap.objs.size h' ((C, listOf its c) :: (W, listOf (itw.push (.ref D)) (cw + 1)) :: tups') → m' "cuts" = some (.ref C) → m' "words" = some (.ref W) →
      (∃ t', m' "k" = some (.int ((lastF cs ends (cs.length + 1) k + 1 : Nat) : Int) t')) → (∀ q ∈ tups', q.1 ≠ C) → (∀ q ∈ tups', q.1 ≠ W) → (∀ q ∈ tups, q ∈ tups') → WordIn tups' (.ref D) (wordAt cs k (lastF cs ends (cs.length + 1) k)) → Q .next { s with heap := h', toks := tk }) :
    wpAny (model p0 w) (A.deeper (env13 s.heap.objs.size)) (execs tl13 (env13 s.heap.objs.size)) Q (fun _ _ => False) { s with heap := h', toks := tk } := by
  have hh2 : (A.deeper (env13 s.heap.objs.size)).handled = none := hh
  have X := G.K
  have T := G.T
  have hCW := ltN hCW
  have hlen : its.size = cs.length := by rw [← Array.length_toList]; exact Paired.length hP
  have hsz : its.size ≤ sizeLine := by rw [sizeLine_eq]; omega
  unfold env13
  conv => arg 3; arg 1; whnf
  k_steps
  rename_i F' N'
  refine loop_ind (LastInv s C W its c itw cw tups cs ends k (lastF cs ends (cs.length + 1) k)) (fun n => n) ?_ (cs.length + 1 - k) ⟨_, _, _, cs.length + 1, k, _, _, _, rfl, F', N', mc, mw, mk, me, rfl, Nat.le_refl _, hk, by omega, rfl, rfl⟩
  clear F' N' mc mw mk me
  rintro R Q1 hx1 n s' ⟨h', tk, m, f, l, tl, te, tk', rfl, F, N, mc, mw, mk, me, ml, hkl, hl, hf, hlast, rfl⟩ IH
  by_cases hll : l < cs.length
  · obtain ⟨x, hx, a, t1, t2, rfl, hmem⟩ := paired_get hP (i := l) hll
    rw [Array.getElem?_toList] at hx
    rcases hcut : cs.getD l default with ⟨sg, br, bh⟩
    rw [hcut] at hmem
    dsimp only at hmem
    k_steps
    · rename_i hb hcon
      refine LoopIf.of (fun _ => ?_) (fun h => by cases h)
      cases f with
      | zero => omega
      | succ f =>
        have e : lastF cs ends (f + 1) l = lastF cs ends f (l + 1) := by
          have e2 : Txt.contains ends sg = false := by unfold Txt.contains; rw [hcon]; rfl
          rw [lastF, if_pos ⟨hll, by rw [hcut]; dsimp only; rw [e2, Bool.and_false]⟩]
        rw [e] at hlast
        k_steps
        rename_i F' N'
        exact IH (cs.length + 1 - (l + 1)) _ (by omega) ⟨_, _, _, f, l + 1, _, _, _, rfl, F', N', mc, mw, mk, me, rfl, by omega, by omega, by omega, hlast, rfl⟩
    · rename_i hb hcon
      refine LoopIf.of (fun h => by cases h) (fun _ => ?_)
      have e : lastF cs ends f l = l := by
        have e2 : Txt.contains ends sg = true := by unfold Txt.contains; rw [hcon]; rfl
        cases f with
        | zero => rfl
        | succ f => rw [lastF, if_neg (fun h => by have h2 := h.2; rw [hcut] at h2; dsimp only at h2; rw [e2, hb] at h2; cases h2)]
      rw [e] at hlast
      k_steps
      with_reducible refine hx1 .next _ ?_
      k_steps
      refine Stop.go ?_
      with_reducible refine cuts_comp (A := A.deeper (env13 s.heap.objs.size)) (c := c) X T hh2 F N ?c1 ?c2 mc mk ml hP hkl hl hsz ?c3 (fun D h' tk ys F N hl1 hS => ?_)
      case c1 => exact .head _
      case c2 => exact fun q h => .tail _ (.tail _ h)
      case c3 => rfl
      k_steps
      refine Stop.go ?_
      with_reducible refine join_listW hl1 hS ?d1 (join_room hone hcl) (fun t' k' => ?_)
      case d1 => decide
      k_steps
      rename_i l1 _ _ _ F' N'
      refine go _ _ _ _ _ F' (perm3 N') mc mw ?_ (List.forall_mem_cons.mpr ⟨fun e => Nat.ne_of_gt l1.1 e, hne⟩) (List.forall_mem_cons.mpr ⟨fun e => Nat.ne_of_gt l1.2.1 e, hneW⟩) (fun q h => .tail _ h) ?_
      · rw [← hlast]; exact ⟨_, rfl⟩
      · rw [← hlast]
        exact ⟨_, _, _, rfl, .head _, by rw [wordAt]; dsimp only; rw [if_pos hll, hcut]; exact ⟨_, rfl⟩⟩
    · rename_i hb
      refine LoopIf.of (fun _ => ?_) (fun h => by cases h)
      cases f with
      | zero => omega
      | succ f =>
        have e : lastF cs ends (f + 1) l = lastF cs ends f (l + 1) := by
          rw [lastF, if_pos ⟨hll, by rw [hcut]; dsimp only; rw [hb, Bool.false_and]⟩]
        rw [e] at hlast
        k_steps
        rename_i F' N'
        exact IH (cs.length + 1 - (l + 1)) _ (by omega) ⟨_, _, _, f, l + 1, _, _, _, rfl, F', N', mc, mw, mk, me, rfl, by omega, by omega, by omega, hlast, rfl⟩
  · k_steps
    refine LoopIf.of (fun h => by cases h) (fun _ => ?_)
    have e : lastF cs ends f l = l := by
      cases f with
      | zero => rfl
      | succ f => rw [lastF, if_neg (fun h => hll h.1)]
    rw [e] at hlast
    k_steps
    with_reducible refine hx1 .next _ ?_
    k_steps
    refine Stop.go ?_
    with_reducible refine cuts_comp (A := A.deeper (env13 s.heap.objs.size)) (c := c) X T hh2 F N ?c1 ?c2 mc mk ml hP hkl hl hsz ?c3 (fun D h' tk ys F N hl1 hS => ?_)
    case c1 => exact .head _
    case c2 => exact fun q h => .tail _ (.tail _ h)
    case c3 => rfl
    k_steps
    refine Stop.go ?_
    with_reducible refine join_listW hl1 hS ?d1 (join_room hone hcl) (fun t' k' => ?_)
    case d1 => decide
    k_steps
    rename_i l1 _ _ _ F' N'
    refine go _ _ _ _ _ F' (perm3 N') mc mw ?_ (List.forall_mem_cons.mpr ⟨fun e => Nat.ne_of_gt l1.1 e, hne⟩) (List.forall_mem_cons.mpr ⟨fun e => Nat.ne_of_gt l1.2.1 e, hneW⟩) (fun q h => .tail _ h) ?_
    · rw [← hlast]; exact ⟨_, rfl⟩
    · rw [← hlast]
      exact ⟨_, _, _, rfl, .head _, by rw [wordAt]; dsimp only; rw [if_neg hll]⟩
end
end
end
end
end
theorem join_tick_Wk9_0 : True := by
  w_top off
  first | walk1 | exact trivial
section
local macro_rules | `(tactic| walk_at "execs cons") => `(tactic| ((with_reducible show wpAny _ _ (execs (Stmt.Assign [PySem.Expr.Name (Str.ofString "last") _] _ _ :: _) _) _ _ _); refine Stop.of ?_))
section
inductive WrdInv (s : Shared) (p : Str) (C W : Addr) (its : Array Value) (c : Nat) (n : Nat) (s' : Shared) : Prop
  | mk (h' : Heap) (tk : Nat) (m : Str → Option Value) (itw : Array Value) (cw : Nat) (tups : List (Addr × Obj)) (f k : Nat) (ws : List (Str × Option Nat)) (tk' : Nat) (e0 : s' = { s with heap := h', toks := tk }) (e1 : Fr s.heap s.heap.objs.size h' m) (e2 : News s.heap s.heap.objs.size h' ((C, listOf its c) :: (W, listOf itw cw) :: tups)) (e3 : m "cuts" = some (.ref C)) (e4 : m "words" = some (.ref W)) (e5 : m "k" = some (.int (k : Nat) tk')) (e6 : (∀ q ∈ tups, q.1 ≠ C)) (e7 : (∀ q ∈ tups, q.1 ≠ W)) (e8 : C < W) (e9 : Paired (WordIn tups) itw.toList ws) (e10 : Paired (CutIn tups) its.toList (cutsOf p)) (e11 : itw.size ≤ k) (e12 : k ≤ (cutsOf p).length + 1) (e13 : (cutsOf p).length < k + f) (e14 : ws ++ wordsF (cutsOf p) f k = wordsF (cutsOf p) ((cutsOf p).length + 1) 0) (e15 : n = (cutsOf p).length + 1 - k) : WrdInv s p C W its c n s'
theorem cut_one {p : Str} (hp : p.length < 100) : ∀ (f i : Nat), ∀ c ∈ cutsF p f i, c.1.length ≤ 100 := by
  intro f
  induction f with
  | zero => intro i c h; cases h
  | succ f ih =>
    intro i c h
    rw [cutsF] at h
    split at h
    · split at h
      · rcases List.mem_cons.mp h with rfl | h
        · refine Nat.le_trans (?_ : _ ≤ p.length) (by omega)
          unfold Txt.slice
          split
          · exact Nat.le_refl _
          · refine Nat.le_trans (List.length_filterMap_le _ _) ?_
            exact PySem.sliceIndices_le _ _ _
        · exact ih _ c h
      · rcases List.mem_cons.mp h with rfl | h
        · exact Nat.le_trans (Nat.le_refl 1) (by decide)
        · exact ih _ c h
    · cases h
theorem lastF_le {cs : List (Str × Bool × Nat)} {ends : Str} : ∀ (f l : Nat), l ≤ cs.length → l ≤ lastF cs ends f l ∧ lastF cs ends f l ≤ cs.length
  | 0, l, h => ⟨Nat.le_refl _, h⟩
  | f + 1, l, h => by
    rw [lastF]
    split
    · rename_i q
      have := lastF_le (cs := cs) (ends := ends) f (l + 1) q.1
      omega
    · exact ⟨Nat.le_refl _, h⟩
theorem WordIn.more {tups tups' : List (Addr × Obj)} {v : Value} {c : Str × Option Nat} (h : WordIn tups v c) (k : ∀ q ∈ tups, q ∈ tups') : WordIn tups' v c := let ⟨a, t1, b, e, m, x⟩ := h; ⟨a, t1, b, e, k _ m, x⟩
set_option maxHeartbeats 4000000 in
theorem words_go {w : World} {A : Around} {s : Shared} {mg mb : Str → Option Value} (G : Gd w mg mb s.heap) {p : Str} (hp : p.length < 100) (hA : A.depth < 900) (hh : A.handled = none) : WordsGo w A s p := by
  intro h' tk m its c C tups F N mc hne hP hsz0
  have X := G.K
  have T := G.T
  have hsz : its.size ≤ sizeLine := by rw [sizeLine_eq]; omega
  have hlen : its.size = (cutsOf p).length := by rw [← Array.length_toList]; exact Paired.length hP
  have hcl : (cutsOf p).length < 102 := by omega
  have hone : ∀ c ∈ cutsOf p, c.1.length ≤ 100 := cut_one hp _ _
  refine gen_post fun Q' hQ => ?_
  conv => arg 3; arg 1; whnf
  k_steps
  rename_i W _ l1 _ _ _ F' N'
  refine loop_ind (WrdInv s p C W its c) (fun n => n) ?_ ((cutsOf p).length + 1) ⟨_, _, _, _, _, tups, (cutsOf p).length + 1, 0, [], _, rfl, F', perm2 N', mc, rfl, rfl, hne, allLt_ne l1.2, l1.1, .nil, hP, Nat.zero_le _, Nat.zero_le _, by omega, rfl, rfl⟩
  have hCW := l1.1
  clear F' N' hP l1 hne mc
  rintro R Q1 hx1 n s' ⟨h', tk, m, itw, cw, tups, f, k, ws, tk', rfl, F, N, mc, mw, mk, hne, hneW, hCW, hW, hP, hk1, hk2, hf, hws, rfl⟩ IH
  have hsz2 : itw.size ≤ sizeLine := by rw [sizeLine_eq]; omega
  k_steps
  refine LoopIf.of (fun hlt => ?_) (fun hge => ?_)
  · have hlt := of_decide_eq_true hlt
    obtain ⟨x, hx, a, t1, t2, rfl, hmem⟩ := paired_get hP (i := k) (by omega)
    rw [Array.getElem?_toList] at hx
    rcases hcut : (cutsOf p).getD k default with ⟨sg, br, bh⟩
    rw [hcut] at hmem
    dsimp only at hmem
    cases f with
    | zero => omega
    | succ f =>
    have e0 : wordsF (cutsOf p) (f + 1) k = if (br && Txt.contains "\n\t\r " sg) = true then wordsF (cutsOf p) f (k + 1)
       else if (br && sg == "\"") = true then
         wordAt (cutsOf p) (k + 1) (lastF (cutsOf p) "\"" ((cutsOf p).length + 1) (k + 1)) :: wordsF (cutsOf p) f (lastF (cutsOf p) "\"" ((cutsOf p).length + 1) (k + 1) + 1)
       else wordAt (cutsOf p) k (lastF (cutsOf p) "\n\t\r " ((cutsOf p).length + 1) k) :: wordsF (cutsOf p) f (lastF (cutsOf p) "\n\t\r " ((cutsOf p).length + 1) k + 1) := by
      rw [wordsF, if_pos (by omega), hcut]
    k_steps
    · rename_i a1 a2 _ _ _ a3 _ _ _ _ F' N'
      have e : wordsF (cutsOf p) (f + 1) k = wordAt (cutsOf p) (k + 1) (lastF (cutsOf p) "\"" ((cutsOf p).length + 1) (k + 1)) :: wordsF (cutsOf p) f (lastF (cutsOf p) "\"" ((cutsOf p).length + 1) (k + 1) + 1) := by
        have e2 : Txt.contains "\n\t\r " sg = false := by unfold Txt.contains; rw [a2]; rfl
        rw [e0, if_neg (by rw [e2, Bool.and_false]; decide), if_pos (by rw [a1, a3]; rfl)]
      have hb := lastF_le (cs := cutsOf p) (ends := "\"") ((cutsOf p).length + 1) (k + 1) (by omega)
      refine Stop.go (words_tail G hA hh (k := k + 1) (ends := "\"") F' N' mc mw rfl rfl hne hneW hCW hP hone hcl (by omega) hsz2 (fun h' tk m' tups' D F N mc mw mk hne hneW hsub hWd => ?_))
      obtain ⟨t', mk⟩ := mk
      refine wpAny_execs_nil ?_
      exact IH ((cutsOf p).length + 1 - (lastF (cutsOf p) "\"" ((cutsOf p).length + 1) (k + 1) + 1)) _ (by omega) ⟨_, _, _, _, _, tups', f, lastF (cutsOf p) "\"" ((cutsOf p).length + 1) (k + 1) + 1, ws ++ [wordAt (cutsOf p) (k + 1) (lastF (cutsOf p) "\"" ((cutsOf p).length + 1) (k + 1))], _, rfl, F, N, mc, mw, mk, hne, hneW, hCW, by rw [Array.toList_push]; exact Paired.snoc (paired_mono (fun _ _ x => x.more hsub) hW) hWd, paired_mono (fun _ _ x => x.more hsub) hP, by rw [Array.size_push]; omega, by omega, by omega, by rw [List.append_assoc]; rw [e] at hws; exact hws, rfl⟩
    · rename_i a1 a2 _ _ F' N' _ a3
      have e : wordsF (cutsOf p) (f + 1) k = wordAt (cutsOf p) k (lastF (cutsOf p) "\n\t\r " ((cutsOf p).length + 1) k) :: wordsF (cutsOf p) f (lastF (cutsOf p) "\n\t\r " ((cutsOf p).length + 1) k + 1) := by
        have e2 : Txt.contains "\n\t\r " sg = false := by unfold Txt.contains; rw [a2]; rfl
        rw [e0, if_neg (by rw [e2, Bool.and_false]; decide), if_neg (by rw [a3, Bool.and_false]; decide)]
      have hb := lastF_le (cs := cutsOf p) (ends := "\n\t\r ") ((cutsOf p).length + 1) (k) (by omega)
      refine Stop.go (words_tail G hA hh (k := k) (ends := "\n\t\r ") F' N' mc mw mk rfl hne hneW hCW hP hone hcl (by omega) hsz2 (fun h' tk m' tups' D F N mc mw mk hne hneW hsub hWd => ?_))
      obtain ⟨t', mk⟩ := mk
      refine wpAny_execs_nil ?_
      exact IH ((cutsOf p).length + 1 - (lastF (cutsOf p) "\n\t\r " ((cutsOf p).length + 1) (k) + 1)) _ (by omega) ⟨_, _, _, _, _, tups', f, lastF (cutsOf p) "\n\t\r " ((cutsOf p).length + 1) (k) + 1, ws ++ [wordAt (cutsOf p) (k) (lastF (cutsOf p) "\n\t\r " ((cutsOf p).length + 1) (k))], _, rfl, F, N, mc, mw, mk, hne, hneW, hCW, by rw [Array.toList_push]; exact Paired.snoc (paired_mono (fun _ _ x => x.more hsub) hW) hWd, paired_mono (fun _ _ x => x.more hsub) hP, by rw [Array.size_push]; omega, by omega, by omega, by rw [List.append_assoc]; rw [e] at hws; exact hws, rfl⟩
    · rename_i a1 a2 _ _ F' N'
      have e : wordsF (cutsOf p) (f + 1) k = wordsF (cutsOf p) f (k + 1) := by
        have e2 : Txt.contains "\n\t\r " sg = true := by unfold Txt.contains; rw [a2]; rfl
        rw [e0, if_pos (by rw [a1, e2]; rfl)]
      rw [e] at hws
      exact IH ((cutsOf p).length + 1 - (k + 1)) _ (by omega) ⟨_, _, _, _, _, tups, f, k + 1, ws, _, rfl, F', N', mc, mw, rfl, hne, hneW, hCW, hW, hP, by omega, by omega, by omega, hws, rfl⟩
    · have a1 : br = false := by assumption
      rename_i F' N'
      have e : wordsF (cutsOf p) (f + 1) k = wordAt (cutsOf p) k (lastF (cutsOf p) "\n\t\r " ((cutsOf p).length + 1) k) :: wordsF (cutsOf p) f (lastF (cutsOf p) "\n\t\r " ((cutsOf p).length + 1) k + 1) := by
        rw [e0, if_neg (by rw [a1, Bool.false_and]; decide), if_neg (by rw [a1, Bool.false_and]; decide)]
      have hb := lastF_le (cs := cutsOf p) (ends := "\n\t\r ") ((cutsOf p).length + 1) (k) (by omega)
      refine Stop.go (words_tail G hA hh (k := k) (ends := "\n\t\r ") F' N' mc mw mk rfl hne hneW hCW hP hone hcl (by omega) hsz2 (fun h' tk m' tups' D F N mc mw mk hne hneW hsub hWd => ?_))
      obtain ⟨t', mk⟩ := mk
      refine wpAny_execs_nil ?_
      exact IH ((cutsOf p).length + 1 - (lastF (cutsOf p) "\n\t\r " ((cutsOf p).length + 1) (k) + 1)) _ (by omega) ⟨_, _, _, _, _, tups', f, lastF (cutsOf p) "\n\t\r " ((cutsOf p).length + 1) (k) + 1, ws ++ [wordAt (cutsOf p) (k) (lastF (cutsOf p) "\n\t\r " ((cutsOf p).length + 1) (k))], _, rfl, F, N, mc, mw, mk, hne, hneW, hCW, by rw [Array.toList_push]; exact Paired.snoc (paired_mono (fun _ _ x => x.more hsub) hW) hWd, paired_mono (fun _ _ x => x.more hsub) hP, by rw [Array.size_push]; omega, by omega, by omega, by rw [List.append_assoc]; rw [e] at hws; exact hws, rfl⟩
  · have hge := of_decide_eq_false hge
    k_steps
    refine hx1 .next _ ?_
    k_steps
    have e : wordsF (cutsOf p) f k = [] := by
      cases f with
      | zero => rfl
      | succ f => rw [wordsF, if_neg (by omega)]
    rw [e, List.append_nil] at hws
    refine hQ (.ret _) _ ⟨W, itw.toList, rfl, kept_of F.keep, by rw [Array.toArray_toList]; exact News.isList N (.tail _ (.head _)), ?_⟩
    show Paired _ _ (wordsF (cutsOf p) ((cutsOf p).length + 1) 0)
    rw [← hws]
    exact paired_mono (fun v c x => by
      obtain ⟨a, t1, b, e, hm, x⟩ := x
      exact ⟨a, t1, b, e, News.isTup N (.tail _ (.tail _ hm)), x⟩) hW
theorem words_code {w : World} {A : Around} {s : Shared} {mg mb : Str → Option Value} (G : Gd w mg mb s.heap) {p : Str} {t : Nat} (hp : p.length < 100) (hA : A.depth < 900) (hh : A.handled = none) :
    codeAny (model p0 w) A (.call (.ref 157) ⟨[.str p t], []⟩) (WordsPost s p) s := words_cuts G hp hA (words_go G hp hA hh)
end
end
end
end
end
end
end
end
end
end
end
end
end
end
end
theorem join_tick_Wk10_0 : True := by
  w_top off
  first | walk1 | exact trivial
section
/-- the heap without the table that grows, and without others -/
theorem hide_K {P : Params} {h : Heap} {l : List Addr} (X : (Kr P).In h) (hl : (l.all fun a => ((Kr P).lookup a).isNone) = true) : (Kr P).In (hideAll h l) := fun a o e => hideAll_get _ (X a o e) fun q => by
  have := List.all_eq_true.mp hl a q
  rw [e] at this
  cases this
/-- as call_fd, for a def with cells, over any floor that the heap keeps -/
theorem call_fdC {w : World} {A : Around} {s : Shared} {mg mb : Str → Option Value} {R : Result → Shared → Prop} {a : Addr} {o : Obj} {fd : FuncData} {nm : Str} {sc : Scope} {cd : Value} {body : List Stmt} {args : Args} {binds : List (Str × Value)}
    (G : Gd w mg mb s.heap) (hA : A.depth < 900) (ho : (Kr w.params).lookup a = some o) (hdata : o.data = .func fd) (hcd : codeIn (Kr w.params) fd.code fd.qualname = true)
    (hbody : fd.body = .stmts body) (hclo : fd.closure = []) (hsc : fd.scope = sc) (henv : ∀ L, callEnvC fd L a = envOfC nm sc L a cd) (hbind : BindsTo s fd args binds)
    (hkind : (binds.all fun y => sc.names.lookup y.1 == some .local || sc.names.lookup y.1 == some .cell) = true) (hnd : ((cellsFrom 0 sc.names []).map (·.1)).Nodup)
    (h : ∀ h₁ tk cells, Fr s.heap s.heap.objs.size h₁ (bindL (envOfC nm sc s.heap.objs.size a cd).kindOf binds fun _ => none) → (Kr w.params).In s.heap → TopRead q0 loose0 mg mb s.heap → News s.heap s.heap.objs.size h₁ cells →
      CellsAre (bindC (envOfC nm sc s.heap.objs.size a cd).kindOf binds fun _ => none) (cellsFrom (s.heap.objs.size + 1) sc.names []) cells →
      wpAny (model p0 w) (A.deeper (envOfC nm sc s.heap.objs.size a cd)) (execs body (envOfC nm sc s.heap.objs.size a cd))
        (fun f s' => R (.ok (.ret (match f with | .ret v => v | _ => .none))) s') (fun _ _ => False)
        { s with heap := h₁, toks := tk })
    (hco : fd.scope.isCoroutine = false) (hgen : fd.scope.isGenerator = false) (hk : fd.scope.kind = .function) :
    codeAny (model p0 w) A (.call (.ref a) args) R s := by
  subst hsc
  refine codeAny_call_function (Nat.lt_trans hA (by decide)) (G.K _ _ ho) hdata hco hgen hbody (codeRec_of G.K hcd) (hbind _ _ _ _ ?_)
  rw [hclo]
  refine wpAny_newFunctionEnv_cells hk (kindsX hkind _) fun env' he s' x => ?_
  subst he
  refine ⟨G.T.nolimit.keeps x.toInCall.keep, codeAny_func ?_⟩
  obtain ⟨h₁, tk, rfl, _⟩ := x.done
  have hk₁ := x.toInCall.keep
  obtain ⟨cells, NC, Y⟩ := Cl.news (h₀ := s.heap) (Nat.le_refl _) fun n c hm => ⟨x.cell n c (lookup_of_mem_nodup (cellsFrom_names fd.scope.names 0 (s.heap.objs.size + 1) [] [] rfl ▸ hnd) hm), x.above n c hm⟩
  have F : Fr s.heap s.heap.objs.size h₁ _ := ⟨x.toInCall.ns, hk₁, Nat.le_refl _⟩
  have h2 := h h₁ tk cells
  rw [← henv s.heap.objs.size] at h2
  exact wpAny_mono (h2 F G.K G.T NC Y) (fun _ _ x => x) (fun _ _ x => x.elim)
theorem g_builtins (P : Params) : nsIn (Kr P) mainGlobals (Str.ofString "__builtins__") = some (some (.ref 4)) := by kernel_rfl!
theorem hb_Kr {P : Params} {mg mb : Str → Option Value} {g : Heap} (X : (Kr P).In g) (T : TopRead q0 loose0 mg mb g) {h : Heap} (hk : ∀ b o, g.get? b = some o → h.get? b = some o) {Pl : Addr} (h4 : Pl ≠ 4) : h.BuiltinsAt mg Pl :=
  ⟨4, _, mg_of X T.g (g_builtins P), by decide, by decide, fun e => h4 e.symm, hk _ _ (X 4 (PySem.W.boot_o_4 P) (by kernel_rfl!)), by kernel_rfl!, by kernel_rfl!, by kernel_rfl!⟩
end
theorem join_tick_Wk11_0 : True := by
  w_top off
  first | walk1 | exact trivial
section
/-- as fnD, for the data: so the kernel's head form names neither the def nor the program (a twin of the program would be laid for x_run otherwise) -/
noncomputable def fnO (st : Stmt) (name qual : Str) (globals : Addr) (clos : List (Str × Addr)) (dfl kw doc pm : Value) (ann : Option Addr) (code ct : Value) (blt : Addr) : Data := match st with
  | .FunctionDef _ args body _ _ _ sc _ _ _ => .func ⟨name, qual, args, .stmts body, sc, globals, clos, dfl, kw, doc, pm, ann, code, ct, blt⟩
  | _ => .func default
noncomputable def q152x (P : Params) : Obj := ⟨(.type "function"), none, fnO (stm 12) (S [95, 108, 97, 119, 95, 115, 116, 114, 101, 97, 109]) (S [95, 108, 97, 119, 95, 115, 116, 114, 101, 97, 109]) 3 [] .none .none .none (.str (S [108, 97, 119, 95, 114, 101, 48, 49, 52, 52, 95, 48, 49]) 2305) none (.ref 151) .none 0, List.toArray []⟩
noncomputable def Kx (P : Params) : Frag := (nat_lit 0, PySem.W.boot_o_0 P) :: (nat_lit 1, PySem.W.boot_o_1 P) :: (nat_lit 2, PySem.W.boot_o_2 P) :: (nat_lit 3, q3_15 P) :: (nat_lit 4, PySem.W.boot_o_4 P) :: (nat_lit 5, PySem.W.boot_o_5 P) :: (nat_lit 6, PySem.W.boot_o_6 P) :: (nat_lit 7, PySem.W.boot_o_7 P) :: (nat_lit 8, PySem.W.boot_o_8 P) :: (nat_lit 9, PySem.W.boot_o_9 P) :: (nat_lit 10, PySem.W.boot_o_10 P) :: (nat_lit 11, q11_0 P) :: (nat_lit 12, q12_15 P) :: (nat_lit 13, q13_0 P) :: (nat_lit 14, q14_0 P) :: (nat_lit 15, q15_2 P) :: (nat_lit 16, q16_2 P) :: (nat_lit 17, q17_2 P) :: (nat_lit 18, q18_2 P) :: (nat_lit 19, q19_2 P) :: (nat_lit 20, q20_2 P) :: (nat_lit 21, q21_2 P) :: (nat_lit 22, q22_2 P) :: (nat_lit 23, q23_2 P) :: (nat_lit 24, q24_2 P) :: (nat_lit 25, q25_2 P) :: (nat_lit 26, q26_2 P) :: (nat_lit 27, q27_2 P) :: (nat_lit 28, q28_2 P) :: (nat_lit 29, q29_2 P) :: (nat_lit 30, q30_2 P) :: (nat_lit 31, q31_2 P) :: (nat_lit 32, q32_2 P) :: (nat_lit 33, q33_2 P) :: (nat_lit 34, q34_2 P) :: (nat_lit 35, q35_2 P) :: (nat_lit 36, q36_2 P) :: (nat_lit 37, q37_2 P) :: (nat_lit 38, q38_2 P) :: (nat_lit 39, q39_2 P) :: (nat_lit 40, q40_2 P) :: (nat_lit 41, q41_2 P) :: (nat_lit 42, q42_2 P) :: (nat_lit 43, q43_2 P) :: (nat_lit 44, q44_2 P) :: (nat_lit 45, q45_2 P) :: (nat_lit 46, q46_2 P) :: (nat_lit 47, q47_2 P) :: (nat_lit 48, q48_2 P) :: (nat_lit 49, q49_2 P) :: (nat_lit 50, q50_2 P) :: (nat_lit 51, q51_2 P) :: (nat_lit 52, q52_2 P) :: (nat_lit 53, q53_2 P) :: (nat_lit 54, q54_2 P) :: (nat_lit 55, q55_2 P) :: (nat_lit 56, q56_2 P) :: (nat_lit 57, q57_4 P) :: (nat_lit 58, q58_4 P) :: (nat_lit 59, q59_4 P) :: (nat_lit 60, q60_4 P) :: (nat_lit 61, q61_4 P) :: (nat_lit 62, q62_4 P) :: (nat_lit 63, q63_4 P) :: (nat_lit 64, q64_4 P) :: (nat_lit 65, q65_4 P) :: (nat_lit 66, q66_5 P) :: (nat_lit 67, q67_5 P) :: (nat_lit 68, q68_5 P) :: (nat_lit 69, q69_5 P) :: (nat_lit 70, q70_5 P) :: (nat_lit 71, q71_5 P) :: (nat_lit 72, q72_5 P) :: (nat_lit 73, q73_5 P) :: (nat_lit 74, q74_5 P) :: (nat_lit 75, q75_7 P) :: (nat_lit 76, q76_7 P) :: (nat_lit 77, q77_7 P) :: (nat_lit 78, q78_7 P) :: (nat_lit 79, q79_7 P) :: (nat_lit 80, q80_7 P) :: (nat_lit 81, q81_7 P) :: (nat_lit 82, q82_7 P) :: (nat_lit 83, q83_7 P) :: (nat_lit 84, q84_7 P) :: (nat_lit 85, q85_7 P) :: (nat_lit 86, q86_8 P) :: (nat_lit 87, q87_8 P) :: (nat_lit 88, q88_8 P) :: (nat_lit 89, q89_8 P) :: (nat_lit 90, q90_8 P) :: (nat_lit 91, q91_8 P) :: (nat_lit 92, q92_8 P) :: (nat_lit 93, q93_9 P) :: (nat_lit 94, q94_9 P) :: (nat_lit 95, q95_9 P) :: (nat_lit 96, q96_9 P) :: (nat_lit 97, q97_9 P) :: (nat_lit 98, q98_9 P) :: (nat_lit 99, q99_9 P) :: (nat_lit 100, q100_9 P) :: (nat_lit 101, q101_9 P) :: (nat_lit 102, q102_9 P) :: (nat_lit 103, q103_9 P) :: (nat_lit 104, q104_9 P) :: (nat_lit 105, q105_9 P) :: (nat_lit 106, q106_9 P) :: (nat_lit 107, q107_9 P) :: (nat_lit 108, q108_9 P) :: (nat_lit 109, q109_9 P) :: (nat_lit 110, q110_9 P) :: (nat_lit 111, q111_9 P) :: (nat_lit 112, q112_9 P) :: (nat_lit 113, q113_9 P) :: (nat_lit 114, q114_9 P) :: (nat_lit 115, q115_9 P) :: (nat_lit 116, q116_9 P) :: (nat_lit 117, q117_9 P) :: (nat_lit 118, q118_9 P) :: (nat_lit 119, q119_9 P) :: (nat_lit 120, q120_9 P) :: (nat_lit 121, q121_9 P) :: (nat_lit 122, q122_9 P) :: (nat_lit 123, q123_9 P) :: (nat_lit 124, q124_9 P) :: (nat_lit 125, q125_9 P) :: (nat_lit 126, q126_9 P) :: (nat_lit 127, q127_9 P) :: (nat_lit 128, q128_9 P) :: (nat_lit 129, q129_9 P) :: (nat_lit 130, q130_9 P) :: (nat_lit 131, q131_9 P) :: (nat_lit 132, q132_10 P) :: (nat_lit 133, q133_10 P) :: (nat_lit 134, q134_10 P) :: (nat_lit 135, q135_10 P) :: (nat_lit 136, q136_10 P) :: (nat_lit 137, q137_10 P) :: (nat_lit 138, q138_10 P) :: (nat_lit 139, q139_12 P) :: (nat_lit 140, q140_12 P) :: (nat_lit 141, q141_12 P) :: (nat_lit 142, q142_12 P) :: (nat_lit 143, q143_12 P) :: (nat_lit 144, q144_12 P) :: (nat_lit 145, q145_12 P) :: (nat_lit 146, q146_13 P) :: (nat_lit 147, q147_13 P) :: (nat_lit 148, q148_13 P) :: (nat_lit 149, q149_13 P) :: (nat_lit 150, q150_13 P) :: (nat_lit 151, q151_13 P) :: (nat_lit 152, q152x P) :: (nat_lit 153, q153_14 P) :: (nat_lit 154, q154_14 P) :: (nat_lit 155, q155_14 P) :: (nat_lit 156, q156_14 P) :: (nat_lit 157, q157_14 P) :: (nat_lit 158, q158_15 P) :: (nat_lit 159, q159_15 P) :: (nat_lit 160, q160_15 P) :: (nat_lit 161, q161_15 P) :: (nat_lit 162, q162_15 P) :: []
theorem kx_eq (P : Params) : Kx P = Kf P := by kernel_rfl!
theorem fill : PySem.Challenge.rw_re0144_01 = PySem.Challenge.rw_re0144_01 ∧ Kx = Kx := by
  k_fill
  exact ⟨rfl, rfl⟩
noncomputable def rdS : Stmt := ((fBody (stm 12))[2]?).getD default
/-- what stands of read and its stream -/
structure RdFd (fd : FuncData) (ct cy cx : Addr) : Prop where
  body : fd.body = .stmts (fBody rdS)
  scope : fd.scope = fScope rdS
  params : fd.params = fArgs rdS
  clos : fd.closure = [(Str.ofString "text", cx), (Str.ofString "taken", ct), (Str.ofString "ready", cy)]
  glob : fd.globals = mainGlobals
  blt : fd.builtins = builtinsNs
  dfl : fd.defaults = .none
  kdf : fd.kwdefaults = .none
structure StreamAt (h : Heap) (text : Str) (tx : Tok) (st rd dd tk ry ct cy cx : Addr) : Prop where
  st : ∃ fdS, h.get? st = some ⟨.type "function", some dd, .func fdS, #[]⟩
  dd : ∃ hh tkk, h.get? dd = some ⟨.type "dict", none, .dict #[⟨hh, .str "read" tkk, .ref rd⟩] 1, #[]⟩
  rd : ∃ fdR, h.get? rd = some ⟨.type "function", none, .func fdR, #[]⟩ ∧ RdFd fdR ct cy cx ∧ h.CodeRec fdR.code fdR.qualname
  ct : h.get? ct = some ⟨.type "cell", none, .cell (some (.ref tk)), #[]⟩
  cy : h.get? cy = some ⟨.type "cell", none, .cell (some (.ref ry)), #[]⟩
  cx : h.get? cx = some ⟨.type "cell", none, .cell (some (.str text tx)), #[]⟩
inductive StreamPost (s : Shared) (text : Str) (tx : Tok) (v : Value) (s' : Shared) : Prop
  | mk (T st rd dd tk ry ct cy cx : Addr) (t1 t2 : Tok) (e0 : v = .ref T) (e1 : (∃ h' tk', s' = { s with heap := h', toks := tk' })) (e2 : (∀ b o, b ≠ 147 → s.heap.get? b = some o → s'.heap.get? b = some o)) (e3 : IsTup s'.heap T #[.ref st, .ref tk]) (e4 : StreamAt s'.heap text tx st rd dd tk ry ct cy cx) (e5 : s'.heap.get? tk = some (listOf #[.int 0 t1] 0)) (e6 : s'.heap.get? ry = some (listOf #[.str "" t2] 0)) (e7 : (∀ b ∈ [st, rd, dd, tk, ry, ct, cy, cx], s.heap.get? b = none)) (e8 : ([st, rd, dd, tk, ry, ct, cy, cx].Nodup)) (e9 : ∃ vs, s'.heap.get? 147 = some ⟨.none, none, .fields vs, #[]⟩) : StreamPost s text tx v s'
theorem stream_fin {s : Shared} {h : Heap} {news : List (Addr × Obj)} {oP : Obj} {tk' : Nat} {text : Str} {tx t1 t2 tkk : Tok} {hh : Int} {fdS fdR : FuncData} {vs : Array Value} {T st rd dd tk ry ct cy cx c' : Addr}
    (D : PySem.W.X.Mem s.heap h [(147, oP)] news) (e0 : news[0]? = some (T, tupO #[.ref st, .ref tk])) (e1 : news[1]? = some (dd, ⟨.type "dict", none, .dict #[⟨hh, .str "read" tkk, .ref rd⟩] 1, #[]⟩)) (e2 : news[2]? = some (st, ⟨.type "function", some dd, .func fdS, #[]⟩))
    (e9 : news[9]? = some (rd, ⟨.type "function", none, .func fdR, #[]⟩)) (e10 : news[10]? = some (c', ⟨.type "code", none, .fields vs, #[]⟩)) (e17 : news[17]? = some (ry, listOf #[.str "" t2] 0)) (e18 : news[18]? = some (tk, listOf #[.int 0 t1] 0))
    (e19 : news[19]? = some (ct, ⟨.type "cell", none, .cell (some (.ref tk)), #[]⟩)) (e20 : news[20]? = some (cy, ⟨.type "cell", none, .cell (some (.ref ry)), #[]⟩)) (e21 : news[21]? = some (cx, ⟨.type "cell", none, .cell (some (.str text tx)), #[]⟩))
    (hfd : RdFd fdR ct cy cx) (hc : fdR.code = .ref c') {q : Str} {tq : Tok} (hq : vs[1]? = some (.str q tq)) (hq2 : fdR.qualname = q) : StreamPost s text tx (.ref T) { s with heap := h, toks := tk' } := by
  have at' : ∀ {i a o}, news[i]? = some (a, o) → h.get? a = some o ∧ s.heap.get? a = none := fun e => D.nw _ (List.mem_of_getElem? e)
  rw [← hq2] at hq
  have hord := D.ord
  have gt : ∀ {i j a b oa ob}, i < j → news[i]? = some (a, oa) → news[j]? = some (b, ob) → a > b := fun {i j a b oa ob} l ea eb => by
    obtain ⟨hi, ea⟩ := List.getElem?_eq_some_iff.mp ea
    obtain ⟨hj, eb⟩ := List.getElem?_eq_some_iff.mp eb
    have := List.pairwise_iff_getElem.mp hord i j (by simpa using hi) (by simpa using hj) l
    simpa [ea, eb] using this
  refine ⟨T, st, rd, dd, tk, ry, ct, cy, cx, t1, t2, rfl, ⟨_, _, rfl⟩, fun b o n e => D.keep b o e ?_, ⟨_, (at' e0).1, rfl, _, rfl⟩, ⟨⟨_, (at' e2).1⟩, ⟨_, _, (at' e1).1⟩, ⟨_, (at' e9).1, hfd, c', _, vs, tq, hc, (at' e10).1, rfl, hq⟩, (at' e19).1, (at' e20).1, (at' e21).1⟩, (at' e18).1, (at' e17).1, ?_, ?_, ?_⟩
  · rw [Bool.or_eq_true]
    refine .inr ?_
    unfold PySem.W.X.away
    simp only [List.all_cons, List.all_nil, Bool.and_true, Bool.not_eq_true']
    cases q : Nat.beq 147 b with
    | false => rfl
    | true => exact absurd (Nat.eq_of_beq_eq_true q).symm n
  · intro b hb
    simp only [List.mem_cons, List.not_mem_nil, or_false] at hb
    rcases hb with rfl | rfl | rfl | rfl | rfl | rfl | rfl | rfl
    · exact (at' e2).2
    · exact (at' e9).2
    · exact (at' e1).2
    · exact (at' e18).2
    · exact (at' e17).2
    · exact (at' e19).2
    · exact (at' e20).2
    · exact (at' e21).2
  · have a1 := gt (by decide) e1 e2
    have a2 := gt (by decide) e2 e9
    have a3 := gt (by decide) e9 e17
    have a4 := gt (by decide) e17 e18
    have a5 := gt (by decide) e18 e19
    have a6 := gt (by decide) e19 e20
    have a7 := gt (by decide) e20 e21
    replace a1 : @LT.lt Nat _ st dd := a1
    replace a2 : @LT.lt Nat _ rd st := a2
    replace a3 : @LT.lt Nat _ ry rd := a3
    replace a4 : @LT.lt Nat _ tk ry := a4
    replace a5 : @LT.lt Nat _ ct tk := a5
    replace a6 : @LT.lt Nat _ cy ct := a6
    replace a7 : @LT.lt Nat _ cx cy := a7
    simp only [List.nodup_cons, List.mem_cons, List.not_mem_nil, or_false, not_or, List.nodup_nil, and_true, not_false_eq_true]
    refine ⟨⟨?_, ?_, ?_, ?_, ?_, ?_, ?_⟩, ⟨?_, ?_, ?_, ?_, ?_, ?_⟩, ⟨?_, ?_, ?_, ?_, ?_⟩, ⟨?_, ?_, ?_, ?_⟩, ⟨?_, ?_, ?_⟩, ⟨?_, ?_⟩, ?_⟩ <;> first | exact Nat.ne_of_gt (by omega) | exact Nat.ne_of_lt (by omega)
  · obtain ⟨hg, c, ps, more, ht, hv⟩ := D.ch (147, oP) (.head _)
    exact ⟨ps ++ more, by rw [hg]; dsimp only at hv; rw [hv]; rfl⟩
end
theorem join_tick_Wk11_1 : True := by
  w_top off
  first | walk1 | exact trivial
section
local macro_rules | `(tactic| x_close) => `(tactic| ((rename PySem.W.X.Mem _ _ _ _ => D9); exact stream_fin D9 rfl rfl rfl rfl rfl rfl rfl rfl rfl rfl ⟨by kernel_rfl!, by kernel_rfl!, by kernel_rfl!, by kernel_rfl!, by kernel_rfl!, by kernel_rfl!, by kernel_rfl!, by kernel_rfl!⟩ (by kernel_rfl!) rfl (by kernel_rfl!)))
section
set_option maxHeartbeats 4000000 in
theorem stream_call {p : PySem.Program} {w : World} {env : Env} {s : Shared} {text : Str} {t : Nat} {E : Value → Shared → Prop} (K : (Kx w.params).In s.heap) :
    wpAny (model p w) (callerA.deeper env) (call (.ref 152) [.str text t]) (StreamPost s text t) E s := by
  x_run
end
end
theorem join_tick_Wk12_0 : True := by
  w_top off
  first | walk1 | exact trivial
section
noncomputable def q28x (P : Params) : Obj := ⟨(.type "function"), none, fnO (mth 0) (S [95, 95, 105, 110, 105, 116, 95, 95]) (S [95, 110, 101, 116, 114, 99, 108, 101, 120, 46, 95, 95, 105, 110, 105, 116, 95, 95]) 3 [] .none .none .none (.str (S [99, 112, 121, 51, 49, 51, 46, 110, 101, 116, 114, 99]) 187) none (.ref 27) .none 0, List.toArray []⟩
noncomputable def Kz (P : Params) : Frag := (nat_lit 0, PySem.W.boot_o_0 P) :: (nat_lit 1, PySem.W.boot_o_1 P) :: (nat_lit 2, PySem.W.boot_o_2 P) :: (nat_lit 3, q3_15 P) :: (nat_lit 4, PySem.W.boot_o_4 P) :: (nat_lit 5, PySem.W.boot_o_5 P) :: (nat_lit 6, PySem.W.boot_o_6 P) :: (nat_lit 7, PySem.W.boot_o_7 P) :: (nat_lit 8, PySem.W.boot_o_8 P) :: (nat_lit 9, PySem.W.boot_o_9 P) :: (nat_lit 10, PySem.W.boot_o_10 P) :: (nat_lit 11, q11_0 P) :: (nat_lit 12, q12_15 P) :: (nat_lit 13, q13_0 P) :: (nat_lit 14, q14_0 P) :: (nat_lit 15, q15_2 P) :: (nat_lit 16, q16_2 P) :: (nat_lit 17, q17_2 P) :: (nat_lit 18, q18_2 P) :: (nat_lit 19, q19_2 P) :: (nat_lit 20, q20_2 P) :: (nat_lit 21, q21_2 P) :: (nat_lit 22, q22_2 P) :: (nat_lit 23, q23_2 P) :: (nat_lit 24, q24_2 P) :: (nat_lit 25, q25_2 P) :: (nat_lit 26, q26_2 P) :: (nat_lit 27, q27_2 P) :: (nat_lit 28, q28x P) :: (nat_lit 29, q29_2 P) :: (nat_lit 30, q30_2 P) :: (nat_lit 31, q31_2 P) :: (nat_lit 32, q32_2 P) :: (nat_lit 33, q33_2 P) :: (nat_lit 34, q34_2 P) :: (nat_lit 35, q35_2 P) :: (nat_lit 36, q36_2 P) :: (nat_lit 37, q37_2 P) :: (nat_lit 38, q38_2 P) :: (nat_lit 39, q39_2 P) :: (nat_lit 40, q40_2 P) :: (nat_lit 41, q41_2 P) :: (nat_lit 42, q42_2 P) :: (nat_lit 43, q43_2 P) :: (nat_lit 44, q44_2 P) :: (nat_lit 45, q45_2 P) :: (nat_lit 46, q46_2 P) :: (nat_lit 47, q47_2 P) :: (nat_lit 48, q48_2 P) :: (nat_lit 49, q49_2 P) :: (nat_lit 50, q50_2 P) :: (nat_lit 51, q51_2 P) :: (nat_lit 52, q52_2 P) :: (nat_lit 53, q53_2 P) :: (nat_lit 54, q54_2 P) :: (nat_lit 55, q55_2 P) :: (nat_lit 56, q56_2 P) :: (nat_lit 57, q57_4 P) :: (nat_lit 58, q58_4 P) :: (nat_lit 59, q59_4 P) :: (nat_lit 60, q60_4 P) :: (nat_lit 61, q61_4 P) :: (nat_lit 62, q62_4 P) :: (nat_lit 63, q63_4 P) :: (nat_lit 64, q64_4 P) :: (nat_lit 65, q65_4 P) :: (nat_lit 66, q66_5 P) :: (nat_lit 67, q67_5 P) :: (nat_lit 68, q68_5 P) :: (nat_lit 69, q69_5 P) :: (nat_lit 70, q70_5 P) :: (nat_lit 71, q71_5 P) :: (nat_lit 72, q72_5 P) :: (nat_lit 73, q73_5 P) :: (nat_lit 74, q74_5 P) :: (nat_lit 75, q75_7 P) :: (nat_lit 76, q76_7 P) :: (nat_lit 77, q77_7 P) :: (nat_lit 78, q78_7 P) :: (nat_lit 79, q79_7 P) :: (nat_lit 80, q80_7 P) :: (nat_lit 81, q81_7 P) :: (nat_lit 82, q82_7 P) :: (nat_lit 83, q83_7 P) :: (nat_lit 84, q84_7 P) :: (nat_lit 85, q85_7 P) :: (nat_lit 86, q86_8 P) :: (nat_lit 87, q87_8 P) :: (nat_lit 88, q88_8 P) :: (nat_lit 89, q89_8 P) :: (nat_lit 90, q90_8 P) :: (nat_lit 91, q91_8 P) :: (nat_lit 92, q92_8 P) :: (nat_lit 93, q93_9 P) :: (nat_lit 94, q94_9 P) :: (nat_lit 95, q95_9 P) :: (nat_lit 96, q96_9 P) :: (nat_lit 97, q97_9 P) :: (nat_lit 98, q98_9 P) :: (nat_lit 99, q99_9 P) :: (nat_lit 100, q100_9 P) :: (nat_lit 101, q101_9 P) :: (nat_lit 102, q102_9 P) :: (nat_lit 103, q103_9 P) :: (nat_lit 104, q104_9 P) :: (nat_lit 105, q105_9 P) :: (nat_lit 106, q106_9 P) :: (nat_lit 107, q107_9 P) :: (nat_lit 108, q108_9 P) :: (nat_lit 109, q109_9 P) :: (nat_lit 110, q110_9 P) :: (nat_lit 111, q111_9 P) :: (nat_lit 112, q112_9 P) :: (nat_lit 113, q113_9 P) :: (nat_lit 114, q114_9 P) :: (nat_lit 115, q115_9 P) :: (nat_lit 116, q116_9 P) :: (nat_lit 117, q117_9 P) :: (nat_lit 118, q118_9 P) :: (nat_lit 119, q119_9 P) :: (nat_lit 120, q120_9 P) :: (nat_lit 121, q121_9 P) :: (nat_lit 122, q122_9 P) :: (nat_lit 123, q123_9 P) :: (nat_lit 124, q124_9 P) :: (nat_lit 125, q125_9 P) :: (nat_lit 126, q126_9 P) :: (nat_lit 127, q127_9 P) :: (nat_lit 128, q128_9 P) :: (nat_lit 129, q129_9 P) :: (nat_lit 130, q130_9 P) :: (nat_lit 131, q131_9 P) :: (nat_lit 132, q132_10 P) :: (nat_lit 133, q133_10 P) :: (nat_lit 134, q134_10 P) :: (nat_lit 135, q135_10 P) :: (nat_lit 136, q136_10 P) :: (nat_lit 137, q137_10 P) :: (nat_lit 138, q138_10 P) :: (nat_lit 139, q139_12 P) :: (nat_lit 140, q140_12 P) :: (nat_lit 141, q141_12 P) :: (nat_lit 142, q142_12 P) :: (nat_lit 143, q143_12 P) :: (nat_lit 144, q144_12 P) :: (nat_lit 145, q145_12 P) :: (nat_lit 146, q146_13 P) :: (nat_lit 148, q148_13 P) :: (nat_lit 149, q149_13 P) :: (nat_lit 150, q150_13 P) :: (nat_lit 151, q151_13 P) :: (nat_lit 152, q152_13 P) :: (nat_lit 153, q153_14 P) :: (nat_lit 154, q154_14 P) :: (nat_lit 155, q155_14 P) :: (nat_lit 156, q156_14 P) :: (nat_lit 157, q157_14 P) :: (nat_lit 158, q158_15 P) :: (nat_lit 159, q159_15 P) :: (nat_lit 160, q160_15 P) :: (nat_lit 161, q161_15 P) :: (nat_lit 162, q162_15 P) :: []
theorem kz_eq (P : Params) : Kz P = Kr P := by kernel_rfl!
theorem fillz : PySem.Challenge.rw_re0144_01 = PySem.Challenge.rw_re0144_01 ∧ Kz = Kz := by
  k_fill
  exact ⟨rfl, rfl⟩
inductive LexPost (s : Shared) (st : Addr) (v : Value) (s' : Shared) : Prop
  | mk (x dx pb : Addr) (h1 h2 h3 h4 : Int) (k1 k2 k3 k4 t1 tw : Tok) (e0 : v = .ref x) (e1 : Kept s s') (e2 : s'.heap.get? x = some (instObj 52 dx)) (e3 : s'.heap.get? dx = some (PySem.W.dictOf [⟨h1, .str "lineno" k1, .int 1 t1⟩, ⟨h2, .str "instream" k2, .ref st⟩, ⟨h3, .str "whitespace" k3, .str "\n\t\r " tw⟩, ⟨h4, .str "pushback" k4, .ref pb⟩] 4)) (e4 : s'.heap.get? pb = some (listOf #[] 0)) (e5 : s.heap.get? x = none) (e6 : s.heap.get? dx = none) (e7 : s.heap.get? pb = none) (e8 : dx < x) (e9 : x < pb) : LexPost s st v s'
theorem lex_fin {s : Shared} {h : Heap} {news : List (Addr × Obj)} {tk' : Nat} {st x dx pb : Addr} {h1 h2 h3 h4 : Int} {k1 k2 k3 k4 t1 tw : Tok}
    (D : PySem.W.X.Mem s.heap h [] news) (e0 : news[0]? = some (pb, listOf #[] 0)) (e2 : news[2]? = some (x, instObj 52 dx))
    (e3 : news[3]? = some (dx, PySem.W.dictOf [⟨h1, .str "lineno" k1, .int 1 t1⟩, ⟨h2, .str "instream" k2, .ref st⟩, ⟨h3, .str "whitespace" k3, .str "\n\t\r " tw⟩, ⟨h4, .str "pushback" k4, .ref pb⟩] 4)) : LexPost s st (.ref x) { s with heap := h, toks := tk' } := by
  have at' : ∀ {i a o}, news[i]? = some (a, o) → h.get? a = some o ∧ s.heap.get? a = none := fun e => D.nw _ (List.mem_of_getElem? e)
  have hord := D.ord
  have gt : ∀ {i j a b oa ob}, i < j → news[i]? = some (a, oa) → news[j]? = some (b, ob) → a > b := fun {i j a b oa ob} l ea eb => by
    obtain ⟨hi, ea⟩ := List.getElem?_eq_some_iff.mp ea
    obtain ⟨hj, eb⟩ := List.getElem?_eq_some_iff.mp eb
    have := List.pairwise_iff_getElem.mp hord i j (by simpa using hi) (by simpa using hj) l
    simpa [ea, eb] using this
  exact ⟨x, dx, pb, h1, h2, h3, h4, k1, k2, k3, k4, t1, tw, rfl, kept_of fun b o e => D.keep b o e (by simp [PySem.W.X.away]), (at' e2).1, (at' e3).1, (at' e0).1, (at' e2).2, (at' e3).2, (at' e0).2, gt (by decide) e2 e3, gt (by decide) e0 e2⟩
end
theorem join_tick_Wk12_1 : True := by
  w_top off
  first | walk1 | exact trivial
section
local macro_rules | `(tactic| x_close) => `(tactic| ((rename PySem.W.X.Mem _ _ _ _ => D9); exact lex_fin D9 rfl rfl rfl))
section
set_option maxHeartbeats 4000000 in
theorem lex_call {p : PySem.Program} {w : World} {env : Env} {s : Shared} {st : Addr} {E : Value → Shared → Prop} (K : (Kz w.params).In s.heap) :
    wpAny (model p w) (callerA.deeper env) (call (.ref 52) [.ref st]) (LexPost s st) E s := by
  x_run
end
end
theorem join_tick_Wk13_0 : True := by
  w_top off
  first | walk1 | exact trivial
section
theorem ns_hide {h : Heap} {a : Addr} {m : Str → Option Value} (N : h.Ns a m) {l : List Addr} (hl : a ∉ l) : (hideAll h l).Ns a m :=
  let ⟨o, es, ep, e, r⟩ := N; ⟨o, es, ep, hideAll_get _ e hl, r⟩
theorem ne_of_ns {h : Heap} {a b : Addr} {m : Str → Option Value} (N : h.Ns a m) {o : Obj} (hb : h.get? b = some o) (hd : ∀ es ep, o.data ≠ .dict es ep) : a ≠ b := fun e => by
  obtain ⟨o', es, ep, e1, e2, _⟩ := N
  rw [e, hb] at e1
  cases e1
  exact hd _ _ e2
/-- objects that no written thing is -/
noncomputable def Loose (P : Params) (h : Heap) (l : List Addr) : Prop := ∀ a ∈ l, (Kr P).lookup a = none
theorem hide_Kl {P : Params} {h : Heap} {l : List Addr} (X : (Kr P).In h) (hl : ∀ a ∈ l, (Kr P).lookup a = none) : (Kr P).In (hideAll h l) := fun a o e => hideAll_get _ (X a o e) fun q => by
  rw [hl a q] at e
  cases e
theorem lk3 (P : Params) : ((Kr P).lookup 3).isSome = true := by kernel_rfl!
theorem lk0 (P : Params) : ((Kr P).lookup 0).isSome = true := by kernel_rfl!
theorem lks (P : Params) : ((Kr P).lookup cStatics).isSome = true := by kernel_rfl!
theorem not_in {P : Params} {l : List Addr} (hl : ∀ a ∈ l, (Kr P).lookup a = none) {a : Addr} (h : ((Kr P).lookup a).isSome = true) : a ∉ l := fun q => by
  rw [hl a q] at h
  cases h
theorem top_hide {P : Params} {mg mb : Str → Option Value} {h : Heap} {l : List Addr} (T : TopRead q0 loose0 mg mb h) (hl : ∀ a ∈ l, (Kr P).lookup a = none) : TopRead q0 loose0 mg mb (hideAll h l) :=
  ⟨ns_hide T.g (not_in hl (lk3 P)), ns_hide T.b (not_in hl (lk0 P)), let ⟨mc, e, r⟩ := T.nolimit; ⟨mc, ns_hide e (not_in hl (lks P)), r⟩, T.builtins, T.free⟩
end
theorem join_tick_Wk14_0 : True := by
  w_top off
  first | walk1 | exact trivial
section
local macro_rules | `(tactic| k_is) => `(tactic| first | exact g_netrclex _ | exact g_bisect_right _ | exact g_bisect_left _ | exact g_b1_set _ | exact g_in_table_b1 _ | exact g_b3_exceptions _ | exact g_map_table_b3 _ | exact g_law_piece _ | exact g_law_stream _ | exact g_law_words _ | exact g_len _ | exact g_ord _ | exact g_range _ | exact g_chr _ | exact g_list _ | exact g_sum _ | exact g_iter _)
section
local macro_rules | `(tactic| k_steps) => `(tactic| repeat' (first | (walk1; try dsimp only) | (dsimp only; walk1; try dsimp only) | fail "no step"))
section
local macro_rules | `(tactic| walk_at "LoopPost") => `(tactic| dsimp only [LoopPost])
section
local macro_rules | `(tactic| walk_at "exec While") => `(tactic| refine loop_start ?_)
section
local macro_rules | `(tactic| walk_at "ite") => `(tactic| (k_closed; first | refine ite_yes rfl ?_ | refine ite_no rfl ?_))
section
local macro_rules | `(tactic| size_fits) => `(tactic| assumption)
section
local macro_rules | `(tactic| k_all) => `(tactic| assumption)
section
local macro_rules | `(tactic| k_mem) => `(tactic| assumption)
section
theorem kp_92 (P : Params) : keepIn (Kr P) (.ref 92) = true := by kernel_rfl!
theorem kp_138 (P : Params) : keepIn (Kr P) (.ref 138) = true := by kernel_rfl!
end
theorem join_tick_Wk14_1 : True := by
  w_top off
  first | walk1 | exact trivial
section
local macro_rules | `(tactic| k_is) => `(tactic| first | exact kp_92 _ | exact kp_138 _)
section
section
variable {M : Model} {A : Around} {E : Value → Shared → Prop} {s : Shared} {h₀ : Heap} {L a : Addr} {m : Str → Option Value} {cn : Str} {cs : Scope} {ccd : Value} {cl : List (Str × Addr)} {x : Str} {pos : Pos} {v : Value} {Q : Value → Shared → Prop} {c : Addr}
  {oc : Value} {od : Option Addr} {sl : Array (Option Value)}
theorem nameX_FH (F : Fr h₀ L s.heap m) (hc : cl.lookup x = some c) (hv : h₀.get? c = some ⟨oc, od, .cell (some v), sl⟩) (h : Q v s)
    (hk : cs.kind = .function := by rfl) (hx : (envX cn cs L a ccd cl).kindOf x = some .free := by rfl) (hb : (x == ("__debug__" : Str)) = false := by decide) (hn : (x == ("__classdict__" : Str)) = false := by decide) :
    wpAny M A (eval (.Name x pos) (envX cn cs L a ccd cl)) Q E s := wpAny_Name (wpAny_loadName_free hk hx hc ⟨_, F.keep _ _ hv, rfl⟩ h hn) hb
end
end
theorem join_tick_Wk14_2 : True := by
  w_top off
  first | walk1 | exact trivial
section
local macro_rules | `(tactic| walk_at "eval Name") => `(tactic| k_dflt (first
  | (refine' nameX_L ?F ?v ?_ ?a ?b; (case F => k_asm); (case a => rfl); (case b => rfl); (case v => first | assumption | rfl); k_whole)
  | (refine' nameX_FH ?F ?c ?v ?_ ?a ?b; (case F => k_asm); (case a => rfl); (case b => rfl); (case c => rfl); (case v => assumption); k_whole)
  | (refine' nameX_K ?F ?X ?T ?e ?_ ?a ?b; (case F => k_asm); (case X => k_asm); (case T => k_asm); (case a => rfl); (case b => rfl); (case e => first | with_reducible k_is | k_is); k_whole)
  | (refine' nameX_B ?F ?X ?T ?e ?v ?n ?_ ?a ?b; (case F => k_asm); (case X => k_asm); (case T => k_asm); (case a => rfl); (case b => rfl); (case e => first | with_reducible k_is | k_is); (case v => boot_fast); (case n => decide); k_whole)))
section
theorem rd_env {fd : FuncData} {ct cy cx L a : Addr} (R : RdFd fd ct cy cx) : callEnv fd L a = envX fd.qualname (fScope rdS) L a fd.code [(Str.ofString "text", cx), (Str.ofString "taken", ct), (Str.ofString "ready", cy)] := by
  unfold callEnv newEnv
  rw [R.scope, R.clos, R.glob, R.blt]
theorem rd_bind {fd : FuncData} {ct cy cx : Addr} (R : RdFd fd ct cy cx) {s : Shared} {t : Nat} : BindsTo s fd ⟨[.int 1 t], []⟩ [(Str.ofString "size", .int 1 t)] := by
  obtain ⟨n, q, ps, b, sc, g, cl, d, kd, dc, pm, an, cd, ctp, bl⟩ := fd
  obtain ⟨h1, h2, h3, h4, h5, h6, h7, h8⟩ := R
  dsimp only at h1 h2 h3 h4 h5 h6 h7 h8
  subst h1 h2 h3 h4 h5 h6 h7 h8
  exact BindsTo.of_eq (by with_unfolding_all rfl)
section
variable {w : World} {A : Around} {E : Value → Shared → Prop} {s : Shared} {g0 : Heap} {L : Addr} {m mg mb : Str → Option Value} {news : List (Addr × Obj)} {Q : Value → Shared → Prop}
theorem b1_wp (F : Fr g0 L s.heap m) (X : (Kr w.params).In g0) (T : TopRead q0 loose0 mg mb g0) (N : News g0 L s.heap news) (hA : A.depth < 900) {c t : Nat}
    (go : ∀ h' tk', Fr g0 L h' m → News g0 L h' news → (∀ b o, s.heap.get? b = some o → h'.get? b = some o) → Q (.bool (b1s.contains (c : Int))) { s with heap := h', toks := tk' }) :
    wpAny (model p0 w) A (call (.ref 92) [.str (chr1 c) t]) Q E s := by
  refine wpAny_call (codeAny_mono (b1_code ⟨X.keeps F.keep, T.keeps F.keep⟩ hA) fun r s' h => ?_)
  obtain ⟨rfl, h', tk', rfl, hk⟩ := h
  exact go h' tk' (F.keeps hk) (N.keepsAll hk) hk
theorem b3_wp (F : Fr g0 L s.heap m) (X : (Kr w.params).In g0) (T : TopRead q0 loose0 mg mb g0) (N : News g0 L s.heap news) (hA : A.depth < 900) {c t : Nat}
    (go : ∀ h' tk' t', Fr g0 L h' m → News g0 L h' news → (∀ b o, s.heap.get? b = some o → h'.get? b = some o) → Q (.str (b3f c) t') { s with heap := h', toks := tk' }) :
    wpAny (model p0 w) A (call (.ref 138) [.str (chr1 c) t]) Q E s := by
  refine wpAny_call (codeAny_mono (b3_code ⟨X.keeps F.keep, T.keeps F.keep⟩ hA) fun r s' h => ?_)
  obtain ⟨t', rfl, h', tk', rfl, hk⟩ := h
  exact go h' tk' t' (F.keeps hk) (N.keepsAll hk) hk
end
/-- the sign at a place of the drawn text -/
noncomputable def codeAt (text : Str) (n : Nat) : Nat := (Txt.charAt text (n : Int)).getD 0
theorem kv8_len3 : (kv8.all fun p => decide (p.2.length ≤ 4)) = true := by decide +kernel
theorem lookup_mem' {c : Int} {v : Str} : ∀ {l : List KV}, l.lookup c = some v → (c, v) ∈ l
  | (k, u) :: l, h => by
    rw [List.lookup_cons] at h
    cases q : c == k with
    | true => rw [q] at h; obtain rfl := eq_of_beq q; cases h; exact .head _
    | false => rw [q] at h; exact .tail _ (lookup_mem' h)
theorem b3f_len (c : Nat) : (b3f c).length ≤ 1000000 := by
  unfold b3f
  cases h : kv8.lookup (c : Int) with
  | some v => 
    have := of_decide_eq_true (List.all_eq_true.mp kv8_len3 _ (lookup_mem' h))
    show v.length ≤ _
    dsimp only at this
    omega
  | none => exact Nat.le_trans (PyProof.Rows.len_lower _) (Nat.le_of_ble_eq_true rfl)
/-- what the stream does when it is asked for a sign -/
noncomputable def fillF (text : Str) : Nat → Nat → Str → Nat × Str
  | 0, n, r => (n, r)
  | f + 1, n, r => if r == "" && decide (n < text.length) then (if b1s.contains ((codeAt text n : Nat) : Int) then fillF text f (n + 1) r else fillF text f (n + 1) (b3f (codeAt text n))) else (n, r)
end
theorem join_tick_Wk14_3 : True := by
  w_top off
  first | walk1 | exact trivial
section
local macro_rules | `(tactic| walk_at "call ref") => `(tactic| refine Stop.of ?_)
section
theorem item_one {w : World} {A : Around} {E : Value → Shared → Prop} {s : Shared} {h₀ : Heap} {L : Addr} {news : List (Addr × Obj)} {value slice : PySem.Expr} {l : Addr} {v : Value} {c : Nat} {u : Tok} {Q : Value → Shared → Prop} (N : News h₀ L s.heap news) (hm : (l, listOf #[v] c) ∈ news) (h : Q v s)
    (hs : subscripted slice false (.ref l) (.int 0 u) = operate [.ref l, .int 0 u] (getItem (.ref l) (.int 0 u)) := by with_unfolding_all rfl) (hg : ∀ r, letTemporaryGo value (.ref l) r = pure () := by intro _; with_unfolding_all rfl) :
    wpAny (model p0 w) A (subscriptTail value slice (.ref l) (.int 0 u)) Q E s := item_list (News.isList N hm) (by decide) (by decide) rfl h hs hg
end
theorem join_tick_Wk14_4 : True := by
  w_top off
  first | walk1 | exact trivial
section
local macro_rules | `(tactic| walk_at "subscriptTail Name Constant ref int") => `(tactic| k_dflt (refine' item_one ?N ?m ?_ ?a ?b; (case a => with_unfolding_all rfl); (case b => intro _; with_unfolding_all rfl); (case N => k_asm); (case m => k_mem); k_whole))
section
theorem get_one {w : World} {A : Around} {E : Value → Shared → Prop} {s : Shared} {h₀ : Heap} {L : Addr} {news : List (Addr × Obj)} {l : Addr} {v : Value} {c : Nat} {u : Tok} {Q : Value → Shared → Prop} (N : News h₀ L s.heap news) (hm : (l, listOf #[v] c) ∈ news) (h : Q v s) :
    wpAny (model p0 w) A (getItem (.ref l) (.int 0 u)) Q E s := wpAny_getItem_list (News.isList N hm) (by decide) (by decide) rfl h
end
theorem join_tick_Wk14_5 : True := by
  w_top off
  first | walk1 | exact trivial
section
local macro_rules | `(tactic| walk_at "getItem ref int") => `(tactic| k_dflt (refine' get_one ?N ?m ?_; (case N => k_asm); (case m => k_mem); k_whole))
section
local macro_rules | `(tactic| walk_at "subscriptTail Name Subscript str int") => `(tactic| k_dflt (refine item_str (fitsSsize_of (N := 9223372036854775808) (by omega) (by omega) (Int.le_refl _)) (by omega) (by omega) ?_; intro _))
section
inductive RdInv (g0 : Heap) (s : Shared) (L : Addr) (text : Str) (tk ry : Addr) (t : Nat) (res : Nat × Str) (k : Nat) (s' : Shared) : Prop
  | mk (h' : Heap) (tk' : Nat) (m : Str → Option Value) (n c1 c2 t1 t2 f : Nat) (r : Str) (e0 : s' = { s with heap := h', toks := tk' }) (e1 : Fr g0 L h' m) (e2 : News g0 L h' [(tk, listOf #[.int n t1] c1), (ry, listOf #[.str r t2] c2)]) (e3 : m "size" = some (.int 1 t)) (e4 : n ≤ text.length) (e5 : r.length ≤ 1000000) (e6 : text.length < n + f) (e7 : fillF text f n r = res) (e8 : k = text.length + 1 - n) : RdInv g0 s L text tk ry t res k s'
set_option maxHeartbeats 4000000 in
theorem rd_body {w : World} {A : Around} {g0 : Heap} {s : Shared} {L a : Addr} {q : Str} {cd : Value} {m mg mb : Str → Option Value} {Q : Flow → Shared → Prop} {text : Str} {tx : Tok} {tk ry ct cy cx : Addr}
    {n c1 c2 t1 t2 t : Nat} {r : Str} (X : (Kr w.params).In g0) (T : TopRead q0 loose0 mg mb g0) (hct : g0.get? ct = some ⟨.type "cell", none, .cell (some (.ref tk)), #[]⟩) (hcy : g0.get? cy = some ⟨.type "cell", none, .cell (some (.ref ry)), #[]⟩) (hcx : g0.get? cx = some ⟨.type "cell", none, .cell (some (.str text tx)), #[]⟩)
    (F : Fr g0 L s.heap m) (hm : m "size" = some (.int 1 t)) (N : News g0 L s.heap [(tk, listOf #[.int n t1] c1), (ry, listOf #[.str r t2] c2)]) (hne : tk ≠ ry) (hA : A.depth < 900) (hh : A.handled = none) (hn : n ≤ text.length) (hr : r.length ≤ 1000000) (htl : text.length ≤ 1000)
    (go : ∀ h' tk' m' c1' c2' t1' t2' t', Fr g0 L h' m' → News g0 L h' [(tk, listOf #[.int ((fillF text (text.length + 1) n r).1 : Nat) t1'] c1'), (ry, listOf #[.str (Txt.slice (fillF text (text.length + 1) n r).2 (some 1) none) t2'] c2')] →
      Q (.ret (.str (Txt.slice (fillF text (text.length + 1) n r).2 none (some 1)) t')) { s with heap := h', toks := tk' }) :
    wpAny (model p0 w) A (execs (fBody rdS) (envX q (fScope rdS) L a cd [(Str.ofString "text", cx), (Str.ofString "taken", ct), (Str.ofString "ready", cy)])) Q (fun _ _ => False) s := by
  conv => arg 3; arg 1; whnf
  k_steps
  generalize hg : fillF text (text.length + 1) n r = res at go
  refine loop_ind (RdInv g0 s L text tk ry t res) (fun k => k) ?_ (text.length + 1 - n) ⟨_, _, _, n, _, _, _, _, text.length + 1, r, rfl, F, N, hm, hn, hr, by omega, hg, rfl⟩
  clear hn hr F N hm hg
  have hneN : @Ne Nat tk ry := hne
  rintro R Q1 hx1 k s' ⟨h', tk', m, n, c1, c2, t1, t2, f, r, rfl, F, N, hm, hn, hr, hf, hres, rfl⟩ IH
  k_steps
  · rename_i hr0 hlt
    refine LoopIf.of (fun _ => ?_) (fun h => by cases h)
    k_steps
    refine Stop.go (b1_wp (c := codeAt text n) (by assumption) X T (by assumption) hA fun h' tk' F N hk => ?_)
    k_steps
    · rename_i hb
      refine Stop.go (b3_wp (c := codeAt text n) F X T N hA fun h' tk' t' F N hk => ?_)
      k_steps
      rename_i F' N'
      cases f with
      | zero => omega
      | succ f =>
        have e : fillF text (f + 1) n r = fillF text f (n + 1) (b3f (codeAt text n)) := by
          rw [fillF, if_pos (by rw [Bool.and_eq_true]; exact ⟨hr0, decide_eq_true (by omega)⟩), if_neg (by rw [eq_of_beq hb]; decide)]
        exact IH (text.length + 1 - (n + 1)) _ (by omega) ⟨_, _, _, n + 1, _, _, _, _, f, b3f (codeAt text n), rfl, F', N', hm, by omega, b3f_len _, by omega, e ▸ hres, rfl⟩
    · rename_i hb
      cases f with
      | zero => omega
      | succ f =>
        have e : fillF text (f + 1) n r = fillF text f (n + 1) r := by
          rw [fillF, if_pos (by rw [Bool.and_eq_true]; exact ⟨hr0, decide_eq_true (by omega)⟩), if_pos (by cases q : b1s.contains ((codeAt text n : Nat) : Int) with | true => rfl | false => rw [q] at hb; cases hb)]
        exact IH (text.length + 1 - (n + 1)) _ (by omega) ⟨_, _, _, n + 1, _, _, _, _, f, r, rfl, F, N, hm, by omega, hr, by omega, e ▸ hres, rfl⟩
  · rename_i hr0 hlt
    refine LoopIf.of (fun h => by cases h) (fun _ => ?_)
    have e : fillF text f n r = (n, r) := by
      cases f with
      | zero => rfl
      | succ f => rw [fillF, if_neg (by rw [Bool.and_eq_true]; intro q; have := of_decide_eq_true q.2; omega)]
    rw [e] at hres
    subst hres
    k_steps
    refine hx1 .next _ ?_
    k_steps
    apply go
    · assumption
    · assumption
  · rename_i hr0
    refine LoopIf.of (fun h => by cases h) (fun _ => ?_)
    have e : fillF text f n r = (n, r) := by
      cases f with
      | zero => rfl
      | succ f => rw [fillF, if_neg (by rw [Bool.and_eq_true, hr0]; intro q; cases q.1)]
    rw [e] at hres
    subst hres
    k_steps
    refine hx1 .next _ ?_
    k_steps
    apply go
    · assumption
    · assumption
noncomputable def isSeq : Option Obj → Bool
  | some ⟨_, _, .seq _ _, _⟩ => true
  | _ => false
/-- all but these stands as it stood -/
noncomputable def Moved (l : List Addr) (h h' : Heap) : Prop := ∀ b o, b ∉ l → h.get? b = some o → h'.get? b = some o
inductive RdPost (s : Shared) (tk ry : Addr) (res : Nat × Str) (r : Result) (s' : Shared) : Prop
  | mk (h' : Heap) (tk' c1 c2 t1 t2 t' : Nat) (e0 : r = .ok (.ret (.str (Txt.slice res.2 none (some 1)) t'))) (e1 : s' = { s with heap := h', toks := tk' }) (e2 : Moved [tk, ry] s.heap h') (e3 : h'.get? tk = some (listOf #[.int (res.1 : Nat) t1] c1)) (e4 : h'.get? ry = some (listOf #[.str (Txt.slice res.2 (some 1) none) t2] c2)) : RdPost s tk ry res r s'
theorem ne_data {h : Heap} {a b : Addr} {o o' : Obj} (ha : h.get? a = some o) (hb : h.get? b = some o') (hd : o ≠ o') : a ≠ b := fun e => by
  rw [e, hb] at ha
  exact hd (Option.some.inj ha).symm
theorem rd_code {w : World} {A : Around} {s : Shared} {mg mb : Str → Option Value} (G : Gd w mg mb s.heap) {text : Str} {tx : Tok} {st rd dd tk ry ct cy cx : Addr} (SA : StreamAt s.heap text tx st rd dd tk ry ct cy cx)
    {n c1 c2 t1 t2 t : Nat} {r : Str} (htk : s.heap.get? tk = some (listOf #[.int n t1] c1)) (hry : s.heap.get? ry = some (listOf #[.str r t2] c2)) (hl : ∀ a ∈ [tk, ry], (Kr w.params).lookup a = none) (hne : tk ≠ ry)
    (hA : A.depth < 899) (hh : A.handled = none) (hn : n ≤ text.length) (hr : r.length ≤ 1000000) (htl : text.length ≤ 1000) :
    codeAny (model p0 w) A (.call (.ref rd) ⟨[.int 1 t], []⟩) (RdPost s tk ry (fillF text (text.length + 1) n r)) s := by
  obtain ⟨fd, hrd, RF, hcd⟩ := SA.rd
  refine codeAny_call_def (o := ⟨.type "function", none, .func fd, #[]⟩) (Nat.lt_trans hA (by decide)) hrd rfl G.T.nolimit hcd RF.body (rd_bind RF) (by rw [RF.scope]; decide +kernel) (by rw [RF.scope]; exact locs rfl) (fun h₁ hns hk => ?_) (by rw [RF.scope]; kernel_rfl!) (by rw [RF.scope]; kernel_rfl!) (by rw [RF.scope]; kernel_rfl!)
  rw [rd_env RF]
  have off : ∀ {a : Addr} {v : Value}, s.heap.get? a = some ⟨.type "cell", none, .cell (some v), #[]⟩ → (hideAll s.heap [tk, ry]).get? a = some ⟨.type "cell", none, .cell (some v), #[]⟩ := fun {a v} e => hideAll_get _ e fun q => by
    rcases List.mem_cons.mp q with rfl | q
    · rw [htk] at e; exact Bool.noConfusion (show true = false from congrArg isSeq e)
    · rcases List.mem_cons.mp q with rfl | q
      · rw [hry] at e; exact Bool.noConfusion (show true = false from congrArg isSeq e)
      · cases q
  have F : Fr (hideAll s.heap [tk, ry]) s.heap.objs.size h₁ _ := ⟨hns, fun b o e => hk b o (of_hideAll _ e), Nat.le_of_eq (hideAll_size _ _)⟩
  have N : News (hideAll s.heap [tk, ry]) s.heap.objs.size h₁ [(tk, listOf #[.int n t1] c1), (ry, listOf #[.str r t2] c2)] := by
    intro p hp
    rcases List.mem_cons.mp hp with rfl | hp
    · exact ⟨hk _ _ htk, Nat.ne_of_lt (Heap.lt_size htk), hideAll_none _ (.head _)⟩
    · rcases List.mem_cons.mp hp with rfl | hp
      · exact ⟨hk _ _ hry, Nat.ne_of_lt (Heap.lt_size hry), hideAll_none _ (.tail _ (.head _))⟩
      · cases hp
  refine wpAny_mono (E := fun _ _ => False) (rd_body (w := w) (A := A.deeper _) (g0 := hideAll s.heap [tk, ry]) (s := { s with heap := h₁, toks := _ }) (hide_Kl G.K hl) (top_hide G.T hl) (off SA.ct) (off SA.cy) (off SA.cx) F rfl N hne (by show A.depth + 1 < 900; omega) hh hn hr htl (fun h' tk' m' c1' c2' t1' t2' t' F' N' => ?_)) (fun _ _ x => x) (fun _ _ x => x.elim)
  exact ⟨h', tk', c1', c2', t1', t2', t', rfl, rfl, fun b o nb e => F'.keep b o (hideAll_get _ e nb), (N' _ (.head _)).1, (N' _ (.tail _ (.head _))).1⟩
end
end
end
end
end
end
end
theorem join_tick_Wk15_0 : True := by
  w_top off
  first | walk1 | exact trivial
section
theorem fn_ga : typeLookup (.type "function") "__getattribute__" = pure (some (.builtin "object.__getattribute__")) := by rw [typeLookup_type, builtinLookup_eq_fast]; kernel_rfl
theorem fn_no : typeLookup (.type "function") "__getattr__" = pure none := by rw [typeLookup_type, builtinLookup_eq_fast]; kernel_rfl
theorem fn_read : typeLookup (.type "function") "read" = pure none := by rw [typeLookup_type, builtinLookup_eq_fast]; kernel_rfl
noncomputable def IsRef (s : Shared) (a : Addr) (v : Value) (s' : Shared) : Prop := v = .ref a ∧ Kept s s'
theorem ref_fin {s : Shared} {h : Heap} {tk' : Nat} {a : Addr} (D : PySem.W.X.Mem s.heap h [] []) : IsRef s a (.ref a) { s with heap := h, toks := tk' } := ⟨rfl, kept_of fun b o e => D.keep b o e (by simp [PySem.W.X.away])⟩
end
theorem join_tick_Wk15_1 : True := by
  w_top off
  first | walk1 | exact trivial
section
local macro_rules | `(tactic| x_close) => `(tactic| ((rename PySem.W.X.Mem _ _ _ _ => D9); exact ref_fin D9))
section
local macro_rules | `(tactic| x_close) => `(tactic| exact ref_fin (PySem.W.X.Mem.start _))
section
theorem read_attr {w : World} {A : Around} {s : Shared} {st dd rd : Addr} {fdS : FuncData} {hh : Int} {tkk t : Tok} {E : Value → Shared → Prop} (K : (Kz w.params).In s.heap)
    (hst : s.heap.get? st = some ⟨.type "function", some dd, .func fdS, #[]⟩) (hdd : s.heap.get? dd = some ⟨.type "dict", none, .dict #[⟨hh, .str "read" tkk, .ref rd⟩] 1, #[]⟩) :
    wpAny (model p0 w) A (call (.builtin "object.__getattribute__") [.ref st, .str "read" t]) (IsRef s rd) E s := by
  x_run
  trace_state
theorem getMethod_read {w : World} {A : Around} {s : Shared} {st dd rd : Addr} {fdS : FuncData} {hh : Int} {tkk : Tok} {E : Value → Shared → Prop} {pl : Sem Bool} {Q : Value × List Value → Shared → Prop} (K : (Kr w.params).In s.heap)
    (hst : s.heap.get? st = some ⟨.type "function", some dd, .func fdS, #[]⟩) (hdd : s.heap.get? dd = some ⟨.type "dict", none, .dict #[⟨hh, .str "read" tkk, .ref rd⟩] 1, #[]⟩)
    (h : ∀ h' tk', (∀ b o, s.heap.get? b = some o → h'.get? b = some o) → Q (.ref rd, []) { s with heap := h', toks := tk' }) :
    wpAny (model p0 w) A (getMethod (.ref st) "read" pl) Q E s := by
  have hT : s.TypeIs (.ref st) "function" := ⟨_, hst, rfl⟩
  have K' : (Kz w.params).In s.heap := by rw [kz_eq]; exact K
  unfold getMethod
  refine wpAny_bind (wpAny_specialOf hT fn_ga ?_)
  dsimp only
  show wpAny _ A (if (Manifest.canonical "object.__getattribute__" != "object.__getattribute__") = true then _ else _) Q E s
  rw [if_neg (by decide +kernel)]
  refine wpAny_bind (wpAny_specialOf hT fn_no ?_)
  refine wpAny_bind (wpAny_specialOf hT fn_read ?_)
  dsimp only
  refine wpAny_bind ?_
  unfold getAttr
  refine wpAny_bind (wpAny_mkText ?_)
  unfold getAttrBy
  refine wpAny_holding ?_
  refine wpAny_bind (wpAny_typeOf (T := "function") ⟨_, hst, rfl⟩ ?_)
  refine wpAny_bind (wpAny_of_eq fn_ga ?_)
  show wpAny _ A (getAttrByItsOwn (.ref st) (.str "read" _) (.type "function") (.builtin "object.__getattribute__") true false) _ E _
  unfold getAttrByItsOwn
  refine wpAny_bind (m := hookBefore (.type "function")) (wpAny_pure ?_)
  refine wpAny_bind (wpAny_attempt (wpAny_holding ?_))
  show wpAny _ A (boundAndCalled (.builtin "object.__getattribute__") (.ref st) (.str "read" _)) _ _ _
  unfold boundAndCalled
  refine wpAny_bind (wpAny_of_eq (F.slot_str_getattribute.bind _) ?_)
  refine wpAny_mono (read_attr (s := { s with toks := s.toks + 1 }) K' hst hdd) (fun v s' hv => ?_) (fun _ _ x => x)
  obtain ⟨rfl, h', tk', rfl, hk⟩ := hv
  exact wpAny_pure (wpAny_pure (h h' tk' hk))
end
end
end
theorem join_tick_Wk16_0 : True := by
  w_top off
  first | walk1 | exact trivial
section
theorem hd52 (P : Params) : hasDictIn (Kr P) 52 = true := by kernel_rfl!
theorem ng0 (P : Params) : noGet (Kr P) none = true := by kernel_rfl!
theorem pg_in (P : Params) : plainGet (Kr P) 52 (Str.ofString "instream") = true := by kernel_rfl!
theorem pg_ln (P : Params) : plainGet (Kr P) 52 (Str.ofString "lineno") = true := by kernel_rfl!
theorem pg_ws (P : Params) : plainGet (Kr P) 52 (Str.ofString "whitespace") = true := by kernel_rfl!
theorem pg_pb (P : Params) : plainGet (Kr P) 52 (Str.ofString "pushback") = true := by kernel_rfl!
theorem pg_rc (P : Params) : plainGet (Kr P) 52 (Str.ofString "_read_char") = true := by kernel_rfl!
theorem pg_gt (P : Params) : plainGet (Kr P) 52 (Str.ofString "get_token") = true := by kernel_rfl!
theorem pg_pt (P : Params) : plainGet (Kr P) 52 (Str.ofString "push_token") = true := by kernel_rfl!
theorem fi_in (P : Params) : findIn (Kr P) (.ref 52) (Str.ofString "instream") = some none := by kernel_rfl!
theorem fi_ln (P : Params) : findIn (Kr P) (.ref 52) (Str.ofString "lineno") = some none := by kernel_rfl!
theorem fi_ws (P : Params) : findIn (Kr P) (.ref 52) (Str.ofString "whitespace") = some none := by kernel_rfl!
theorem fi_pb (P : Params) : findIn (Kr P) (.ref 52) (Str.ofString "pushback") = some none := by kernel_rfl!
theorem fi_rc (P : Params) : findIn (Kr P) (.ref 52) (Str.ofString "_read_char") = some (some (.ref 35)) := by kernel_rfl!
theorem fi_gt (P : Params) : findIn (Kr P) (.ref 52) (Str.ofString "get_token") = some (some (.ref 42)) := by kernel_rfl!
theorem fi_pt (P : Params) : findIn (Kr P) (.ref 52) (Str.ofString "push_token") = some (some (.ref 49)) := by kernel_rfl!
theorem fn35 (P : Params) : isFn (Kr P) (.ref 35) = true := by kernel_rfl!
theorem fn42 (P : Params) : isFn (Kr P) (.ref 42) = true := by kernel_rfl!
theorem fn49 (P : Params) : isFn (Kr P) (.ref 49) = true := by kernel_rfl!
theorem sa52 (P : Params) : findIn (Kr P) (.ref 52) (Str.ofString "__setattr__") = some (some (.builtin "object.__setattr__")) := by kernel_rfl!
theorem po52 (P : Params) : plainOver (Kr P) 52 = true := by kernel_rfl!
theorem ti_ln (P : Params) : takerIn (Kr P) 52 (Str.ofString "lineno") = some none := by kernel_rfl!
theorem kp_35 (P : Params) : keepIn (Kr P) (.ref 35) = true := by kernel_rfl!
theorem kp_42 (P : Params) : keepIn (Kr P) (.ref 42) = true := by kernel_rfl!
theorem kp_49 (P : Params) : keepIn (Kr P) (.ref 49) = true := by kernel_rfl!
end
theorem join_tick_Wk16_1 : True := by
  w_top off
  first | walk1 | exact trivial
section
local macro_rules | `(tactic| k_is) => `(tactic| first | exact hd52 _ | exact ng0 _ | exact pg_in _ | exact pg_ln _ | exact pg_ws _ | exact pg_pb _ | exact pg_rc _ | exact pg_gt _ | exact pg_pt _ | exact fi_in _ | exact fi_ln _ | exact fi_ws _ | exact fi_pb _ | exact fi_rc _ | exact fi_gt _ | exact fi_pt _ | exact fn35 _ | exact fn42 _ | exact fn49 _ | exact sa52 _ | exact po52 _ | exact ti_ln _ | exact kp_35 _ | exact kp_42 _ | exact kp_49 _)
section
local macro_rules | `(tactic| walk_at "eval Name") => `(tactic| k_dflt (first
  | (refine' nameX_L ?F ?v ?_ ?a ?b; (case F => k_asm); (case a => rfl); (case b => rfl); (case v => first | assumption | rfl); k_whole)
  | (refine' nameX_K ?F ?X ?T ?e ?_ ?a ?b; (case F => k_asm); (case X => k_asm); (case T => k_asm); (case a => rfl); (case b => rfl); (case e => first | with_reducible k_is | k_is); k_whole)
  | (refine' nameX_B ?F ?X ?T ?e ?v ?n ?_ ?a ?b; (case F => k_asm); (case X => k_asm); (case T => k_asm); (case a => rfl); (case b => rfl); (case e => first | with_reducible k_is | k_is); (case v => boot_fast); (case n => decide); k_whole)))
section
/-- entry of a def of the text, over a floor without these objects -/
theorem call_fdH {w : World} {A : Around} {s : Shared} {mg mb : Str → Option Value} {R : Result → Shared → Prop} {a : Addr} {o : Obj} {fd : FuncData} {nm : Str} {sc : Scope} {cd : Value} {body : List Stmt} {args : Args} {binds : List (Str × Value)} (l : List Addr) (news : List (Addr × Obj))
    (G : Gd w mg mb s.heap) (hl : ∀ a ∈ l, (Kr w.params).lookup a = none) (hnews : ∀ p ∈ news, s.heap.get? p.1 = some p.2 ∧ p.1 ∈ l) (hA : A.depth < 900) (ho : (Kr w.params).lookup a = some o) (hdata : o.data = .func fd) (hcd : codeIn (Kr w.params) fd.code fd.qualname = true)
    (hbody : fd.body = .stmts body) (henv : ∀ L, callEnv fd L a = envOf nm sc L a cd) (hbind : BindsTo s fd args binds)
    (hcell : (fd.scope.names.all fun x => x.2 != .cell) = true) (hloc : (binds.all fun x => decide (fd.scope.names.lookup x.1 = some .local)) = true)
    (h : ∀ h₁, Fr (hideAll s.heap l) s.heap.objs.size h₁ (fun x => binds.reverse.lookup x) → (Kr w.params).In (hideAll s.heap l) → TopRead q0 loose0 mg mb (hideAll s.heap l) → News (hideAll s.heap l) s.heap.objs.size h₁ news → (∀ b o, s.heap.get? b = some o → h₁.get? b = some o) →
      wpAny (model p0 w) (A.deeper (envOf nm sc s.heap.objs.size a cd)) (execs body (envOf nm sc s.heap.objs.size a cd))
        (fun f s' => R (.ok (.ret (match f with | .ret v => v | _ => .none))) s') (fun _ _ => False)
        { s with heap := h₁, toks := s.toks + binds.length })
    (hco : fd.scope.isCoroutine = false) (hgen : fd.scope.isGenerator = false) (hk : fd.scope.kind = .function) :
    codeAny (model p0 w) A (.call (.ref a) args) R s :=
  call_fd G hA ho hdata hcd hbody henv hbind hcell hloc (fun h₁ F _ _ _ => h h₁ ⟨F.ns, fun b o e => F.keep b o (of_hideAll _ e), Nat.le_of_eq (hideAll_size _ _)⟩ (hide_Kl G.K hl) (top_hide G.T hl)
    (fun p hp => ⟨F.keep _ _ (hnews p hp).1, Nat.ne_of_lt (Heap.lt_size (hnews p hp).1), hideAll_none _ (hnews p hp).2⟩) F.keep) hco hgen hk
theorem fr_moved {g h h' : Heap} {L : Addr} {m : Str → Option Value} {l : List Addr} (F : Fr g L h m) (M : Moved l h h') (hl : ∀ a ∈ l, g.get? a = none) (hL : L ∉ l) : Fr g L h' m :=
  let ⟨o, es, ep, e, r⟩ := F.ns
  ⟨⟨o, es, ep, M _ _ hL e, r⟩, fun b o e => M b o (fun q => by rw [hl b q] at e; cases e) (F.keep b o e), F.above⟩
theorem news_moved {g h h' : Heap} {L : Addr} {news : List (Addr × Obj)} {l : List Addr} (N : News g L h news) (M : Moved l h h') (hl : ∀ p ∈ news, p.1 ∉ l) : News g L h' news :=
  fun p hp => ⟨M _ _ (hl p hp) (N p hp).1, (N p hp).2⟩
theorem StreamAt.keeps {h h' : Heap} {text : Str} {tx : Tok} {st rd dd tk ry ct cy cx : Addr} (S : StreamAt h text tx st rd dd tk ry ct cy cx) (k : ∀ b o, h.get? b = some o → h'.get? b = some o) : StreamAt h' text tx st rd dd tk ry ct cy cx :=
  ⟨let ⟨a, e⟩ := S.st; ⟨a, k _ _ e⟩, let ⟨a, b, e⟩ := S.dd; ⟨a, b, k _ _ e⟩, let ⟨f, e, r, c⟩ := S.rd; ⟨f, k _ _ e, r, c.keeps k⟩, k _ _ S.ct, k _ _ S.cy, k _ _ S.cx⟩
/-- what kind of thing stands there: lists, plain instances and dicts of several entries move -/
noncomputable def moves : Option Obj → Bool
  | some ⟨_, _, .seq _ _, _⟩ => true
  | some ⟨_, _, .plain, _⟩ => true
  | some ⟨_, _, .dict es _, _⟩ => decide (es.size = 4)
  | _ => false
theorem StreamAt.hide {h : Heap} {text : Str} {tx : Tok} {st rd dd tk ry ct cy cx : Addr} (S : StreamAt h text tx st rd dd tk ry ct cy cx) {l : List Addr} (hl : ∀ a ∈ l, moves (h.get? a) = true) : StreamAt (hideAll h l) text tx st rd dd tk ry ct cy cx := by
  have k : ∀ b o, h.get? b = some o → moves (some o) = false → (hideAll h l).get? b = some o := fun b o e q => hideAll_get _ e fun m => by
    have := hl b m
    rw [e, q] at this
    cases this
  obtain ⟨⟨a, e1⟩, ⟨b, c, e2⟩, ⟨f, e3, r, c', o, vs, t, q1, q2, q3, q4⟩, e4, e5, e6⟩ := S
  refine ⟨⟨a, k _ _ e1 rfl⟩, ⟨b, c, k _ _ e2 rfl⟩, ⟨f, k _ _ e3 rfl, r, c', o, vs, t, q1, k _ _ q2 ?_, q3, q4⟩, k _ _ e4 rfl, k _ _ e5 rfl, k _ _ e6 rfl⟩
  obtain ⟨oc, od, dt, sl⟩ := o
  dsimp only at q3
  rw [q3]
  rfl
noncomputable abbrev lexD (st pb : Addr) (ln : Nat) (h1 h2 h3 h4 : Int) (k1 k2 k3 k4 t1 tw : Tok) : Obj := PySem.W.dictOf [⟨h1, .str "lineno" k1, .int (ln : Nat) t1⟩, ⟨h2, .str "instream" k2, .ref st⟩, ⟨h3, .str "whitespace" k3, .str "\n\t\r " tw⟩, ⟨h4, .str "pushback" k4, .ref pb⟩] 4
end
theorem join_tick_Wk17_0 : True := by
  w_top off
  first | walk1 | exact trivial
section
/-- where the stream and the lexer stand -/
structure Ad where
  text : Str
  tx : Tok
  st : Addr
  rd : Addr
  dd : Addr
  tk : Addr
  ry : Addr
  ct : Addr
  cy : Addr
  cx : Addr
  x : Addr
  dx : Addr
  pb : Addr
/-- the stream and the lexer in the midst of their work -/
structure LexSt (P : Params) (h : Heap) (a : Ad) (ln n : Nat) (r : Str) (pbs : Array Value) : Prop where
  sa : StreamAt h a.text a.tx a.st a.rd a.dd a.tk a.ry a.ct a.cy a.cx
  x : h.get? a.x = some (PySem.W.instObj 52 a.dx)
  dx : ∃ h1 h2 h3 h4 k1 k2 k3 k4 t1 tw, h.get? a.dx = some (lexD a.st a.pb ln h1 h2 h3 h4 k1 k2 k3 k4 t1 tw)
  tk : ∃ t c, h.get? a.tk = some (PySem.W.listOf #[.int n t] c)
  ry : ∃ t c, h.get? a.ry = some (PySem.W.listOf #[.str r t] c)
  pb : ∃ c, h.get? a.pb = some (PySem.W.listOf pbs c)
  off : ∀ b ∈ [a.x, a.dx, a.tk, a.ry, a.pb], (Kr P).lookup b = none
  nd : [a.x, a.dx, a.tk, a.ry, a.pb].Nodup
/-- a sign is asked: what comes, how many drawn signs are taken, what is in hand -/
noncomputable def rdF (text : Str) (n : Nat) (r : Str) : Str × Nat × Str :=
  (Txt.slice (fillF text (text.length + 1) n r).2 none (some 1), (fillF text (text.length + 1) n r).1, Txt.slice (fillF text (text.length + 1) n r).2 (some 1) none)
noncomputable def lnF (ln : Nat) (ch : Str) : Nat := if ch == "\n" then ln + 1 else ln
inductive RcPost (P : Params) (s : Shared) (a : Ad) (ln n : Nat) (r : Str) (pbs : Array Value) (res : Result) (s' : Shared) : Prop
  | mk (h' : Heap) (tk' t' : Nat) (e0 : res = .ok (.ret (.str (rdF a.text n r).1 t'))) (e1 : s' = { s with heap := h', toks := tk' }) (e2 : Moved [a.tk, a.ry, a.dx] s.heap h') (e3 : LexSt P h' a (lnF ln (rdF a.text n r).1) (rdF a.text n r).2.1 (rdF a.text n r).2.2 pbs) : RcPost P s a ln n r pbs res s'
end
theorem join_tick_Wk17_1 : True := by
  w_top off
  first | walk1 | exact trivial
section
local macro_rules | `(tactic| walk_at "callWith ref") => `(tactic| refine Stop.of ?_)
section
local macro_rules | `(tactic| walk_at "And") => `(tactic| refine Stop.of ?_)
section
local macro_rules | `(tactic| walk_at "getAttr ref") => `(tactic| k_dflt (refine' get_own ?k1 ?k2 ?k3 ?k4 ?k5 ?k6 ?k7 ?k8 ?k9 ?_; (case k1 => k_asm); (case k2 => k_asm); (case k3 => k_inst); (case k4 => first | with_reducible k_is | k_is); (case k5 => first | with_reducible k_is | k_is); (case k6 => first | with_reducible k_is | k_is); (case k7 => first | with_reducible k_is | k_is); (case k8 => k_get); (case k9 => k_handed); k_whole))
section
local macro_rules | `(tactic| walk_at "getMethod ref") => `(tactic| refine Stop.of ?_)
section
set_option maxHeartbeats 4000000 in
theorem rc_code {w : World} {A : Around} {s : Shared} {mg mb : Str → Option Value} (G : Gd w mg mb s.heap) {a : Ad} {ln n : Nat} {r : Str} {pbs : Array Value} (Z : LexSt w.params s.heap a ln n r pbs)
    (hA : A.depth < 898) (hh : A.handled = none) (hn : n ≤ a.text.length) (hr : r.length ≤ 1000000) (htl : a.text.length ≤ 1000) :
    codeAny (model p0 w) A (.call (.ref 35) ⟨[.ref a.x], []⟩) (RcPost w.params s a ln n r pbs) s := by
  obtain ⟨text, tx, st, rd, dd, kA, rA, ct, cy, cx, x, dx, pb⟩ := a
  obtain ⟨sa, hx, ⟨h1, h2, h3, h4, k1, k2, k3, k4, t1, tw, hdx⟩, ⟨t2, c2, htk⟩, ⟨t3, c3, hry⟩, ⟨c4, hpb⟩, off, nd⟩ := Z
  dsimp only at sa hx hdx htk hry hpb off nd hn htl ⊢
  obtain ⟨⟨n1, n2, n3, n4⟩, ⟨n5, n6, n7⟩, ⟨n8, n9⟩, n10⟩ := nd5_ne nd
  have n1N : @Ne Nat x dx := n1
  have n1N' : @Ne Nat dx x := fun e => n1 e.symm
  refine call_fdH [x, dx, kA, rA] [(dx, lexD st pb ln h1 h2 h3 h4 k1 k2 k3 k4 t1 tw), (x, PySem.W.instObj 52 dx)] (o := q35_2 w.params) (nm := S [95, 110, 101, 116, 114, 99, 108, 101, 120, 46, 95, 114, 101, 97, 100, 95, 99, 104, 97, 114]) (sc := fScope (mth 1)) (cd := .ref 34) (body := fBody (mth 1)) (binds := [("self", .ref x)])
    G (fun b hb => off b (sub45 b hb)) ?_ (Nat.lt_trans hA (by decide)) (by kernel_rfl!) rfl (by kernel_rfl!) (by kernel_rfl!) (fun L => by kernel_rfl!) (BindsTo.of_eq (by with_unfolding_all rfl)) (by decide +kernel) (by kernel_rfl!) ?_ (by kernel_rfl!) (by kernel_rfl!) (by kernel_rfl!)
  · refine fcons ?_ (fcons ?_ fun _ h => nomatch h)
    · exact ⟨hdx, .tail _ (.head _)⟩
    · exact ⟨hx, .head _⟩
  intro h₀ F X T N hk
  conv => arg 3; arg 1; whnf
  k_steps
  have sa0 : StreamAt (hideAll s.heap [x, dx, kA, rA]) text tx st rd dd kA rA ct cy cx := sa.hide (l := [x, dx, kA, rA]) (all4 (by rw [hx]; rfl) (by rw [hdx]; rfl) (by rw [htk]; rfl) (by rw [hry]; rfl))
  have htk0 := hk _ _ htk
  have hry0 := hk _ _ hry
  clear hk
  have sa1 := sa0.keeps F.keep
  obtain ⟨fdS, est⟩ := sa1.st
  obtain ⟨hhd, tkd, edd⟩ := sa1.dd
  refine Stop.go (getMethod_read (X.keeps F.keep) est edd fun h' kA' hk => ?_)
  have htk1 := hk _ _ htk0
  have hry1 := hk _ _ hry0
  have F := F.keeps hk
  have N := N.keepsAll hk
  clear hk htk0 hry0 sa1 est edd
  k_steps
  have sa1 := sa0.keeps F.keep
  obtain ⟨fdR, erd, _⟩ := sa1.rd
  refine Stop.go (callWith_F ⟨_, _, _, _, erd⟩ ?_)
  k_steps
  refine Stop.go ⟨⟨_, _, _, _, erd⟩, ?_⟩
  refine wpAny_call (codeAny_mono (rd_code ⟨X.keeps F.keep, T.keeps F.keep⟩ sa1 htk1 hry1 (fun b hb => off b (sub25 b hb)) n8 (by show A.depth + 1 < 899; omega) hh hn hr htl) fun r s' h => ?_)
  clear sa1 erd htk1 hry1
  obtain ⟨h', tk', c5, c6, t5, t6, t7, rfl, rfl, M, htk1, hry1⟩ := h
  have F := fr_moved F M (fun b hb => hideAll_none _ (sub24 b hb)) (non2 (Nat.ne_of_lt (Heap.lt_size htk)).symm (Nat.ne_of_lt (Heap.lt_size hry)).symm)
  have N := news_moved N M (all2 (non2 n5 n6) (non2 n2 n3))
  have eL : ∀ b o, s.heap.get? b = some o → b ≠ s.heap.objs.size := fun b o e => Nat.ne_of_lt (Heap.lt_size e)
  have N : News (hideAll s.heap [x, dx, kA, rA]) s.heap.objs.size h' [(dx, lexD st pb ln h1 h2 h3 h4 k1 k2 k3 k4 t1 tw), (x, PySem.W.instObj 52 dx), (kA, _), (rA, _)] := fcons (N _ (.head _)) (fcons (N _ (.tail _ (.head _))) (fcons ⟨htk1, eL _ _ htk, hideAll_none _ (.tail _ (.tail _ (.head _)))⟩ (fcons ⟨hry1, eL _ _ hry, hideAll_none _ (.tail _ (.tail _ (.tail _ (.head _))))⟩ fun _ h => nomatch h)))
  have n5N : @Ne Nat kA dx := fun e => n5 e.symm
  have n6N : @Ne Nat rA dx := fun e => n6 e.symm
  clear M
  have fin : ∀ {h2 : Heap} {m2 : Str → Option Value} {h1 h2' h3 h4 : Int} {k1 k2 k3 k4 t1 tw t7 tk' : Nat} {ln' : Nat}, Fr (hideAll s.heap [x, dx, kA, rA]) s.heap.objs.size h2 m2 →
      News (hideAll s.heap [x, dx, kA, rA]) s.heap.objs.size h2 [(dx, lexD st pb ln' h1 h2' h3 h4 k1 k2 k3 k4 t1 tw), (x, PySem.W.instObj 52 dx), (kA, PySem.W.listOf #[.int ((fillF text (text.length + 1) n r).1 : Nat) t5] c5), (rA, PySem.W.listOf #[.str (Txt.slice (fillF text (text.length + 1) n r).2 (some 1) none) t6] c6)] →
      ln' = lnF ln (Txt.slice (fillF text (text.length + 1) n r).2 none (some 1)) →
      RcPost w.params s ⟨text, tx, st, rd, dd, kA, rA, ct, cy, cx, x, dx, pb⟩ ln n r pbs (.ok (.ret (.str (Txt.slice (fillF text (text.length + 1) n r).2 none (some 1)) t7))) { s with heap := h2, toks := tk' } := by
    intro h2 m2 h1 h2' h3 h4 k1 k2 k3 k4 t1 tw t7 tk' ln' F N e
    subst e
    refine ⟨h2, tk', t7, rfl, rfl, fun b o nb e => ?_, ⟨sa0.keeps F.keep, (N _ (.tail _ (.head _))).1, ⟨_, _, _, _, _, _, _, _, _, _, (N _ (.head _)).1⟩, ⟨_, _, (N _ (.tail _ (.tail _ (.head _)))).1⟩, ⟨_, _, (N _ (.tail _ (.tail _ (.tail _ (.head _))))).1⟩, ⟨c4, F.keep _ _ (hideAll_get _ hpb ?_)⟩, off, nd⟩⟩
    · by_cases q : b = x
      · rw [q] at e ⊢
        rw [(N _ (.tail _ (.head _))).1, ← e, hx]
      · refine F.keep b o (hideAll_get _ e fun m => nb ?_)
        exact sub43 b m q
    · exact non4 n4.symm n7.symm n9.symm n10.symm
  k_steps
  · apply fin
    · assumption
    · assumption
    · unfold lnF
      rw [if_pos (by assumption)]
  · have q : (Txt.slice (fillF text (text.length + 1) n r).2 none (some 1) == "\n") = false := by assumption
    apply fin
    · assumption
    · assumption
    · unfold lnF
      rw [if_neg (by rw [q]; decide)]
end
end
end
end
end
end
end
theorem join_tick_Wk18_0 : True := by
  w_top off
  first | walk1 | exact trivial
section
theorem slot_ci_next : Slot "callable_iterator" "__next__" "callable_iterator.__next__" :=
  .of (owner := "callable_iterator") (n := "__next__") (by rw [typeLookup_type, builtinLookup_eq_fast]; kernel_rfl) (by decide +kernel) (by decide +kernel) (by decide +kernel)
    (by first | exact .inl (by decide +kernel) | exact .inr (by decide +kernel)) (by rw [isSubtype_type]; kernel_rfl)
theorem entry_ci_next : entryFor table "callable_iterator.__next__" = some Builtin.«callable_iterator.__next__» := entryFor_of_tree (by kernel_rfl)
theorem args_ci_next (a : Value) : argsOk "callable_iterator.__next__" ⟨[a], []⟩ := by
  unfold argsOk; kernel_rfl
theorem slot_ci_iter : Slot "callable_iterator" "__iter__" "callable_iterator.__iter__" :=
  .of (owner := "callable_iterator") (n := "__iter__") (by rw [typeLookup_type, builtinLookup_eq_fast]; kernel_rfl) (by decide +kernel) (by decide +kernel) (by decide +kernel)
    (by first | exact .inl (by decide +kernel) | exact .inr (by decide +kernel)) (by rw [isSubtype_type]; kernel_rfl)
/-- the callable iterator -/
noncomputable abbrev ciObj (f snt : Value) (b : Bool) : Obj := { cls := .type "callable_iterator", data := .fields #[f, snt, .bool b] }
inductive ItPost (s : Shared) (q : Addr) (t : Tok) (v : Value) (s' : Shared) : Prop
  | mk (it : Addr) (h' : Heap) (tk' : Nat) (e0 : v = .ref it) (e1 : s' = { s with heap := h', toks := tk' }) (e2 : h'.get? it = some (ciObj (.ref q) (.str "" t) false)) (e3 : s.heap.get? it = none) (e4 : ∀ b o, s.heap.get? b = some o → h'.get? b = some o) : ItPost s q t v s'
theorem it_fin {s : Shared} {h : Heap} {tk' : Nat} {it q : Addr} {t : Tok} (D : PySem.W.X.Mem s.heap h [] [(it, ciObj (.ref q) (.str "" t) false)]) : ItPost s q t (.ref it) { s with heap := h, toks := tk' } :=
  ⟨it, h, tk', rfl, rfl, (D.nw _ (.head _)).1, (D.nw _ (.head _)).2, fun b o e => D.keep b o e (by simp [PySem.W.X.away])⟩
section
local macro_rules | `(tactic| x_close) => `(tactic| ((rename PySem.W.X.Mem _ _ _ _ => D9); exact it_fin D9))
theorem iter_call {w : World} {A : Around} {s : Shared} {q x : Addr} {t : Tok} {E : Value → Shared → Prop} (K : (Kz w.params).In s.heap)
    (hq : s.heap.get? q = some ⟨.type "method", none, .fields #[.ref 35, .ref x], #[]⟩) :
    wpAny (model p0 w) A (call (.builtin "iter") [.ref q, .str "" t]) (ItPost s q t) E s := by
  x_run
end
section
local macro_rules | `(tactic| x_close) => `(tactic| exact ref_fin (PySem.W.X.Mem.start _))
theorem ci_iter {w : World} {A : Around} {s : Shared} {it : Addr} {f snt : Value} {b : Bool} {E : Value → Shared → Prop}
    (hq : s.heap.get? it = some ⟨.type "callable_iterator", none, .fields #[f, snt, .bool b], #[]⟩) :
    wpAny (model p0 w) A (call (.builtin "callable_iterator.__iter__") [.ref it]) (IsRef s it) E s := by
  x_run
end
theorem pyIter_ci {w : World} {A : Around} {s : Shared} {it : Addr} {f snt : Value} {b : Bool} {E : Value → Shared → Prop} {Q : Value → Shared → Prop}
    (hq : s.heap.get? it = some (ciObj f snt b)) (h : ∀ h' tk', (∀ b o, s.heap.get? b = some o → h'.get? b = some o) → Q (.ref it) { s with heap := h', toks := tk' }) : wpAny (model p0 w) A (pyIter (.ref it)) Q E s := by
  refine wpAny_pyIter_slot (T := "callable_iterator") ⟨_, hq, rfl⟩ slot_ci_iter (wpAny_mono (ci_iter hq) (fun v s' hv => ?_) fun _ _ x => x)
  obtain ⟨rfl, h', tk', rfl, hk⟩ := hv
  exact ⟨"callable_iterator", _, ⟨_, hk _ _ hq, rfl⟩, slot_ci_next.lookup, h h' tk' hk⟩
theorem borrows {w : World} {A : Around} {s : Shared} {q x f : Addr} {E : Value → Shared → Prop} {Q : Bool → Shared → Prop} {fd : FuncData} {oc : Value} {od : Option Addr} {sl : Array (Option Value)}
    (hq : s.heap.get? q = some ⟨.type "method", none, .fields #[.ref f, .ref x], #[]⟩) (hf : s.heap.get? f = some ⟨oc, od, .func fd, sl⟩) (h : Q true s) : wpAny (model p0 w) A (borrowsExactly (.ref q)) Q E s := by
  unfold borrowsExactly
  refine wpAny_bind (wpAny_load hq ?_)
  show wpAny _ _ (do
      match (← load f).data with
      | .func _ => pure true
      | _ => pure false) _ _ _
  exact wpAny_bind (wpAny_load hf (wpAny_pure h))
/-- StopIteration raised -/
theorem stop_wp {α : Type} {w : World} {A : Around} {s : Shared} {E : Value → Shared → Prop} {Q : α → Shared → Prop} (hh : A.handled = none)
    (h : ∀ h' e, (∀ b o, s.heap.get? b = some o → h'.get? b = some o) → (∃ o, h'.get? e = some o ∧ o.cls = .type "StopIteration") → E (.ref e) { s with heap := h' }) :
    wpAny (model p0 w) A (Builtin.SmallTypes.stopIteration : Sem α) Q E s := by
  show wpAny _ _ (newExc (.type "StopIteration") [] >>= _) _ _ _
  refine wpAny_bind ?_
  simp only [newExc, newTuple]
  refine wpAny_bind (wpAny_newObj_type ?_ (by show _ ≤ _; exact Nat.le_of_ble_eq_true rfl))
  refine wpAny_bind (m := firstArgMember _ _) (wpAny_of_eq (a := Value.none) (by first | rfl | (simp only [firstArgMember]; rfl)) ?_)
  refine wpAny_newObj_type ?_ (by show _ ≤ _; exact Nat.le_of_ble_eq_true rfl)
  simp only [raiseNew]
  refine wpAny_bind (wpAny_handled ?_)
  rw [hh]
  refine wpAny_bind (wpAny_pure (wpAny_throw ?_))
  exact h _ _ (fun b o e => Heap.get?_push_of_some _ (Heap.get?_push_of_some _ e)) ⟨_, Heap.get?_push_size _ rfl, rfl⟩
/-- one more from the iterator: what the call must bring -/
theorem pyNext_ci {w : World} {A : Around} {s : Shared} {it q x f : Addr} {t : Tok} {E : Value → Shared → Prop} {Q : Option Value → Shared → Prop} {fd : FuncData} {oc : Value} {od : Option Addr} {sl : Array (Option Value)} (hh : A.handled = none)
    (hit : s.heap.get? it = some (ciObj (.ref q) (.str "" t) false)) (hq : s.heap.get? q = some ⟨.type "method", none, .fields #[.ref f, .ref x], #[]⟩) (hf : s.heap.get? f = some ⟨oc, od, .func fd, sl⟩)
    (hcall : codeAny (model p0 w) (A.in1.mark none) (.call (.ref f) ⟨[.ref x], []⟩) (fun r s' => ∃ (ch : Str) (u tk' : Nat) (h' : Heap), r = .ok (.ret (.str ch u)) ∧ s' = { s with heap := h', toks := tk' } ∧
      h'.get? it = some (ciObj (.ref q) (.str "" t) false) ∧ h'.get? q = some ⟨.type "method", none, .fields #[.ref f, .ref x], #[]⟩ ∧ h'.get? f = some ⟨oc, od, .func fd, sl⟩ ∧
      (ch ≠ "" → Q (some (.str ch u)) { s with heap := h', toks := tk' }) ∧
      (ch = "" → ∀ h'', h''.get? it = some (ciObj .none .none true) → (∀ b o, b ≠ it → h'.get? b = some o → h''.get? b = some o) → Q none { s with heap := h'', toks := tk' })) s) :
    wpAny (model p0 w) A (pyNext (.ref it)) Q E s := by
  unfold pyNext
  refine wpAny_bind (wpAny_attempt (wpAny_callSpecial?_slot (name := Str.ofString "__next__") (T := "callable_iterator") ⟨_, hit, rfl⟩ slot_ci_next
    (wpAny_call_entry slot_ci_next ⟨_, hit, rfl⟩ entry_ci_next ?_ (args_ci_next _))))
  show wpAny _ _ (field (.ref it) 2 >>= _) _ _ s
  refine wpAny_bind (wpAny_field hit rfl (x := .bool false) rfl ?_)
  rw [if_neg (show ¬ ((Value.bool false == Value.bool true) = true) from by decide)]
  show wpAny _ _ (field (.ref it) 0 >>= _) _ _ s
  refine wpAny_bind (wpAny_field hit rfl (x := .ref q) rfl ?_)
  refine wpAny_bind (wpAny_attempt ?_)
  show wpAny _ _ (borrowsExactly (.ref q) >>= _) _ _ s
  refine wpAny_bind (borrows hq hf ?_)
  show wpAny _ _ (callBorrowed (.ref q) []) _ _ s
  unfold callBorrowed
  refine PySem.W.X.y_start _ _ _ _ _ _ s _ none false [borrowed] _ (by intro e; cases e) (method_call hq (codeAny_mono hcall fun r s' h => ?_))
  obtain ⟨ch, u, tk', h', rfl, rfl, hit1, hq1, hf1, hgo, hend⟩ := h
  show wpAny _ _ (Sem.pure (Value.str ch u)) _ _ _
  refine wpAny_pure ?_
  dsimp only
  refine wpAny_bind (wpAny_field hit1 rfl (x := .bool false) rfl ?_)
  rw [if_neg (show ¬ ((Value.bool false == Value.bool true) = true) from by decide)]
  show wpAny _ _ (field (.ref it) 1 >>= _) _ _ _
  refine wpAny_bind (wpAny_field hit1 rfl (x := .str "" t) rfl ?_)
  refine wpAny_bind (wpAny_holding (PyProof.Rows.eqBool_str ?_))
  by_cases hc : ch = ""
  · subst hc
    rw [if_neg (by decide)]
    show wpAny _ _ (rule _ >>= _) _ _ _
    refine wpAny_bind (wpAny_rule ?_)
    show wpAny _ _ ((field (.ref it) 0 >>= _) >>= _) _ _ _
    refine wpAny_bind (wpAny_bind (wpAny_field hit1 rfl (x := .ref q) rfl ?_))
    unfold slotLetsGo
    refine wpAny_bind ?_
    show wpAny _ _ (borrowsExactly (.ref q) >>= _) _ _ _
    refine wpAny_bind (borrows hq1 hf1 ?_)
    rw [if_pos rfl]
    refine wpAny_pure ?_
    refine wpAny_bind (wpAny_setField_rec hit1 (Nat.lt_of_lt_of_le (Nat.lt_succ_self _) (Nat.le_of_ble_eq_true rfl)) fun h1 e1 s1 => ?_)
    refine wpAny_bind (wpAny_setField_rec e1 (Nat.lt_of_lt_of_le (Nat.lt_succ_self _) (Nat.le_of_ble_eq_true rfl)) fun h2 e2 s2 => ?_)
    refine wpAny_setField_rec e2 (Nat.lt_of_lt_of_le (Nat.lt_succ_self _) (Nat.le_of_ble_eq_true rfl)) fun h3 e3 s3 => ?_
    refine stop_wp hh fun h4 e hk he => ?_
    refine wpAny_bind (wpAny_isInstance (T := "StopIteration") (b := true) he isSubtype_stop ?_)
    rw [if_pos rfl]
    refine wpAny_pure (hend rfl h4 (hk _ _ e3) fun b o nb eb => hk _ _ ?_)
    exact (s3.2 b nb).trans ((s2.2 b nb).trans ((s1.2 b nb).trans eb))
  · rw [if_pos (by rw [Bool.not_eq_true']; exact beq_false_of_ne (fun e => hc e.symm))]
    exact wpAny_pure ⟨_, rfl, wpAny_pure (hgo hc)⟩
/-- the iterator at its end -/
theorem pyNext_ci_end {w : World} {A : Around} {s : Shared} {it : Addr} {E : Value → Shared → Prop} {Q : Option Value → Shared → Prop} (hh : A.handled = none)
    (hit : s.heap.get? it = some (ciObj .none .none true)) (hend : ∀ h'', (∀ b o, s.heap.get? b = some o → h''.get? b = some o) → Q none { s with heap := h'' }) :
    wpAny (model p0 w) A (pyNext (.ref it)) Q E s := by
  unfold pyNext
  refine wpAny_bind (wpAny_attempt (wpAny_callSpecial?_slot (name := Str.ofString "__next__") (T := "callable_iterator") ⟨_, hit, rfl⟩ slot_ci_next
    (wpAny_call_entry slot_ci_next ⟨_, hit, rfl⟩ entry_ci_next ?_ (args_ci_next _))))
  show wpAny _ _ (field (.ref it) 2 >>= _) _ _ s
  refine wpAny_bind (wpAny_field hit rfl (x := .bool true) rfl ?_)
  rw [if_pos (by decide)]
  show wpAny _ _ (rule _ >>= _) _ _ _
  refine wpAny_bind (wpAny_rule (wpAny_bind ?_))
  refine stop_wp hh fun h4 e hk he => ?_
  refine wpAny_bind (wpAny_isInstance (T := "StopIteration") (b := true) he isSubtype_stop ?_)
  rw [if_pos rfl]
  exact wpAny_pure (hend h4 hk)
end
section
/-- a text's signs -/
noncomputable abbrev ls (x : Str) : List Nat := x.cps.toList
theorem slice_eq (x : Str) (l u : Option Int) : Txt.slice x l u = StrLaws.sliceText x l u := by
  unfold Txt.slice StrLaws.sliceText
  rfl
theorem str_nil {r : Str} (h : r.cps.toList = []) : r = "" := by
  obtain ⟨⟨l⟩⟩ := r
  simp only at h
  subst h
  rfl
theorem slice_head (r : Str) : ls (Txt.slice r none (some 1)) = (ls r).take 1 := by
  rw [slice_eq]
  by_cases h : 1 ≤ r.cps.toList.length
  · rw [StrLaws.sliceText_to ⟨by decide, by omega⟩]
    simp
  · have : r.cps.toList = [] := List.eq_nil_of_length_eq_zero (by omega)
    rw [str_nil this]
    decide
theorem slice_tail (r : Str) : ls (Txt.slice r (some 1) none) = (ls r).drop 1 := by
  rw [slice_eq]
  by_cases h : 1 ≤ r.cps.toList.length
  · rw [StrLaws.sliceText_from ⟨by decide, by omega⟩]
    simp only [ls]
    rw [List.take_of_length_le (by simp)]
    rfl
  · have : r.cps.toList = [] := List.eq_nil_of_length_eq_zero (by omega)
    rw [str_nil this]
    decide
theorem len_ls (x : Str) : x.length = (ls x).length := (Array.length_toList).symm
theorem head_le (r : Str) : (Txt.slice r none (some 1)).length ≤ 1 := by
  rw [len_ls, slice_head, List.length_take]; omega
theorem fillF_ok (text : Str) : ∀ (f n : Nat) (r : Str), n ≤ text.length → r.length ≤ 1000000 → (fillF text f n r).1 ≤ text.length ∧ (fillF text f n r).2.length ≤ 1000000
  | 0, n, r, h1, h2 => ⟨h1, h2⟩
  | f + 1, n, r, h1, h2 => by
    rw [fillF]
    split
    · rename_i q
      rw [Bool.and_eq_true] at q
      have q2 := of_decide_eq_true q.2
      split
      · exact fillF_ok text f (n + 1) r (by omega) h2
      · exact fillF_ok text f (n + 1) _ (by omega) (b3f_len _)
    · exact ⟨h1, h2⟩
theorem rdF_ok {text : Str} {n : Nat} {r : Str} (h1 : n ≤ text.length) (h2 : r.length ≤ 1000000) : (rdF text n r).1.length ≤ 1 ∧ (rdF text n r).2.1 ≤ text.length ∧ (rdF text n r).2.2.length ≤ 1000000 := by
  obtain ⟨a, b⟩ := fillF_ok text (text.length + 1) n r h1 h2
  exact ⟨head_le _, a, Nat.le_trans (Txt.slice_le _ _ _) b⟩
end
theorem join_tick_Wk19_0 : True := by
  w_top off
  first | walk1 | exact trivial
section
section
variable {w : World} {A : Around} {s : Shared} {env : Env} {target : PySem.Expr} {it : Value} {body : List Stmt} {Q : Flow → Shared → Prop}
/-- what is left of a for loop -/
noncomputable def ForRest (w : World) (A : Around) (env : Env) (target : PySem.Expr) (it : Value) (body : List Stmt) (Q : Flow → Shared → Prop) (s : Shared) : Prop :=
  codeAny (model p0 w) A (.forLoop target it body [] env) (fun r s' => match r with | .ok f => Q f s' | .error e => cameBackBy (model p0 w) A env (fun _ _ => False) e s') s
noncomputable def ForPost (w : World) (A : Around) (env : Env) (target : PySem.Expr) (it : Value) (body : List Stmt) (Q : Flow → Shared → Prop) (f : Flow) (s : Shared) : Prop :=
  match f with
  | .next => ForRest w A env target it body Q s
  | .cont => ForRest w A env target it body Q s
  | .brk => Q .next s
  | .ret v => Q (.ret v) s
theorem for_start {iter : PySem.Expr} {pos : Pos} (h : wpAny (model p0 w) A (eval iter env) (fun x s₁ => wpAny (model p0 w) A (pyIter x) (fun it s₂ => ForRest w A env target it body Q s₂) (fun _ _ => False) s₁) (fun _ _ => False) s)
    (hs : ∀ x, foldedSetIterable iter env x = pure x := by intro _; rfl) : wpAny (model p0 w) A (exec (.For target iter body [] pos) env) Q (fun _ _ => False) s := wpAny_For h hs
theorem for_turn (h : wpAny (model p0 w) A (pyNext it) (fun r s₁ => match r with
      | none => Q .next s₁
      | some v => wpAny (model p0 w) A (letOwnedTupleGo target it v) (fun _ s₂ => wpAny (model p0 w) A (assign target env v) (fun _ s₃ => wpAny (model p0 w) A (execs body env) (ForPost w A env target it body Q) (fun _ _ => False) s₃) (fun _ _ => False) s₂) (fun _ _ => False) s₁) (fun _ _ => False) s) :
    ForRest w A env target it body Q s := by
  refine codeAny_of_tree ?_
  show wpAny _ A ((forTurn target it body [] env).onRaise (fun x => do noteFrame x env; theTreesLotGoes x)) _ _ s
  refine wpAny_noted ?_
  simp only [forTurn]
  refine wpAny_bind (wpAny_standAt (wpAny_bind (wpAny_onRaise (wpAny_mono h (fun r s₁ h₁ => ?_) fun _ _ x => x.elim))))
  cases r with
  | none => exact wpAny_pure ⟨rfl, codeAny_block (wpAny_execs_nil h₁)⟩
  | some v =>
    refine wpAny_bind (wpAny_mono h₁ (fun _ s₂ h₂ => ?_) fun _ _ x => x.elim)
    refine wpAny_bind (wpAny_mono h₂ (fun _ s₃ h₃ => ?_) fun _ _ x => x.elim)
    refine wpAny_bind (wpAny_mono h₃ (fun f s₄ h₄ => ?_) fun _ _ x => x.elim)
    cases f with
    | next => exact wpAny_pure ⟨rfl, h₄⟩
    | cont => exact wpAny_pure ⟨rfl, h₄⟩
    | brk => exact wpAny_pure h₄
    | ret v => exact wpAny_pure h₄
end
/-- tokens, hashes: what no one asks of the moving objects -/
structure Hid where
  h1 : Int
  h2 : Int
  h3 : Int
  h4 : Int
  k1 : Tok
  k2 : Tok
  k3 : Tok
  k4 : Tok
  t1 : Tok
  tw : Tok
  t2 : Tok
  c2 : Nat
  t3 : Tok
  c3 : Nat
  c4 : Nat
noncomputable abbrev Ad.mov (a : Ad) : List Addr := [a.x, a.dx, a.tk, a.ry, a.pb]
/-- the moving objects as a ledger -/
noncomputable abbrev lexNews (a : Ad) (ln n : Nat) (r : Str) (pbs : Array Value) (d : Hid) : List (Addr × Obj) :=
  [(a.dx, lexD a.st a.pb ln d.h1 d.h2 d.h3 d.h4 d.k1 d.k2 d.k3 d.k4 d.t1 d.tw), (a.x, PySem.W.instObj 52 a.dx), (a.tk, PySem.W.listOf #[.int n d.t2] d.c2), (a.ry, PySem.W.listOf #[.str r d.t3] d.c3), (a.pb, PySem.W.listOf pbs d.c4)]
/-- what stands still -/
structure Still (P : Params) (g : Heap) (a : Ad) : Prop where
  sa : StreamAt g a.text a.tx a.st a.rd a.dd a.tk a.ry a.ct a.cy a.cx
  off : ∀ b ∈ a.mov, (Kr P).lookup b = none
  nd : a.mov.Nodup
theorem lex_of {P : Params} {g h : Heap} {L : Addr} {m : Str → Option Value} {a : Ad} {ln n : Nat} {r : Str} {pbs : Array Value} {d : Hid} {rest : List (Addr × Obj)} (S : Still P g a) (F : Fr g L h m) (N : News g L h (lexNews a ln n r pbs d ++ rest)) : LexSt P h a ln n r pbs :=
  ⟨S.sa.keeps F.keep, (N _ (.tail _ (.head _))).1, ⟨_, _, _, _, _, _, _, _, _, _, (N _ (.head _)).1⟩, ⟨_, _, (N _ (.tail _ (.tail _ (.head _)))).1⟩, ⟨_, _, (N _ (.tail _ (.tail _ (.tail _ (.head _))))).1⟩, ⟨_, (N _ (.tail _ (.tail _ (.tail _ (.tail _ (.head _)))))).1⟩, S.off, S.nd⟩
theorem mov_of {g h : Heap} {L : Addr} {a : Ad} {ln n : Nat} {r : Str} {pbs : Array Value} {d : Hid} {rest : List (Addr × Obj)} (N : News g L h (lexNews a ln n r pbs d ++ rest)) : ∀ b ∈ a.mov, b ≠ L ∧ g.get? b = none := by
  intro b hb
  simp only [Ad.mov, List.mem_cons, List.not_mem_nil, or_false] at hb
  rcases hb with rfl | rfl | rfl | rfl | rfl
  · exact (N _ (.tail _ (.head _))).2
  · exact (N _ (.head _)).2
  · exact (N _ (.tail _ (.tail _ (.head _)))).2
  · exact (N _ (.tail _ (.tail _ (.tail _ (.head _))))).2
  · exact (N _ (.tail _ (.tail _ (.tail _ (.tail _ (.head _)))))).2
theorem news_of {P : Params} {g h h' : Heap} {L : Addr} {a : Ad} {ln n ln' n' : Nat} {r r' : Str} {pbs pbs' : Array Value} {d : Hid} {rest : List (Addr × Obj)} (N : News g L h (lexNews a ln n r pbs d ++ rest)) (Z : LexSt P h' a ln' n' r' pbs') (hr : ∀ p ∈ rest, h'.get? p.1 = some p.2) :
    ∃ d', News g L h' (lexNews a ln' n' r' pbs' d' ++ rest) := by
  obtain ⟨sa, x, ⟨h1, h2, h3, h4, k1, k2, k3, k4, t1, tw, dx⟩, ⟨t2, c2, tk⟩, ⟨t3, c3, ry⟩, ⟨c4, pb⟩, _, _⟩ := Z
  have M := mov_of N
  refine ⟨⟨h1, h2, h3, h4, k1, k2, k3, k4, t1, tw, t2, c2, t3, c3, c4⟩, fun p hp => ?_⟩
  rcases List.mem_append.mp hp with hp | hp
  · simp only [List.mem_cons, List.not_mem_nil, or_false] at hp
    rcases hp with rfl | rfl | rfl | rfl | rfl
    · exact ⟨dx, M _ (by simp)⟩
    · exact ⟨x, M _ (by simp)⟩
    · exact ⟨tk, M _ (by simp)⟩
    · exact ⟨ry, M _ (by simp)⟩
    · exact ⟨pb, M _ (by simp)⟩
  · exact ⟨hr p hp, (N p (List.mem_append_right _ hp)).2⟩
/-- a sign is asked of the lexer -/
theorem rc_cd {w : World} {A : Around} {s : Shared} {g : Heap} {L : Addr} {m mg mb : Str → Option Value} {a : Ad} {ln n : Nat} {r : Str} {pbs : Array Value} {d : Hid} {rest : List (Addr × Obj)} {R : Result → Shared → Prop}
    (S : Still w.params g a) (X : (Kr w.params).In g) (T : TopRead q0 loose0 mg mb g) (F : Fr g L s.heap m) (N : News g L s.heap (lexNews a ln n r pbs d ++ rest)) (hrest : ∀ p ∈ rest, p.1 ∉ a.mov)
    (hA : A.depth < 898) (hh : A.handled = none) (hn : n ≤ a.text.length) (hr : r.length ≤ 1000000) (htl : a.text.length ≤ 1000)
    (go : ∀ h' tk' t' d', Fr g L h' m → News g L h' (lexNews a (lnF ln (rdF a.text n r).1) (rdF a.text n r).2.1 (rdF a.text n r).2.2 pbs d' ++ rest) → R (.ok (.ret (.str (rdF a.text n r).1 t'))) { s with heap := h', toks := tk' }) :
    codeAny (model p0 w) A (.call (.ref 35) ⟨[.ref a.x], []⟩) R s := by
  refine codeAny_mono (rc_code ⟨X.keeps F.keep, T.keeps F.keep⟩ (lex_of S F N) hA hh hn hr htl) fun res s' h => ?_
  obtain ⟨h', tk', t', rfl, rfl, M, Z⟩ := h
  have mv := mov_of N
  have sub : ∀ b ∈ [a.tk, a.ry, a.dx], b ∈ a.mov := fun b hb => by
    simp only [Ad.mov, List.mem_cons, List.not_mem_nil, or_false] at hb ⊢
    rcases hb with e | e | e <;> simp [e]
  obtain ⟨d', N'⟩ := news_of N Z (fun p hp => M _ _ (fun q => hrest p hp (sub _ q)) (N p (List.mem_append_right _ hp)).1)
  exact go h' tk' t' d' (fr_moved F M (fun b hb => (mv b (sub b hb)).2) fun q => (mv _ (sub _ q)).1 rfl) N'
end
theorem join_tick_Wk20_0 : True := by
  w_top off
  first | walk1 | exact trivial
section
local macro_rules | `(tactic| k_is) => `(tactic| first | exact hd52 _ | exact ng0 _ | exact pg_in _ | exact pg_ln _ | exact pg_ws _ | exact pg_pb _ | exact pg_rc _ | exact pg_gt _ | exact pg_pt _ | exact fi_in _ | exact fi_ln _ | exact fi_ws _ | exact fi_pb _ | exact fi_rc _ | exact fi_gt _ | exact fi_pt _ | exact fn35 _ | exact fn42 _ | exact fn49 _ | exact sa52 _ | exact po52 _ | exact ti_ln _ | exact kp_35 _ | exact kp_42 _ | exact kp_49 _)
section
local macro_rules | `(tactic| walk_at "eval Name") => `(tactic| k_dflt (first
  | (refine' nameX_L ?F ?v ?_ ?a ?b; (case F => k_asm); (case a => rfl); (case b => rfl); (case v => first | assumption | rfl); k_whole)
  | (refine' nameX_K ?F ?X ?T ?e ?_ ?a ?b; (case F => k_asm); (case X => k_asm); (case T => k_asm); (case a => rfl); (case b => rfl); (case e => first | with_reducible k_is | k_is); k_whole)
  | (refine' nameX_B ?F ?X ?T ?e ?v ?n ?_ ?a ?b; (case F => k_asm); (case X => k_asm); (case T => k_asm); (case a => rfl); (case b => rfl); (case e => first | with_reducible k_is | k_is); (case v => boot_fast); (case n => decide); k_whole)))
section
local macro_rules | `(tactic| walk_at "getAttr ref") => `(tactic| k_dflt (refine' get_own ?k1 ?k2 ?k3 ?k4 ?k5 ?k6 ?k7 ?k8 ?k9 ?_; (case k1 => k_asm); (case k2 => k_asm); (case k3 => k_inst); (case k4 => first | with_reducible k_is | k_is); (case k5 => first | with_reducible k_is | k_is); (case k6 => first | with_reducible k_is | k_is); (case k7 => first | with_reducible k_is | k_is); (case k8 => k_get); (case k9 => k_handed); k_whole))
section
local macro_rules | `(tactic| walk_at "call ref") => `(tactic| refine Stop.of ?_)
section
local macro_rules | `(tactic| walk_at "ForPost") => `(tactic| dsimp only [ForPost])
section
local macro_rules | `(tactic| walk_at "exec For") => `(tactic| refine Stop.of ?_)
section
local macro_rules | `(tactic| walk_at "getMethod ref") => `(tactic| k_dflt (refine' method_inst ?k1 ?k2 ?k3 ?k4 ?k5 ?k6 ?k7 ?_; (case k1 => k_asm); (case k2 => k_asm); (case k3 => k_inst); (case k4 => first | with_reducible k_is | k_is); (case k5 => first | with_reducible k_is | k_is); (case k6 => first | with_reducible k_is | k_is); (case k7 => k_get); k_whole))
section
noncomputable abbrev Sg := Nat × Nat × Str
/-- the lexer asks for a sign: line number, drawn signs taken, what is in hand -/
noncomputable def rdG (text : Str) (σ : Sg) : Str × Sg := ((rdF text σ.2.1 σ.2.2).1, (lnF σ.1 (rdF text σ.2.1 σ.2.2).1, (rdF text σ.2.1 σ.2.2).2.1, (rdF text σ.2.1 σ.2.2).2.2))
noncomputable def qStop (ch : Str) : Bool := ch == "\""
noncomputable def wStop (ch : Str) : Bool := Txt.contains "\n\t\r " ch
/-- a word's inner part -/
inductive Tk (text : Str) (stop : Str → Bool) : Nat → Sg → Str → Str → Sg → Prop
  | fin {k σ tok} : (rdG text σ).1 = "" → Tk text stop k σ tok tok (rdG text σ).2
  | stp {k σ tok} : (rdG text σ).1 ≠ "" → stop (rdG text σ).1 = true → Tk text stop k σ tok tok (rdG text σ).2
  | esc {k σ tok t σ'} : (rdG text σ).1 ≠ "" → stop (rdG text σ).1 = false → ((rdG text σ).1 == "\\") = true → Tk text stop k (rdG text (rdG text σ).2).2 (tok ++ (rdG text (rdG text σ).2).1) t σ' → Tk text stop (k + 1) σ tok t σ'
  | go {k σ tok t σ'} : (rdG text σ).1 ≠ "" → stop (rdG text σ).1 = false → ((rdG text σ).1 == "\\") = false → Tk text stop k (rdG text σ).2 (tok ++ (rdG text σ).1) t σ' → Tk text stop (k + 1) σ tok t σ'
/-- a word -/
inductive Gt (text : Str) : Nat → Sg → Str → Sg → Prop
  | fin {k σ} : (rdG text σ).1 = "" → Gt text k σ "" (rdG text σ).2
  | ws {k σ t σ'} : (rdG text σ).1 ≠ "" → wStop (rdG text σ).1 = true → Gt text k (rdG text σ).2 t σ' → Gt text (k + 1) σ t σ'
  | quo {k σ t σ'} : (rdG text σ).1 ≠ "" → wStop (rdG text σ).1 = false → qStop (rdG text σ).1 = true → Tk text qStop k (rdG text σ).2 "" t σ' → Gt text (k + 1) σ t σ'
  | esc {k σ t σ'} : (rdG text σ).1 ≠ "" → wStop (rdG text σ).1 = false → qStop (rdG text σ).1 = false → ((rdG text σ).1 == "\\") = true → Tk text wStop k (rdG text (rdG text σ).2).2 ("" ++ (rdG text (rdG text σ).2).1) t σ' → Gt text (k + 1) σ t σ'
  | go {k σ t σ'} : (rdG text σ).1 ≠ "" → wStop (rdG text σ).1 = false → qStop (rdG text σ).1 = false → ((rdG text σ).1 == "\\") = false → Tk text wStop k (rdG text σ).2 ("" ++ (rdG text σ).1) t σ' → Gt text (k + 1) σ t σ'
noncomputable def Ok (text : Str) (σ : Sg) : Prop := σ.2.1 ≤ text.length ∧ σ.2.2.length ≤ 1000000
theorem ok_rd {text : Str} {σ : Sg} (h : Ok text σ) : Ok text (rdG text σ).2 ∧ (rdG text σ).1.length ≤ 1 := let ⟨a, b, c⟩ := rdF_ok h.1 h.2; ⟨⟨b, c⟩, a⟩
theorem ok_tk {text : Str} {stop : Str → Bool} {k : Nat} {σ σ' : Sg} {tok t : Str} (h : Tk text stop k σ tok t σ') (o : Ok text σ) : Ok text σ' := by
  induction h with
  | fin _ => exact (ok_rd o).1
  | stp _ _ => exact (ok_rd o).1
  | esc _ _ _ _ ih => exact ih (ok_rd (ok_rd o).1).1
  | go _ _ _ _ ih => exact ih (ok_rd o).1
theorem ok_gt {text : Str} {k : Nat} {σ σ' : Sg} {t : Str} (h : Gt text k σ t σ') (o : Ok text σ) : Ok text σ' := by
  induction h with
  | fin _ => exact (ok_rd o).1
  | ws _ _ _ ih => exact ih (ok_rd o).1
  | quo _ _ _ h => exact ok_tk h (ok_rd o).1
  | esc _ _ _ _ h => exact ok_tk h (ok_rd (ok_rd o).1).1
  | go _ _ _ _ h => exact ok_tk h (ok_rd o).1
noncomputable abbrev gtEnv (L : Addr) : Env := envOf (S [95, 110, 101, 116, 114, 99, 108, 101, 120, 46, 103, 101, 116, 95, 116, 111, 107, 101, 110]) (fScope (mth 2)) L 42 (.ref 41)
/-- the ledger within get_token -/
noncomputable abbrev gtNews (a : Ad) (σ : Sg) (d : Hid) (it q : Addr) (f snt : Value) (b : Bool) : List (Addr × Obj) := lexNews a σ.1 σ.2.1 σ.2.2 #[] d ++ [(it, ciObj f snt b), (q, ⟨.type "method", none, .fields #[.ref 35, .ref a.x], #[]⟩)]
noncomputable def forB : Stmt → List Stmt
  | .For _ _ b _ _ => b
  | _ => []
noncomputable def nth (l : List Stmt) (i : Nat) : Stmt := (l[i]?).getD default
noncomputable def ifB : Stmt → List Stmt
  | .If _ b _ _ => b
  | _ => []
noncomputable def ifE2 : Stmt → List Stmt
  | .If _ _ e _ => e
  | _ => []
/-- the outer loop's body, and the inner ones -/
noncomputable def oB : List Stmt := forB (nth (fBody (mth 2)) 3)
noncomputable def qB : List Stmt := forB (nth (ifB (nth oB 1)) 0)
noncomputable def wB : List Stmt := forB (nth (ifE2 (nth oB 1)) 2)
noncomputable def chE : PySem.Expr := match nth (fBody (mth 2)) 3 with
  | .For e _ _ _ _ => e
  | _ => default
noncomputable def chQ : PySem.Expr := match nth (ifB (nth oB 1)) 0 with
  | .For e _ _ _ _ => e
  | _ => default
noncomputable def chW : PySem.Expr := match nth (ifE2 (nth oB 1)) 2 with
  | .For e _ _ _ _ => e
  | _ => default
theorem fn35_at {P : Params} {h : Heap} (X : (Kr P).In h) : ∃ fd, h.get? 35 = some ⟨.type "function", none, .func fd, #[]⟩ := ⟨_, X 35 (q35_2 P) (by kernel_rfl!)⟩
section
variable {w : World} {A : Around} {g : Heap} {L : Addr} {mg mb : Str → Option Value} {a : Ad} {it q : Addr} {ts : Tok} {Q : Flow → Shared → Prop} {s : Shared} {m : Str → Option Value} {σ : Sg} {d : Hid} {body : List Stmt} {pos : Pos}
theorem rest_off (hoff : ∀ p ∈ [it, q], p ∉ a.mov) {f snt : Value} {b : Bool} {o : Obj} : ∀ p ∈ [(it, ciObj f snt b), (q, o)], p.1 ∉ a.mov := fun p hp => by
  rcases List.mem_cons.mp hp with rfl | hp
  · exact hoff _ (.head _)
  · rcases List.mem_cons.mp hp with rfl | hp
    · exact hoff _ (.tail _ (.head _))
    · cases hp
/-- one turn of a loop over the iterator -/
theorem turn_ci (S : Still w.params g a) (X : (Kr w.params).In g) (T : TopRead q0 loose0 mg mb g)
    (hA : A.depth < 898) (hh : A.handled = none) (htl : a.text.length ≤ 1000) (hoff : ∀ p ∈ [it, q], p ∉ a.mov) (hiq : it ≠ q) (o : Ok a.text σ)
    (F : Fr g L s.heap m) (N : News g L s.heap (gtNews a σ d it q (.ref q) (.str "" ts) false))
    (hfin : (rdG a.text σ).1 = "" → ∀ h' tk' d', Fr g L h' m → News g L h' (gtNews a (rdG a.text σ).2 d' it q .none .none true) → Q .next { s with heap := h', toks := tk' })
    (hgo : (rdG a.text σ).1 ≠ "" → ∀ h' tk' d' u, Fr g L h' (fun y => if y = Str.ofString "ch" then some (.str (rdG a.text σ).1 u) else m y) → News g L h' (gtNews a (rdG a.text σ).2 d' it q (.ref q) (.str "" ts) false) →
      wpAny (model p0 w) A (execs body (gtEnv L)) (ForPost w A (gtEnv L) (.Name (Str.ofString "ch") pos) (.ref it) body Q) (fun _ _ => False) { s with heap := h', toks := tk' }) :
    ForRest w A (gtEnv L) (.Name (Str.ofString "ch") pos) (.ref it) body Q s := by
  have n1 : (it, ciObj (.ref q) (.str "" ts) false) ∈ gtNews a σ d it q (.ref q) (.str "" ts) false := List.mem_append_right _ (.head _)
  have n2 : (q, (⟨.type "method", none, .fields #[.ref 35, .ref a.x], #[]⟩ : Obj)) ∈ gtNews a σ d it q (.ref q) (.str "" ts) false := List.mem_append_right _ (.tail _ (.head _))
  obtain ⟨fd, h35⟩ := fn35_at X
  refine for_turn (pyNext_ci hh (N _ n1).1 (N _ n2).1 (F.keep _ _ h35) (rc_cd S X T F N (rest_off hoff) (A := A.in1.mark none) hA (by show (none : Option Value).or A.handled = none; rw [hh]; rfl) o.1 o.2 htl fun h' tk' t' d' F' N' => ?_))
  refine ⟨_, _, _, _, rfl, rfl, (N' _ (List.mem_append_right _ (.head _))).1, (N' _ (List.mem_append_right _ (.tail _ (.head _)))).1, F'.keep _ _ h35, fun e => ?_, fun e h'' e1 e2 => ?_⟩
  · show wpAny _ _ (pure ()) _ _ _
    refine wpAny_pure (wpAny_assign_Name ?_)
    refine stN F' N' (fun h2 F2 N2 => ?_) (by kernel_rfl!) (by kernel_rfl!)
    exact hgo e _ _ _ _ F2 N2
  · have nit : ∀ b o, g.get? b = some o → b ≠ it := fun b o eb q => by
      rw [q, (N' _ (List.mem_append_right _ (.head _))).2.2] at eb
      cases eb
    have nL : L ≠ it := fun e => (N' _ (List.mem_append_right _ (.head _))).2.1 e.symm
    refine hfin e h'' _ d' ?_ ?_
    · obtain ⟨oL, es, ep, eL, r⟩ := F'.ns
      exact ⟨⟨oL, es, ep, e2 _ _ nL eL, r⟩, fun b o eb => e2 _ _ (nit b o eb) (F'.keep b o eb), F'.above⟩
    · intro p hp
      rcases List.mem_append.mp hp with hp | hp
      · refine ⟨e2 _ _ (fun e => hoff it (.head _) ?_) (N' p (List.mem_append_left _ hp)).1, (N' p (List.mem_append_left _ hp)).2⟩
        rw [← e]
        simp only [List.mem_cons, List.not_mem_nil, or_false] at hp
        rcases hp with rfl | rfl | rfl | rfl | rfl <;> simp
      · rcases List.mem_cons.mp hp with rfl | hp
        · exact ⟨e1, (N' _ (List.mem_append_right _ (.head _))).2⟩
        · rcases List.mem_cons.mp hp with rfl | hp
          · exact ⟨e2 _ _ (fun e => hiq e.symm) (N' _ (List.mem_append_right _ (.tail _ (.head _)))).1, (N' _ (List.mem_append_right _ (.tail _ (.head _)))).2⟩
          · cases hp
end
theorem upd_other {m : Str → Option Value} {x y : Str} {v v' : Value} (h : m y = some v) (n : (y == x) = false := by rfl) : (if y = x then some v' else m y) = some v := by
  rw [if_neg (fun e => by rw [e] at n; simp at n)]; exact h
end
theorem join_tick_Wk20_1 : True := by
  w_top off
  first | walk1 | exact trivial
section
local macro_rules | `(tactic| walk_at "eval Name") => `(tactic| k_dflt (
  (refine' nameX_L ?F ?v ?_ ?a ?b; (case F => k_asm); (case a => rfl); (case b => rfl); (case v => first | assumption | exact upd_other (by assumption) | exact upd_other (upd_other (by assumption)) | rfl); k_whole)))
section
local macro_rules | `(tactic| walk_at "loadName") => `(tactic| k_dflt (
  (refine' ldn ?k1 ?k2 ?_; (case k1 => k_asm); (case k2 => first | assumption | exact upd_other (by assumption) | exact upd_other (upd_other (by assumption)) | rfl); k_whole)))
section
local macro_rules | `(tactic| walk_at "inplaceOp Add str str") => `(tactic| (refine SBL.iadd (hsz := ?hsz) ?_; (case hsz => (rw [sizeLine_eq]; omega)); intro _ _ _))
section
set_option maxHeartbeats 4000000 in
theorem q_walk {w : World} {A : Around} {g : Heap} {L : Addr} {mg mb : Str → Option Value} {a : Ad} {it q : Addr} {ts : Tok} {pos : Pos} (S : Still w.params g a) (X : (Kr w.params).In g) (T : TopRead q0 loose0 mg mb g)
    (hA : A.depth < 898) (hh : A.handled = none) (htl : a.text.length ≤ 1000) (hoff : ∀ p ∈ [it, q], p ∉ a.mov) (hiq : it ≠ q) {Q : Flow → Shared → Prop} {s0 : Shared} {t : Str} {σ' : Sg}
    (hret : ∀ h' tk' m' d' t', Fr g L h' m' → News g L h' (gtNews a σ' d' it q (.ref q) (.str "" ts) false) → Q (.ret (.str t t')) { s0 with heap := h', toks := tk' })
    (hend : ∀ h' tk' m' d' t', Fr g L h' m' → News g L h' (gtNews a σ' d' it q .none .none true) → m' "self" = some (.ref a.x) → m' "token" = some (.str t t') → m' "fiter" = some (.ref it) → Q .next { s0 with heap := h', toks := tk' }) :
    ∀ {k : Nat} {σ : Sg} {tok : Str}, Tk a.text qStop k σ tok t σ' → Ok a.text σ → tok.length + k ≤ 1000000 → ∀ {h : Heap} {tk : Nat} {m : Str → Option Value} {d : Hid} {tt : Tok}, Fr g L h m → News g L h (gtNews a σ d it q (.ref q) (.str "" ts) false) →
      m "self" = some (.ref a.x) → m "token" = some (.str tok tt) → m "fiter" = some (.ref it) → ForRest w A (gtEnv L) (.Name (Str.ofString "ch") pos) (.ref it) qB Q { s0 with heap := h, toks := tk } := by
  intro k σ tok D
  induction D with
  | fin e =>
    intro o hl h tk m d tt F N m1 m2 m3
    exact turn_ci S X T hA hh htl hoff hiq o F N (fun _ h' tk' d' F' N' => hend h' tk' m d' tt F' N' m1 m2 m3) (fun q => absurd e q)
  | stp e e2 =>
    intro o hl h tk m d tt F N m1 m2 m3
    refine turn_ci S X T hA hh htl hoff hiq o F N (fun q => absurd q e) fun _ h' tk' d' u F' N' => ?_
    have hlen := (ok_rd o).2
    generalize hch : rdG a.text _ = res at *
    obtain ⟨ch, σ1⟩ := res
    dsimp only at e e2 hlen N' F' ⊢
    have m1' := upd_other (x := "ch") (v' := .str ch u) m1
    have m2' := upd_other (x := "ch") (v' := .str ch u) m2
    unfold qStop at e2
    clear F N
    conv => arg 3; arg 1; whnf
    k_steps
    exact hret _ _ _ d' _ F' N'
  | @esc k σ tok t σ' e e2 e3 D ih =>
    intro o hl h tk m d tt F N m1 m2 m3
    refine turn_ci S X T hA hh htl hoff hiq o F N (fun q => absurd q e) fun _ h' tk' d' u F' N' => ?_
    obtain ⟨o1, hlen⟩ := ok_rd o
    obtain ⟨o2, hlen2⟩ := ok_rd o1
    generalize hch : rdG a.text _ = res at *
    obtain ⟨ch, σ1⟩ := res
    dsimp only at e e2 e3 hlen N' F' o1 o2 D ih hlen2 ⊢
    have m1' := upd_other (x := "ch") (v' := .str ch u) m1
    have m2' := upd_other (x := "ch") (v' := .str ch u) m2
    have m3' := upd_other (x := "ch") (v' := .str ch u) m3
    unfold qStop at e2
    clear F N
    have N := N'
    dsimp only [gtNews, lexNews, List.cons_append, List.nil_append] at N
    conv => arg 3; arg 1; whnf
    k_steps
    refine Stop.go (wpAny_call (rc_cd S X T F' N' (rest_off hoff) hA hh o1.1 o1.2 htl fun h2 tk2 t2 d2 F2 N2 => ?_))
    clear F' N' N
    have N := N2
    dsimp only [gtNews, lexNews, List.cons_append, List.nil_append] at N
    have hlen3 : (rdF a.text σ1.2.1 σ1.2.2).1.length ≤ 1 := hlen2
    k_steps
    refine ih hret hend o2 (by rw [Str.length_append]; omega) (by assumption) (by assumption) ?_ (by exact rfl) ?_
    · exact m1
    · exact m3
  | @go k σ tok t σ' e e2 e3 D ih =>
    intro o hl h tk m d tt F N m1 m2 m3
    refine turn_ci S X T hA hh htl hoff hiq o F N (fun q => absurd q e) fun _ h' tk' d' u F' N' => ?_
    obtain ⟨o1, hlen⟩ := ok_rd o
    generalize hch : rdG a.text _ = res at *
    obtain ⟨ch, σ1⟩ := res
    dsimp only at e e2 e3 hlen N' F' o1 D ih ⊢
    have m1' := upd_other (x := "ch") (v' := .str ch u) m1
    have m2' := upd_other (x := "ch") (v' := .str ch u) m2
    have m3' := upd_other (x := "ch") (v' := .str ch u) m3
    unfold qStop at e2
    clear F N
    have N := N'
    dsimp only [gtNews, lexNews, List.cons_append, List.nil_append] at N
    clear N'
    conv => arg 3; arg 1; whnf
    k_steps
    refine ih hret hend o1 (by rw [Str.length_append]; omega) (by assumption) (by assumption) ?_ (by exact rfl) ?_
    · exact m1
    · exact m3
end
end
end
end
end
theorem join_tick_Wk21_0 : True := by
  w_top off
  first | walk1 | exact trivial
section
local macro_rules | `(tactic| walk_at "eval Name") => `(tactic| k_dflt (
  (refine' nameX_L ?F ?v ?_ ?a ?b; (case F => k_asm); (case a => rfl); (case b => rfl); (case v => first | assumption | exact upd_other (by assumption) | exact upd_other (upd_other (by assumption)) | rfl); k_whole)))
section
local macro_rules | `(tactic| walk_at "loadName") => `(tactic| k_dflt (
  (refine' ldn ?k1 ?k2 ?_; (case k1 => k_asm); (case k2 => first | assumption | exact upd_other (by assumption) | exact upd_other (upd_other (by assumption)) | rfl); k_whole)))
section
local macro_rules | `(tactic| walk_at "inplaceOp Add str str") => `(tactic| (refine SBL.iadd (hsz := ?hsz) ?_; (case hsz => (rw [sizeLine_eq]; omega)); intro _ _ _))
section
local macro_rules | `(tactic| walk_at "getMethod ref") => `(tactic| k_dflt (refine' method_inst ?k1 ?k2 ?k3 ?k4 ?k5 ?k6 ?k7 ?_; (case k1 => k_asm); (case k2 => k_asm); (case k3 => k_inst); (case k4 => first | with_reducible k_is | k_is); (case k5 => first | with_reducible k_is | k_is); (case k6 => first | with_reducible k_is | k_is); (case k7 => k_get); k_whole))
section
set_option maxHeartbeats 4000000 in
theorem w_walk {w : World} {A : Around} {g : Heap} {L : Addr} {mg mb : Str → Option Value} {a : Ad} {it q : Addr} {ts : Tok} {pos : Pos} (S : Still w.params g a) (X : (Kr w.params).In g) (T : TopRead q0 loose0 mg mb g)
    (hA : A.depth < 898) (hh : A.handled = none) (htl : a.text.length ≤ 1000) (hoff : ∀ p ∈ [it, q], p ∉ a.mov) (hiq : it ≠ q) {Q : Flow → Shared → Prop} {s0 : Shared} {t : Str} {σ' : Sg}
    (hret : ∀ h' tk' m' d' t', Fr g L h' m' → News g L h' (gtNews a σ' d' it q (.ref q) (.str "" ts) false) → Q (.ret (.str t t')) { s0 with heap := h', toks := tk' })
    (hend : ∀ h' tk' m' d' t', Fr g L h' m' → News g L h' (gtNews a σ' d' it q .none .none true) → m' "self" = some (.ref a.x) → m' "token" = some (.str t t') → m' "fiter" = some (.ref it) → Q .next { s0 with heap := h', toks := tk' }) :
    ∀ {k : Nat} {σ : Sg} {tok : Str}, Tk a.text wStop k σ tok t σ' → Ok a.text σ → tok.length + k ≤ 1000000 → ∀ {h : Heap} {tk : Nat} {m : Str → Option Value} {d : Hid} {tt : Tok}, Fr g L h m → News g L h (gtNews a σ d it q (.ref q) (.str "" ts) false) →
      m "self" = some (.ref a.x) → m "token" = some (.str tok tt) → m "fiter" = some (.ref it) → ForRest w A (gtEnv L) (.Name (Str.ofString "ch") pos) (.ref it) wB Q { s0 with heap := h, toks := tk } := by
  intro k σ tok D
  induction D with
  | fin e =>
    intro o hl h tk m d tt F N m1 m2 m3
    exact turn_ci S X T hA hh htl hoff hiq o F N (fun _ h' tk' d' F' N' => hend h' tk' m d' tt F' N' m1 m2 m3) (fun q => absurd e q)
  | stp e e2 =>
    intro o hl h tk m d tt F N m1 m2 m3
    refine turn_ci S X T hA hh htl hoff hiq o F N (fun q => absurd q e) fun _ h' tk' d' u F' N' => ?_
    have hlen := (ok_rd o).2
    generalize hch : rdG a.text _ = res at *
    obtain ⟨ch, σ1⟩ := res
    dsimp only at e e2 hlen N' F' ⊢
    have m1' := upd_other (x := "ch") (v' := .str ch u) m1
    have m2' := upd_other (x := "ch") (v' := .str ch u) m2
    unfold wStop Txt.contains at e2
    simp only [Bool.not_eq_true', Bool.not_eq_false'] at e2
    clear F N
    conv => arg 3; arg 1; whnf
    k_steps
    exact hret _ _ _ d' _ F' N'
  | @esc k σ tok t σ' e e2 e3 D ih =>
    intro o hl h tk m d tt F N m1 m2 m3
    refine turn_ci S X T hA hh htl hoff hiq o F N (fun q => absurd q e) fun _ h' tk' d' u F' N' => ?_
    obtain ⟨o1, hlen⟩ := ok_rd o
    obtain ⟨o2, hlen2⟩ := ok_rd o1
    generalize hch : rdG a.text _ = res at *
    obtain ⟨ch, σ1⟩ := res
    dsimp only at e e2 e3 hlen N' F' o1 o2 D ih hlen2 ⊢
    have m1' := upd_other (x := "ch") (v' := .str ch u) m1
    have m2' := upd_other (x := "ch") (v' := .str ch u) m2
    have m3' := upd_other (x := "ch") (v' := .str ch u) m3
    unfold wStop Txt.contains at e2
    simp only [Bool.not_eq_true', Bool.not_eq_false'] at e2
    clear F N
    have N := N'
    dsimp only [gtNews, lexNews, List.cons_append, List.nil_append] at N
    conv => arg 3; arg 1; whnf
    k_steps
    refine Stop.go (wpAny_call (rc_cd S X T F' N' (rest_off hoff) hA hh o1.1 o1.2 htl fun h2 tk2 t2 d2 F2 N2 => ?_))
    clear F' N' N
    have N := N2
    dsimp only [gtNews, lexNews, List.cons_append, List.nil_append] at N
    have hlen3 : (rdF a.text σ1.2.1 σ1.2.2).1.length ≤ 1 := hlen2
    k_steps
    refine ih hret hend o2 (by rw [Str.length_append]; omega) (by assumption) (by assumption) ?_ (by exact rfl) ?_
    · exact m1
    · exact m3
  | @go k σ tok t σ' e e2 e3 D ih =>
    intro o hl h tk m d tt F N m1 m2 m3
    refine turn_ci S X T hA hh htl hoff hiq o F N (fun q => absurd q e) fun _ h' tk' d' u F' N' => ?_
    obtain ⟨o1, hlen⟩ := ok_rd o
    generalize hch : rdG a.text _ = res at *
    obtain ⟨ch, σ1⟩ := res
    dsimp only at e e2 e3 hlen N' F' o1 D ih ⊢
    have m1' := upd_other (x := "ch") (v' := .str ch u) m1
    have m2' := upd_other (x := "ch") (v' := .str ch u) m2
    have m3' := upd_other (x := "ch") (v' := .str ch u) m3
    unfold wStop Txt.contains at e2
    simp only [Bool.not_eq_true', Bool.not_eq_false'] at e2
    clear F N
    have N := N'
    dsimp only [gtNews, lexNews, List.cons_append, List.nil_append] at N
    clear N'
    conv => arg 3; arg 1; whnf
    k_steps
    refine ih hret hend o1 (by rw [Str.length_append]; omega) (by assumption) (by assumption) ?_ (by exact rfl) ?_
    · exact m1
    · exact m3
end
theorem join_tick_Wk22_0 : True := by
  w_top off
  first | walk1 | exact trivial
section
theorem Fr.keeps2 {g h h' : Heap} {L : Addr} {m : Str → Option Value} (F : Fr g L h m) (hk : ∀ b o, h.get? b = some o → h'.get? b = some o) : Fr g L h' m := F.keeps hk
section
variable {w : World} {A : Around} {g : Heap} {L : Addr} {mg mb : Str → Option Value} {a : Ad} {it q : Addr} {ts : Tok} {Q : Flow → Shared → Prop} {s : Shared} {m : Str → Option Value} {σ : Sg} {d : Hid} {body : List Stmt} {pos : Pos}
theorem turn_end (hh : A.handled = none) (F : Fr g L s.heap m) (N : News g L s.heap (gtNews a σ d it q .none .none true))
    (h : ∀ h', Fr g L h' m → News g L h' (gtNews a σ d it q .none .none true) → Q .next { s with heap := h' }) :
    ForRest w A (gtEnv L) (.Name (Str.ofString "ch") pos) (.ref it) body Q s :=
  for_turn (pyNext_ci_end hh (N _ (List.mem_append_right _ (.head _))).1 fun h'' hk => h h'' (F.keeps hk) (N.keepsAll hk))
/-- an inner loop's start -/
theorem inner_start {px : Pos} {target : PySem.Expr} {f snt : Value} {b : Bool} (F : Fr g L s.heap m) (N : News g L s.heap (gtNews a σ d it q f snt b)) (hm : m "fiter" = some (.ref it))
    (h : ∀ h' tk', Fr g L h' m → News g L h' (gtNews a σ d it q f snt b) → ForRest w A (gtEnv L) target (.ref it) body Q { s with heap := h', toks := tk' }) :
    wpAny (model p0 w) A (exec (.For target (.Name (Str.ofString "fiter") px) body [] pos) (gtEnv L)) Q (fun _ _ => False) s := by
  refine for_start (ld F hm ?_ (by kernel_rfl!) (by kernel_rfl!) (by decide))
  exact pyIter_ci (N _ (List.mem_append_right _ (.head _))).1 fun h' tk' hk => h h' tk' (F.keeps hk) (N.keepsAll hk)
end
set_option maxHeartbeats 4000000 in
theorem o_walk {w : World} {A : Around} {g : Heap} {L : Addr} {mg mb : Str → Option Value} {a : Ad} {it q : Addr} {ts : Tok} {pos : Pos} (S : Still w.params g a) (X : (Kr w.params).In g) (T : TopRead q0 loose0 mg mb g)
    (hA : A.depth < 898) (hh : A.handled = none) (htl : a.text.length ≤ 1000) (hoff : ∀ p ∈ [it, q], p ∉ a.mov) (hiq : it ≠ q) {Q : Flow → Shared → Prop} {s0 : Shared} {t : Str} {σ' : Sg}
    (hret : ∀ h' tk' m' d' t', Fr g L h' m' → News g L h' (gtNews a σ' d' it q (.ref q) (.str "" ts) false) → Q (.ret (.str t t')) { s0 with heap := h', toks := tk' })
    (hend : ∀ h' tk' m' d' t', Fr g L h' m' → News g L h' (gtNews a σ' d' it q .none .none true) → m' "token" = some (.str t t') → Q .next { s0 with heap := h', toks := tk' }) :
    ∀ {k : Nat} {σ : Sg}, Gt a.text k σ t σ' → Ok a.text σ → k ≤ 100000 → ∀ {h : Heap} {tk : Nat} {m : Str → Option Value} {d : Hid} {tt : Tok}, Fr g L h m → News g L h (gtNews a σ d it q (.ref q) (.str "" ts) false) →
      m "self" = some (.ref a.x) → m "token" = some (.str "" tt) → m "fiter" = some (.ref it) → ForRest w A (gtEnv L) (.Name (Str.ofString "ch") pos) (.ref it) oB Q { s0 with heap := h, toks := tk } := by
  intro k σ D
  induction D with
  | fin e =>
    intro o hl h tk m d tt F N m1 m2 m3
    exact turn_ci S X T hA hh htl hoff hiq o F N (fun _ h' tk' d' F' N' => hend h' tk' m d' tt F' N' m2) (fun q => absurd e q)
  | @ws k σ t σ' e e2 D ih =>
    intro o hl h tk m d tt F N m1 m2 m3
    refine turn_ci S X T hA hh htl hoff hiq o F N (fun q => absurd q e) fun _ h' tk' d' u F' N' => ?_
    obtain ⟨o1, hlen⟩ := ok_rd o
    generalize hch : rdG a.text _ = res at *
    obtain ⟨ch, σ1⟩ := res
    dsimp only at e e2 hlen N' F' o1 D ih ⊢
    unfold wStop Txt.contains at e2
    simp only [Bool.not_eq_true', Bool.not_eq_false'] at e2
    have m1' := upd_other (x := "ch") (v' := .str ch u) m1
    clear F N
    have N := N'
    dsimp only [gtNews, lexNews, List.cons_append, List.nil_append] at N
    conv => arg 3; arg 1; whnf
    k_steps
    exact ih hret hend o1 (by omega) F' N' m1 m2 m3
  | @quo k σ t σ' e e2 e3 D =>
    intro o hl h tk m d tt F N m1 m2 m3
    refine turn_ci S X T hA hh htl hoff hiq o F N (fun q => absurd q e) fun _ h' tk' d' u F' N' => ?_
    obtain ⟨o1, hlen⟩ := ok_rd o
    generalize hch : rdG a.text _ = res at *
    obtain ⟨ch, σ1⟩ := res
    dsimp only at e e2 e3 D hlen N' F' o1 ⊢
    unfold wStop Txt.contains at e2
    simp only [Bool.not_eq_true', Bool.not_eq_false'] at e2
    unfold qStop at e3
    have m1' := upd_other (x := "ch") (v' := .str ch u) m1
    have m2' := upd_other (x := "ch") (v' := .str ch u) m2
    have m3' := upd_other (x := "ch") (v' := .str ch u) m3
    clear F N
    have N := N'
    dsimp only [gtNews, lexNews, List.cons_append, List.nil_append] at N
    conv => arg 3; arg 1; whnf
    k_steps
    refine Stop.go (inner_start F' N' m3 fun h2 tk2 F2 N2 => ?_)
    refine q_walk S X T hA hh htl hoff hiq (fun h3 tk3 m4 d3 t3 F3 N3 => ?_) (fun h3 tk3 m4 d3 t3 F3 N3 p1 p2 p3 => ?_) D o1 (by show 0 + k ≤ _; omega) F2 N2 m1 m2 m3
    · k_steps
      exact hret _ _ _ d3 _ F3 N3
    · k_steps
      exact turn_end hh F3 N3 fun h5 F5 N5 => hend _ _ _ d3 _ F5 N5 p2
  | @esc k σ t σ' e e2 e3 e4 D =>
    intro o hl h tk m d tt F N m1 m2 m3
    refine turn_ci S X T hA hh htl hoff hiq o F N (fun q => absurd q e) fun _ h' tk' d' u F' N' => ?_
    obtain ⟨o1, hlen⟩ := ok_rd o
    obtain ⟨o2, hlen2⟩ := ok_rd o1
    generalize hch : rdG a.text _ = res at *
    obtain ⟨ch, σ1⟩ := res
    dsimp only at e e2 e3 e4 D o2 hlen2 hlen N' F' o1 ⊢
    unfold wStop Txt.contains at e2
    simp only [Bool.not_eq_true', Bool.not_eq_false'] at e2
    unfold qStop at e3
    have m1' := upd_other (x := "ch") (v' := .str ch u) m1
    have m2' := upd_other (x := "ch") (v' := .str ch u) m2
    have m3' := upd_other (x := "ch") (v' := .str ch u) m3
    clear F N
    have N := N'
    dsimp only [gtNews, lexNews, List.cons_append, List.nil_append] at N
    conv => arg 3; arg 1; whnf
    have z0 : (Str.ofString "").length = 0 := rfl
    k_steps
    refine Stop.go (wpAny_call (rc_cd S X T F' N' (rest_off hoff) hA hh o1.1 o1.2 htl fun h2 tk2 t2 d2 F2 N2 => ?_))
    clear F' N' N
    have N := N2
    dsimp only [gtNews, lexNews, List.cons_append, List.nil_append] at N
    have hlen3 : (rdF a.text σ1.2.1 σ1.2.2).1.length ≤ 1 := hlen2
    k_steps
    refine Stop.go (inner_start (by assumption) (a := a) (σ := (rdG a.text σ1).2) (d := d2) (it := it) (q := q) (f := .ref q) (snt := .str "" ts) (b := false) (by assumption) (by exact m3) fun h2 tk2 F2 N2 => ?_)
    refine w_walk S X T hA hh htl hoff hiq (fun h3 tk3 m4 d3 t3 F3 N3 => ?_) (fun h3 tk3 m4 d3 t3 F3 N3 p1 p2 p3 => ?_) D o2 (by rw [Str.length_append]; omega) F2 N2 m1 (by exact rfl) m3
    · k_steps
      exact hret _ _ _ d3 _ F3 N3
    · k_steps
      exact turn_end hh F3 N3 fun h5 F5 N5 => hend _ _ _ d3 _ F5 N5 p2
  | @go k σ t σ' e e2 e3 e4 D =>
    intro o hl h tk m d tt F N m1 m2 m3
    refine turn_ci S X T hA hh htl hoff hiq o F N (fun q => absurd q e) fun _ h' tk' d' u F' N' => ?_
    obtain ⟨o1, hlen⟩ := ok_rd o
    generalize hch : rdG a.text _ = res at *
    obtain ⟨ch, σ1⟩ := res
    dsimp only at e e2 e3 e4 D hlen N' F' o1 ⊢
    unfold wStop Txt.contains at e2
    simp only [Bool.not_eq_true', Bool.not_eq_false'] at e2
    unfold qStop at e3
    have m1' := upd_other (x := "ch") (v' := .str ch u) m1
    have m2' := upd_other (x := "ch") (v' := .str ch u) m2
    have m3' := upd_other (x := "ch") (v' := .str ch u) m3
    clear F N
    have N := N'
    dsimp only [gtNews, lexNews, List.cons_append, List.nil_append] at N
    conv => arg 3; arg 1; whnf
    have z0 : (Str.ofString "").length = 0 := rfl
    k_steps
    refine Stop.go (inner_start (by assumption) (a := a) (σ := σ1) (d := d') (it := it) (q := q) (f := .ref q) (snt := .str "" ts) (b := false) (by assumption) (by exact m3) fun h2 tk2 F2 N2 => ?_)
    refine w_walk S X T hA hh htl hoff hiq (fun h3 tk3 m4 d3 t3 F3 N3 => ?_) (fun h3 tk3 m4 d3 t3 F3 N3 p1 p2 p3 => ?_) D o1 (by rw [Str.length_append]; omega) F2 N2 m1 (by exact rfl) m3
    · k_steps
      exact hret _ _ _ d3 _ F3 N3
    · k_steps
      exact turn_end hh F3 N3 fun h5 F5 N5 => hend _ _ _ d3 _ F5 N5 p2
end
end
theorem join_tick_Wk23_0 : True := by
  w_top off
  first | walk1 | exact trivial
section
local macro_rules | `(tactic| walk_at "eval Name") => `(tactic| k_dflt (first
  | (refine' nameX_L ?F ?v ?_ ?a ?b; (case F => k_asm); (case a => rfl); (case b => rfl); (case v => first | assumption | rfl); k_whole)
  | (refine' nameX_B ?F ?X ?T ?e ?v ?n ?_ ?a ?b; (case F => k_asm); (case X => k_asm); (case T => k_asm); (case a => rfl); (case b => rfl); (case e => first | with_reducible k_is | k_is); (case v => boot_fast); (case n => decide); k_whole)))
section
local macro_rules | `(tactic| walk_at "getAttr ref") => `(tactic| first
  | k_dflt (refine' get_own ?k1 ?k2 ?k3 ?k4 ?k5 ?k6 ?k7 ?k8 ?k9 ?_; (case k1 => k_asm); (case k2 => k_asm); (case k3 => k_inst); (case k4 => first | with_reducible k_is | k_is); (case k5 => first | with_reducible k_is | k_is); (case k6 => first | with_reducible k_is | k_is); (case k7 => first | with_reducible k_is | k_is); (case k8 => k_get); (case k9 => k_handed); k_whole)
  | refine Stop.of ?_)
section
local macro_rules | `(tactic| walk_at "call builtin:iter") => `(tactic| refine Stop.of ?_)
section
local macro_rules | `(tactic| walk_at "exec For Name Name cons nil") => `(tactic| refine Stop.of ?_)
section
local macro_rules | `(tactic| walk_at "getMethod ref") => `(tactic| k_dflt (refine' method_inst ?k1 ?k2 ?k3 ?k4 ?k5 ?k6 ?k7 ?_; (case k1 => k_asm); (case k2 => k_asm); (case k3 => k_inst); (case k4 => first | with_reducible k_is | k_is); (case k5 => first | with_reducible k_is | k_is); (case k6 => first | with_reducible k_is | k_is); (case k7 => k_get); k_whole))
section
theorem g35 (P : Params) : specialIn (Kr P) (.ref 35) (Str.ofString "__get__") = some (some (.builtin "function.__get__")) := by kernel_rfl!
theorem tk35 (P : Params) : takesIn (Kr P) (.ref 35) = some false := by kernel_rfl!
/-- the floor of a call of the lexer -/
theorem still_of {P : Params} {h : Heap} {a : Ad} {ln n : Nat} {r : Str} {pbs : Array Value} (Z : LexSt P h a ln n r pbs) : Still P (hideAll h a.mov) a := by
  obtain ⟨sa, x, ⟨h1, h2, h3, h4, k1, k2, k3, k4, t1, tw, dx⟩, ⟨t2, c2, tk⟩, ⟨t3, c3, ry⟩, ⟨c4, pb⟩, off, nd⟩ := Z
  refine ⟨sa.hide fun b hb => ?_, off, nd⟩
  simp only [Ad.mov, List.mem_cons, List.not_mem_nil, or_false] at hb
  rcases hb with rfl | rfl | rfl | rfl | rfl
  · rw [x]; rfl
  · rw [dx]; rfl
  · rw [tk]; rfl
  · rw [ry]; rfl
  · rw [pb]; rfl
theorem hid_of {P : Params} {h : Heap} {a : Ad} {ln n : Nat} {r : Str} {pbs : Array Value} (Z : LexSt P h a ln n r pbs) : ∃ d : Hid, ∀ p ∈ lexNews a ln n r pbs d, h.get? p.1 = some p.2 ∧ p.1 ∈ a.mov := by
  obtain ⟨sa, x, ⟨h1, h2, h3, h4, k1, k2, k3, k4, t1, tw, dx⟩, ⟨t2, c2, tk⟩, ⟨t3, c3, ry⟩, ⟨c4, pb⟩, _, _⟩ := Z
  refine ⟨⟨h1, h2, h3, h4, k1, k2, k3, k4, t1, tw, t2, c2, t3, c3, c4⟩, fun p hp => ?_⟩
  simp only [List.mem_cons, List.not_mem_nil, or_false] at hp
  rcases hp with rfl | rfl | rfl | rfl | rfl
  · exact ⟨dx, by simp⟩
  · exact ⟨x, by simp⟩
  · exact ⟨tk, by simp⟩
  · exact ⟨ry, by simp⟩
  · exact ⟨pb, by simp⟩
/-- what a call of the lexer leaves -/
inductive LexPost2 (P : Params) (s : Shared) (a : Ad) (σ : Sg) (pbs : Array Value) (V : Value → Prop) (res : Result) (s' : Shared) : Prop
  | mk (v : Value) (h' : Heap) (tk' : Nat) (e0 : res = .ok (.ret v)) (e1 : V v) (e2 : s' = { s with heap := h', toks := tk' }) (e3 : Moved a.mov s.heap h') (e4 : LexSt P h' a σ.1 σ.2.1 σ.2.2 pbs) : LexPost2 P s a σ pbs V res s'
theorem post_of {P : Params} {s : Shared} {h' : Heap} {L : Addr} {m : Str → Option Value} {a : Ad} {σ : Sg} {pbs : Array Value} {d : Hid} {rest : List (Addr × Obj)} {V : Value → Prop} {v : Value} {tk' : Nat} (S : Still P (hideAll s.heap a.mov) a)
    (F : Fr (hideAll s.heap a.mov) L h' m) (N : News (hideAll s.heap a.mov) L h' (lexNews a σ.1 σ.2.1 σ.2.2 pbs d ++ rest)) (hv : V v) : LexPost2 P s a σ pbs V (.ok (.ret v)) { s with heap := h', toks := tk' } :=
  ⟨v, h', tk', rfl, hv, rfl, fun b o nb e => F.keep b o (hideAll_get _ e nb), lex_of S F N⟩
set_option maxHeartbeats 4000000 in
theorem gt_code {w : World} {A : Around} {s : Shared} {mg mb : Str → Option Value} (G : Gd w mg mb s.heap) {a : Ad} {σ σ' : Sg} {k : Nat} {t : Str} (Z : LexSt w.params s.heap a σ.1 σ.2.1 σ.2.2 #[])
    (D : Gt a.text k σ t σ') (o : Ok a.text σ) (hk : k ≤ 100000) (hA : A.depth < 897) (hh : A.handled = none) (htl : a.text.length ≤ 1000) :
    codeAny (model p0 w) A (.call (.ref 42) ⟨[.ref a.x], []⟩) (LexPost2 w.params s a σ' #[] fun v => ∃ t', v = .str t t') s := by
  have ST := still_of Z
  obtain ⟨d, hd⟩ := hid_of Z
  refine call_fdH a.mov (lexNews a σ.1 σ.2.1 σ.2.2 #[] d) (o := q42_2 w.params) (nm := S [95, 110, 101, 116, 114, 99, 108, 101, 120, 46, 103, 101, 116, 95, 116, 111, 107, 101, 110]) (sc := fScope (mth 2)) (cd := .ref 41) (body := fBody (mth 2)) (binds := [("self", .ref a.x)])
    G ST.off hd (Nat.lt_trans hA (by decide)) (by kernel_rfl!) rfl (by kernel_rfl!) (by kernel_rfl!) (fun L => by kernel_rfl!) (BindsTo.of_eq (by with_unfolding_all rfl)) (by decide +kernel) (by kernel_rfl!) ?_ (by kernel_rfl!) (by kernel_rfl!) (by kernel_rfl!)
  intro h₀ F X T N hkeep
  have N0 := N
  dsimp only [lexNews] at N
  conv => arg 3; arg 1; whnf
  k_steps
  rename_i F1 N1
  refine Stop.go (kbm_bound F1 X N1 (InstAt.of_news N1 (.tail _ (.head _)) (.head _)) (pg_rc _) (hd52 _) (fi_rc _) (fn35 _) (g35 _) (tk35 _) (by decide +kernel) rfl fun q h1 F N lt => ?_)
  clear F1 N1
  k_steps
  have Kz1 : (Kz w.params).In h1 := by rw [kz_eq]; exact X.keeps F.keep
  refine Stop.go (wpAny_mono (iter_call (x := a.x) Kz1 (N _ (.head _)).1) (fun v s' hv => ?_) (fun _ _ x => x))
  generalize tk + 1 = ts at hv
  obtain ⟨it, h2, tk2, rfl, rfl, hit, hnew, hk2⟩ := hv
  have hnew : h1.get? it = none := hnew
  have hmv : ∀ b ∈ a.mov, ∃ o, h1.get? b = some o := fun b hb => by
    have M := fun p hp => (N p (.tail _ hp)).1
    simp only [Ad.mov, List.mem_cons, List.not_mem_nil, or_false] at hb
    rcases hb with rfl | rfl | rfl | rfl | rfl
    · exact ⟨_, M _ (.tail _ (.head _))⟩
    · exact ⟨_, M _ (.head _)⟩
    · exact ⟨_, M _ (.tail _ (.tail _ (.head _)))⟩
    · exact ⟨_, M _ (.tail _ (.tail _ (.tail _ (.head _))))⟩
    · exact ⟨_, M _ (.tail _ (.tail _ (.tail _ (.tail _ (.head _)))))⟩
  have hoff : ∀ p ∈ [it, q], p ∉ a.mov := fun p hp m => by
    rcases List.mem_cons.mp hp with rfl | hp
    · obtain ⟨o, e⟩ := hmv _ m
      rw [hnew] at e; cases e
    · rcases List.mem_cons.mp hp with rfl | hp
      · simp only [Ad.mov, List.mem_cons, List.not_mem_nil, or_false] at m
        have lt' : ∀ p ∈ lexNews a σ.1 σ.2.1 σ.2.2 #[] d, p.1 ≠ _ := fun p hp => Nat.ne_of_lt (lt p hp)
        rcases m with e | e | e | e | e
        · exact lt' _ (.tail _ (.head _)) e.symm
        · exact lt' _ (.head _) e.symm
        · exact lt' _ (.tail _ (.tail _ (.head _))) e.symm
        · exact lt' _ (.tail _ (.tail _ (.tail _ (.head _)))) e.symm
        · exact lt' _ (.tail _ (.tail _ (.tail _ (.tail _ (.head _))))) e.symm
      · cases hp
  have hiq : it ≠ q := fun e => by
    have := (N _ (.head _)).1
    rw [← e] at this
    have this : h1.get? it = _ := this
    rw [hnew] at this; cases this
  have F2 : Fr (hideAll s.heap a.mov) s.heap.objs.size h2 _ := F.keeps hk2
  have N2 : News (hideAll s.heap a.mov) s.heap.objs.size h2 (gtNews a σ d it q (.ref q) (.str "" ts) false) := fun p hp => by
    rcases List.mem_append.mp hp with hp | hp
    · exact ⟨hk2 _ _ (N p (.tail _ hp)).1, (N p (.tail _ hp)).2⟩
    · rcases List.mem_cons.mp hp with rfl | hp
      · refine ⟨hit, fun e => ?_, ?_⟩
        · obtain ⟨oL, _, _, eL, _⟩ := F.ns
          have e : it = s.heap.objs.size := e
          rw [← e] at eL
          have eL : h1.get? it = some oL := eL
          rw [hnew] at eL; cases eL
        · cases eg : (hideAll s.heap a.mov).get? it with
          | none => rfl
          | some og =>
            have := F.keep _ _ eg
            have this : h1.get? it = some og := this
            rw [hnew] at this; cases this
      · rcases List.mem_cons.mp hp with rfl | hp
        · exact ⟨hk2 _ _ (N _ (.head _)).1, (N _ (.head _)).2⟩
        · cases hp
  clear F N lt hnew hk2 hit Kz1 hmv hkeep
  have N := N2
  dsimp only [gtNews, lexNews, List.cons_append, List.nil_append] at N
  k_steps
  refine Stop.go (inner_start (by assumption) (a := a) (σ := σ) (d := d) (it := it) (q := q) (f := .ref q) (snt := .str "" ts) (b := false) (by assumption) (by exact rfl) fun h3 tk3 F3 N3 => ?_)
  refine o_walk (A := A.deeper _) ST X T (by show A.depth + 1 < 898; omega) hh htl hoff hiq (fun h4 tk4 m4 d4 t4 F4 N4 => ?_) (fun h4 tk4 m4 d4 t4 F4 N4 p1 => ?_) D o hk F3 N3 rfl rfl rfl
  · k_steps
    exact post_of ST F4 N4 ⟨_, rfl⟩
  · k_steps
    exact post_of ST F4 N4 ⟨_, rfl⟩
end
end
theorem join_tick_Wk24_0 : True := by
  w_top off
  first | walk1 | exact trivial
section
theorem pb_apart {P : Params} {g : Heap} {a : Ad} (S : Still P g a) : @Ne Nat a.dx a.pb ∧ @Ne Nat a.x a.pb ∧ @Ne Nat a.tk a.pb ∧ @Ne Nat a.ry a.pb := by
  have nd := S.nd
  simp only [Ad.mov, List.nodup_cons, List.mem_cons, List.not_mem_nil, or_false, not_or, List.nodup_nil, and_true, not_false_eq_true] at nd
  obtain ⟨⟨n1, n2, n3, n4⟩, ⟨n5, n6, n7⟩, ⟨n8, n9⟩, n10⟩ := nd
  exact ⟨n7, n4, n9, n10⟩
set_option maxHeartbeats 4000000 in
theorem gt_pop {w : World} {A : Around} {s : Shared} {mg mb : Str → Option Value} (G : Gd w mg mb s.heap) {a : Ad} {σ : Sg} {v : Value} (Z : LexSt w.params s.heap a σ.1 σ.2.1 σ.2.2 #[v])
    (hA : A.depth < 897) (hh : A.handled = none) :
    codeAny (model p0 w) A (.call (.ref 42) ⟨[.ref a.x], []⟩) (LexPost2 w.params s a σ #[] fun v' => v' = v) s := by
  have ST := still_of Z
  obtain ⟨d, hd⟩ := hid_of Z
  refine call_fdH a.mov (lexNews a σ.1 σ.2.1 σ.2.2 #[v] d) (o := q42_2 w.params) (nm := S [95, 110, 101, 116, 114, 99, 108, 101, 120, 46, 103, 101, 116, 95, 116, 111, 107, 101, 110]) (sc := fScope (mth 2)) (cd := .ref 41) (body := fBody (mth 2)) (binds := [("self", .ref a.x)])
    G ST.off hd (Nat.lt_trans hA (by decide)) (by kernel_rfl!) rfl (by kernel_rfl!) (by kernel_rfl!) (fun L => by kernel_rfl!) (BindsTo.of_eq (by with_unfolding_all rfl)) (by decide +kernel) (by kernel_rfl!) ?_ (by kernel_rfl!) (by kernel_rfl!) (by kernel_rfl!)
  intro h₀ F X T N hkeep
  have N0 := N
  dsimp only [lexNews] at N
  clear hkeep N0
  obtain ⟨e1, e2, e3, e4⟩ := pb_apart ST
  conv => arg 3; arg 1; whnf
  k_steps
  rename_i F' N'
  exact post_of ST (d := { d with c4 := d.c4 + 1 }) (rest := []) F' N' rfl
set_option maxHeartbeats 4000000 in
theorem pt_code {w : World} {A : Around} {s : Shared} {mg mb : Str → Option Value} (G : Gd w mg mb s.heap) {a : Ad} {σ : Sg} {v : Value} (Z : LexSt w.params s.heap a σ.1 σ.2.1 σ.2.2 #[])
    (hA : A.depth < 897) (hh : A.handled = none) :
    codeAny (model p0 w) A (.call (.ref 49) ⟨[.ref a.x, v], []⟩) (LexPost2 w.params s a σ #[v] fun v' => v' = .none) s := by
  have ST := still_of Z
  obtain ⟨d, hd⟩ := hid_of Z
  refine call_fdH a.mov (lexNews a σ.1 σ.2.1 σ.2.2 #[] d) (o := q49_2 w.params) (nm := S [95, 110, 101, 116, 114, 99, 108, 101, 120, 46, 112, 117, 115, 104, 95, 116, 111, 107, 101, 110]) (sc := fScope (mth 3)) (cd := .ref 48) (body := fBody (mth 3)) (binds := [("self", .ref a.x), ("token", v)])
    G ST.off hd (Nat.lt_trans hA (by decide)) (by kernel_rfl!) rfl (by kernel_rfl!) (by kernel_rfl!) (fun L => by kernel_rfl!) (BindsTo.of_eq (by with_unfolding_all rfl)) (by decide +kernel) (by kernel_rfl!) ?_ (by kernel_rfl!) (by kernel_rfl!) (by kernel_rfl!)
  intro h₀ F X T N hkeep
  have N0 := N
  dsimp only [lexNews] at N
  clear hkeep N0
  obtain ⟨e1, e2, e3, e4⟩ := pb_apart ST
  conv => arg 3; arg 1; whnf
  k_steps
  rename_i F' N'
  exact post_of ST (d := { d with c4 := d.c4 + 1 }) (rest := []) F' N' rfl
end
section
/-- what the stream makes of a drawn sign -/
noncomputable def prepC (c : Nat) : List Nat := if b1s.contains (c : Int) then [] else ls (b3f c)
/-- the prepared signs from a drawn one on -/
noncomputable def PR (text : Str) (n : Nat) : List Nat := ((ls text).drop n).flatMap prepC
theorem codeAt_eq {text : Str} {n : Nat} (h : n < (ls text).length) : codeAt text n = (ls text)[n] := by
  unfold codeAt Txt.charAt
  have hl : n < text.length := by rw [len_ls]; exact h
  rw [StrLaws.at_nonneg (n := (ls text)[n]) (Int.natCast_nonneg _) (by
    show text.cps[((n : Nat) : Int).toNat]? = _
    rw [Int.toNat_natCast, ← Array.getElem?_toList, List.getElem?_eq_getElem h]; rfl)]
  rfl
theorem PR_step {text : Str} {n : Nat} (h : n < (ls text).length) : PR text n = prepC (codeAt text n) ++ PR text (n + 1) := by
  unfold PR
  rw [List.drop_eq_getElem_cons h, List.flatMap_cons, codeAt_eq h]
theorem PR_end {text : Str} {n : Nat} (h : (ls text).length ≤ n) : PR text n = [] := by
  unfold PR
  rw [List.drop_eq_nil_of_le h]; rfl
theorem ls_nil {r : Str} : (r == "") = true ↔ ls r = [] := by
  constructor
  · intro h; rw [eq_of_beq h]; rfl
  · intro h; rw [str_nil h]; rfl
theorem fill_spec (text : Str) : ∀ (f n : Nat) (r : Str), n ≤ (ls text).length → (ls text).length < n + f →
    let p := fillF text f n r
    ls r ++ PR text n = ls p.2 ++ PR text p.1 ∧ n ≤ p.1 ∧ p.1 ≤ (ls text).length ∧ (ls p.2 ≠ [] ∨ p.1 = (ls text).length) ∧ (n < p.1 → ls r = [] ∧ PR text (p.1 - 1) = PR text n) ∧ (p.1 = n → p.2 = r)
  | 0, n, r, h1, h2 => absurd h2 (by omega)
  | f + 1, n, r, h1, h2 => by
    intro p
    by_cases hc : (r == "" && decide (n < text.length)) = true
    · rw [Bool.and_eq_true] at hc
      have hr := ls_nil.mp hc.1
      have hn : n < (ls text).length := by have := of_decide_eq_true hc.2; rw [len_ls] at this; exact this
      by_cases hb : b1s.contains ((codeAt text n : Nat) : Int) = true
      · have e : p = fillF text f (n + 1) r := by
          show fillF text (f + 1) n r = _
          rw [fillF, if_pos (by rw [Bool.and_eq_true]; exact hc), if_pos hb]
        have hp : prepC (codeAt text n) = [] := by unfold prepC; rw [if_pos hb]
        have hPR : PR text n = PR text (n + 1) := by rw [PR_step hn, hp]; rfl
        obtain ⟨a, b, c, d, e2, f2⟩ := fill_spec text f (n + 1) r (by omega) (by omega)
        rw [← e] at a b c d e2 f2
        refine ⟨by rw [hPR]; exact a, by omega, c, d, fun _ => ⟨hr, ?_⟩, fun q => by omega⟩
        by_cases q : n + 1 < p.1
        · rw [(e2 q).2, hPR]
        · have : p.1 - 1 = n := by omega
          rw [this]
      · have e : p = fillF text f (n + 1) (b3f (codeAt text n)) := by
          show fillF text (f + 1) n r = _
          rw [fillF, if_pos (by rw [Bool.and_eq_true]; exact hc), if_neg hb]
        have hp : prepC (codeAt text n) = ls (b3f (codeAt text n)) := by unfold prepC; rw [if_neg hb]
        have hPR : PR text n = ls (b3f (codeAt text n)) ++ PR text (n + 1) := by rw [PR_step hn, hp]
        obtain ⟨a, b, c, d, e2, f2⟩ := fill_spec text f (n + 1) (b3f (codeAt text n)) (by omega) (by omega)
        rw [← e] at a b c d e2 f2
        refine ⟨by rw [hPR, hr]; exact a, by omega, c, d, fun _ => ⟨hr, ?_⟩, fun q => by omega⟩
        by_cases q : n + 1 < p.1
        · rw [(e2 q).2, hPR, (e2 q).1]; rfl
        · have : p.1 - 1 = n := by omega
          rw [this]
    · have e : p = (n, r) := by
        show fillF text (f + 1) n r = _
        rw [fillF, if_neg hc]
      rw [e]
      refine ⟨rfl, Nat.le_refl _, h1, ?_, fun q => absurd q (Nat.lt_irrefl _), fun _ => rfl⟩
      by_cases q : ls r = []
      · right
        have q2 := ls_nil.mpr q
        rw [q2, Bool.true_and] at hc
        have : ¬ n < text.length := fun z => hc (decide_eq_true z)
        rw [len_ls] at this
        show n = _
        omega
      · exact .inl q
/-- the stream has given k signs of the page -/
noncomputable def Inv (text : Str) (k n : Nat) (r : Str) : Prop :=
  n ≤ (ls text).length ∧ ls r ++ PR text n = (PR text 0).drop k ∧ k ≤ (PR text 0).length ∧ ((n = 0 ∧ k = 0) ∨ (0 < n ∧ (PR text 0).length < k + (PR text (n - 1)).length))
noncomputable def Fin (text : Str) (n : Nat) (r : Str) : Prop := n = (ls text).length ∧ ls r = []
theorem rd_some {text : Str} {k n : Nat} {r : Str} (I : Inv text k n r) {c : Nat} {tl : List Nat} (h : (PR text 0).drop k = c :: tl) :
    ls (rdF text n r).1 = [c] ∧ Inv text (k + 1) (rdF text n r).2.1 (rdF text n r).2.2 := by
  obtain ⟨i1, i2, i3, i4⟩ := I
  have hk : k < (PR text 0).length := by
    have := congrArg List.length h
    rw [List.length_drop, List.length_cons] at this
    omega
  have htl : (PR text 0).drop (k + 1) = tl := by
    rw [List.drop_eq_getElem_cons hk] at h
    exact (List.cons.inj h).2
  obtain ⟨a, b, c1, d, e, f⟩ := fill_spec text (text.length + 1) n r i1 (by rw [len_ls]; omega)
  unfold rdF
  generalize fillF text (text.length + 1) n r = p at a b c1 d e f ⊢
  obtain ⟨n1, r1⟩ := p
  dsimp only at a b c1 d e f ⊢
  rw [i2, h] at a
  have hne : ls r1 ≠ [] := by
    rcases d with d | d
    · exact d
    · intro q
      rw [q, PR_end (by omega)] at a
      cases a
  obtain ⟨c', t1, hr1⟩ := List.exists_cons_of_ne_nil hne
  rw [hr1, List.cons_append] at a
  obtain ⟨rfl, a2⟩ := List.cons.inj a
  refine ⟨by rw [slice_head, hr1]; rfl, c1, ?_, by omega, .inr ?_⟩
  · rw [slice_tail, hr1, htl]
    exact a2.symm
  · have hpos : 0 < n1 := by
      rcases Nat.eq_zero_or_pos n1 with z | z
      · exfalso
        have hn0 : n1 = n := by omega
        rw [f hn0] at hr1
        rcases i4 with ⟨q1, q2⟩ | ⟨q1, _⟩
        · rw [q1, q2, List.drop_zero, hr1] at i2
          have := congrArg List.length i2
          rw [List.length_append, List.length_cons] at this
          omega
        · omega
      · exact z
    refine ⟨hpos, ?_⟩
    by_cases q : n < n1
    · obtain ⟨q1, q2⟩ := e q
      rw [q2]
      rw [q1, List.nil_append] at i2
      rw [i2, List.length_drop]
      omega
    · have hn : n1 = n := by omega
      rcases i4 with ⟨q1, q2⟩ | ⟨q1, q2⟩
      · omega
      · rw [hn]; omega
theorem rd_none {text : Str} {k n : Nat} {r : Str} (I : Inv text k n r) (h : (PR text 0).drop k = []) : (rdF text n r).1 = "" ∧ Fin text (rdF text n r).2.1 (rdF text n r).2.2 := by
  obtain ⟨i1, i2, i3, i4⟩ := I
  obtain ⟨a, b, c1, d, e, f⟩ := fill_spec text (text.length + 1) n r i1 (by rw [len_ls]; omega)
  unfold rdF
  generalize fillF text (text.length + 1) n r = p at a b c1 d e f ⊢
  obtain ⟨n1, r1⟩ := p
  dsimp only at a b c1 d e f ⊢
  rw [i2, h] at a
  obtain ⟨a1, a2⟩ := List.append_eq_nil_iff.mp a.symm
  refine ⟨str_nil ?_, ?_, ?_⟩
  · show ls _ = []
    rw [slice_head, a1]; rfl
  · rcases d with d | d
    · exact absurd a1 d
    · exact d
  · show ls _ = []
    rw [slice_tail, a1]; rfl
theorem rd_fin {text : Str} {n : Nat} {r : Str} (I : Fin text n r) : (rdF text n r).1 = "" ∧ Fin text (rdF text n r).2.1 (rdF text n r).2.2 := by
  obtain ⟨i1, i2⟩ := I
  obtain ⟨a, b, c1, d, e, f⟩ := fill_spec text (text.length + 1) n r (by omega) (by rw [len_ls]; omega)
  unfold rdF
  generalize fillF text (text.length + 1) n r = p at a b c1 d e f ⊢
  obtain ⟨n1, r1⟩ := p
  dsimp only at a b c1 d e f ⊢
  have hn : n1 = n := by omega
  have hr := f hn
  subst hr
  subst hn
  exact ⟨str_nil (by show ls _ = []; rw [slice_head, i2]; rfl), i1, by show ls _ = []; rw [slice_tail, i2]; rfl⟩
theorem inv_start (text : Str) : Inv text 0 0 "" := ⟨Nat.zero_le _, rfl, Nat.zero_le _, .inl ⟨rfl, rfl⟩⟩
end
end
end
end
end
end
end
end
end
end
end
end
end
end
theorem join_tick_Wk25_0 : True := by
  w_top off
  first | walk1 | exact trivial
section
section
variable {w : World} {A : Around} {s : Shared} {R : Result → Shared → Prop}
theorem compTurn_two0 (elt t0 i0 t1 i1 : PySem.Expr) (scope : Scope) (pos : Pos) (it acc : Value) (env : Env) :
    compTurn (.ListComp elt [⟨t0, i0, [], 0⟩, ⟨t1, i1, [], 0⟩] scope pos) 0 it acc env = (standAt i0.pos >>= fun _ => pyNext it >>= fun r => match r with
      | none => pure (.done .next)
      | some v => letOwnedTupleGo t0 it v >>= fun _ => assign t0 env v >>= fun _ =>
        eval i1 env >>= fun x => standAt i1.pos >>= fun _ => foldedSetIterable i1 env x >>= fun x => holding [x] (pyIter x) >>= fun it' =>
          runOwn (.compStart (.ListComp elt [⟨t0, i0, [], 0⟩, ⟨t1, i1, [], 0⟩] scope pos) 1 it' acc env) env >>= fun _ =>
          again (.compLoop (.ListComp elt [⟨t0, i0, [], 0⟩, ⟨t1, i1, [], 0⟩] scope pos) 0 it acc env)) := by rfl
theorem compTurn_two1 (elt t0 i0 t1 i1 : PySem.Expr) (scope : Scope) (pos : Pos) (it acc : Value) (env : Env) :
    compTurn (.ListComp elt [⟨t0, i0, [], 0⟩, ⟨t1, i1, [], 0⟩] scope pos) 1 it acc env = (standAt i1.pos >>= fun _ => pyNext it >>= fun r => match r with
      | none => pure (.done .next)
      | some v => letOwnedTupleGo t1 it v >>= fun _ => assign t1 env v >>= fun _ =>
        (eval elt env >>= fun x => call (.builtin "list.append") [acc, x] >>= fun _ => pure ()) >>= fun _ =>
          again (.compLoop (.ListComp elt [⟨t0, i0, [], 0⟩, ⟨t1, i1, [], 0⟩] scope pos) 1 it acc env)) := by rfl
/-- what is left of a comprehension's loop -/
noncomputable def CR (w : World) (A : Around) (e : PySem.Expr) (depth : Nat) (it acc : Value) (cenv : Env) (R : Result → Shared → Prop) (s : Shared) : Prop := codeAny (model p0 w) A (.compLoop e depth it acc cenv) R s
theorem turn_one {elt t i : PySem.Expr} {scope : Scope} {pos : Pos} {it acc : Value} {cenv : Env}
    (h : wpAny (model p0 w) A (pyNext it) (fun r s₁ => match r with
      | none => R (.ok .next) s₁
      | some v => wpAny (model p0 w) A (letOwnedTupleGo t it v) (fun _ s₂ => wpAny (model p0 w) A (assign t cenv v) (fun _ s₃ => wpAny (model p0 w) A (eval elt cenv) (fun y s₄ =>
          wpAny (model p0 w) A (call (.builtin "list.append") [acc, y]) (fun _ s₅ => CR w A (.ListComp elt [⟨t, i, [], 0⟩] scope pos) 0 it acc cenv R s₅) (fun _ _ => False) s₄) (fun _ _ => False) s₃) (fun _ _ => False) s₂) (fun _ _ => False) s₁) (fun _ _ => False) s) :
    CR w A (.ListComp elt [⟨t, i, [], 0⟩] scope pos) 0 it acc cenv R s := by
  refine codeAny_of_tree ?_
  show wpAny _ A ((compTurn (.ListComp elt [⟨t, i, [], 0⟩] scope pos) 0 it acc cenv).onRaise (fun x => do noteFrame x cenv; theTreesLotGoes x)) _ _ s
  refine wpAny_noted ?_
  rw [compTurn_list1]
  refine wpAny_bind (wpAny_standAt (wpAny_bind (wpAny_mono h (fun r s₁ h₁ => ?_) fun _ _ x => x.elim)))
  cases r with
  | none => exact wpAny_pure h₁
  | some v =>
    refine wpAny_bind (wpAny_mono h₁ (fun _ s₂ h₂ => wpAny_bind (wpAny_mono h₂ (fun _ s₃ h₃ => wpAny_bind (wpAny_bind (wpAny_mono h₃ (fun y s₄ h₄ => wpAny_bind (wpAny_mono h₄ (fun _ s₅ h₅ => wpAny_pure ?_) fun _ _ x => x.elim)) fun _ _ x => x.elim))) fun _ _ x => x.elim)) fun _ _ x => x.elim)
    exact wpAny_pure ⟨rfl, h₅⟩
theorem turn_two1 {elt t0 i0 t1 i1 : PySem.Expr} {scope : Scope} {pos : Pos} {it acc : Value} {cenv : Env}
    (h : wpAny (model p0 w) A (pyNext it) (fun r s₁ => match r with
      | none => R (.ok .next) s₁
      | some v => wpAny (model p0 w) A (letOwnedTupleGo t1 it v) (fun _ s₂ => wpAny (model p0 w) A (assign t1 cenv v) (fun _ s₃ => wpAny (model p0 w) A (eval elt cenv) (fun y s₄ =>
          wpAny (model p0 w) A (call (.builtin "list.append") [acc, y]) (fun _ s₅ => CR w A (.ListComp elt [⟨t0, i0, [], 0⟩, ⟨t1, i1, [], 0⟩] scope pos) 1 it acc cenv R s₅) (fun _ _ => False) s₄) (fun _ _ => False) s₃) (fun _ _ => False) s₂) (fun _ _ => False) s₁) (fun _ _ => False) s) :
    CR w A (.ListComp elt [⟨t0, i0, [], 0⟩, ⟨t1, i1, [], 0⟩] scope pos) 1 it acc cenv R s := by
  refine codeAny_of_tree ?_
  show wpAny _ A ((compTurn (.ListComp elt [⟨t0, i0, [], 0⟩, ⟨t1, i1, [], 0⟩] scope pos) 1 it acc cenv).onRaise (fun x => do noteFrame x cenv; theTreesLotGoes x)) _ _ s
  refine wpAny_noted ?_
  rw [compTurn_two1]
  refine wpAny_bind (wpAny_standAt (wpAny_bind (wpAny_mono h (fun r s₁ h₁ => ?_) fun _ _ x => x.elim)))
  cases r with
  | none => exact wpAny_pure h₁
  | some v =>
    refine wpAny_bind (wpAny_mono h₁ (fun _ s₂ h₂ => wpAny_bind (wpAny_mono h₂ (fun _ s₃ h₃ => wpAny_bind (wpAny_bind (wpAny_mono h₃ (fun y s₄ h₄ => wpAny_bind (wpAny_mono h₄ (fun _ s₅ h₅ => wpAny_pure ?_) fun _ _ x => x.elim)) fun _ _ x => x.elim))) fun _ _ x => x.elim)) fun _ _ x => x.elim)
    exact wpAny_pure ⟨rfl, h₅⟩
/-- a turn of the outer loop of a comprehension with two -/
theorem turn_two0 {elt t0 i0 t1 i1 : PySem.Expr} {scope : Scope} {pos : Pos} {it acc : Value} {cenv : Env} (hs : ∀ x, foldedSetIterable i1 cenv x = pure x)
    (h : wpAny (model p0 w) A (pyNext it) (fun r s₁ => match r with
      | none => R (.ok .next) s₁
      | some v => wpAny (model p0 w) A (letOwnedTupleGo t0 it v) (fun _ s₂ => wpAny (model p0 w) A (assign t0 cenv v) (fun _ s₃ => wpAny (model p0 w) A (eval i1 cenv) (fun x s₄ => wpAny (model p0 w) A (pyIter x) (fun it' s₅ =>
          codeAny (model p0 w) A (.compStart (.ListComp elt [⟨t0, i0, [], 0⟩, ⟨t1, i1, [], 0⟩] scope pos) 1 it' acc cenv) (fun r s₆ => ∃ f, r = .ok f ∧ CR w A (.ListComp elt [⟨t0, i0, [], 0⟩, ⟨t1, i1, [], 0⟩] scope pos) 0 it acc cenv R s₆) s₅) (fun _ _ => False) s₄) (fun _ _ => False) s₃) (fun _ _ => False) s₂) (fun _ _ => False) s₁) (fun _ _ => False) s) :
    CR w A (.ListComp elt [⟨t0, i0, [], 0⟩, ⟨t1, i1, [], 0⟩] scope pos) 0 it acc cenv R s := by
  refine codeAny_of_tree ?_
  show wpAny _ A ((compTurn (.ListComp elt [⟨t0, i0, [], 0⟩, ⟨t1, i1, [], 0⟩] scope pos) 0 it acc cenv).onRaise (fun x => do noteFrame x cenv; theTreesLotGoes x)) _ _ s
  refine wpAny_noted ?_
  rw [compTurn_two0]
  refine wpAny_bind (wpAny_standAt (wpAny_bind (wpAny_mono h (fun r s₁ h₁ => ?_) fun _ _ x => x.elim)))
  cases r with
  | none => exact wpAny_pure h₁
  | some v =>
    refine wpAny_bind (wpAny_mono h₁ (fun _ s₂ h₂ => wpAny_bind (wpAny_mono h₂ (fun _ s₃ h₃ => wpAny_bind (wpAny_mono h₃ (fun x s₄ h₄ => ?_) fun _ _ x => x.elim)) fun _ _ x => x.elim)) fun _ _ x => x.elim)
    refine wpAny_bind (wpAny_standAt (wpAny_bind (wpAny_of_eq (hs x) (wpAny_bind (wpAny_holding (wpAny_mono h₄ (fun it' s₅ h₅ => ?_) fun _ _ x => x.elim))))))
    refine wpAny_bind (wpAny_runOwn (codeAny_mono h₅ fun r s₆ h₆ => ?_))
    obtain ⟨f, rfl, h₆⟩ := h₆
    exact wpAny_pure ⟨rfl, h₆⟩
/-- the inner loop's start -/
theorem start_two1 {elt t0 i0 t1 i1 : PySem.Expr} {scope : Scope} {pos : Pos} {it acc : Value} {cenv : Env} (h0 : CR w A (.ListComp elt [⟨t0, i0, [], 0⟩, ⟨t1, i1, [], 0⟩] scope pos) 1 it acc cenv R s)
    (h : wpAny (model p0 w) A (pyIter it) (fun it' s' => CR w A (.ListComp elt [⟨t0, i0, [], 0⟩, ⟨t1, i1, [], 0⟩] scope pos) 1 it' acc cenv R s') (fun _ _ => False) s) :
    codeAny (model p0 w) A (.compStart (.ListComp elt [⟨t0, i0, [], 0⟩, ⟨t1, i1, [], 0⟩] scope pos) 1 it acc cenv) R s := by
  refine codeAny_of_tree ?_
  show wpAny _ _ ((compStart (.ListComp elt [⟨t0, i0, [], 0⟩, ⟨t1, i1, [], 0⟩] scope pos) 1 it acc cenv).onRaise (fun x => do noteFrame x cenv; standAt theWindowsPlace)) _ _ s
  refine wpAny_notedAt ?_
  unfold compStart
  show wpAny _ _ (ask >>= _) _ _ s
  refine wpAny_bind (wpAny_askSetting (wpAny_ite ?_))
  split
  · first
      | exact wpAny_bind (wpAny_pure (wpAny_pure (And.intro rfl h0)))
      | exact wpAny_pure (And.intro rfl h0)
  · refine wpAny_bind (wpAny_rule ?_)
    first
      | exact wpAny_bind (wpAny_standAt (wpAny_bind (wpAny_mono h (fun it' s' h' => wpAny_pure (And.intro rfl h')) fun _ _ x => x.elim)))
      | (show wpAny _ _ (standAt i1.pos >>= _) _ _ s; exact wpAny_bind (wpAny_standAt (wpAny_bind (wpAny_mono h (fun it' s' h' => wpAny_pure (And.intro rfl h')) fun _ _ x => x.elim))))
end
section
variable {w : World} {A : Around} {s : Shared} {env : Env}
/-- a comprehension begins -/
theorem comp_begin {elt : PySem.Expr} {g : Comprehension} {gs : List Comprehension} {scope : Scope} {pos : Pos} {cl : List (Str × Addr)} {use : Option (Value → Sem Unit)} {Q : Value → Shared → Prop}
    (hs : ∀ x, foldedSetIterable g.iter env x = pure x) (hclos : closureFor scope env = pure cl) (hcell : (scope.names.all fun y => y.2 != .cell) = true) (hkind : scope.kind = .function)
    (hnames : (scope.names.all fun y => y.2 != .local || scope.names.lookup y.1 == some .local) = true)
    (h : wpAny (model p0 w) A (eval g.iter env) (fun x s₁ => wpAny (model p0 w) A (pyIter x) (fun it s₂ => ∀ D C h₁ tk, s₂.heap.get? D = none → s₂.heap.get? C = none → D ≠ C → h₁.PlainList D #[] → h₁.Ns C (fun _ => none) → (∀ b o, s₂.heap.get? b = some o → h₁.get? b = some o) →
        codeAny (model p0 w) A (.compStart (.ListComp elt (g :: gs) scope pos) 0 it (.ref D) (compEnvC scope cl C env)) (compPost (model p0 w) A (fun _ _ => False) use Q (.ref D) C) { s₂ with heap := h₁, toks := tk }) (fun _ _ => False) s₁) (fun _ _ => False) s) :
    wpAny (model p0 w) A (comprehension (.ListComp elt (g :: gs) scope pos) scope env (firstIterPos (g :: gs) pos) (newList []) false (eval g.iter env) use) Q (fun _ _ => False) s := by
  refine wpAny_comprehension_free rfl hs hclos hkind (fun y hy e => by
    have := List.all_eq_true.mp hnames y hy
    rw [e] at this
    simpa using this) (wpAny_mono h (fun xv s₁ h₁ => wpAny_mono h₁ (fun it s₂ h₂ => ?_) fun _ _ e => e) fun _ _ e => e)
  refine wpAny_newObj_type (wpAny_newFunctionEnv (fun y hy => by simpa using List.all_eq_true.mp hcell y hy) (by intro y hy; simp at hy) (fun h₁ hns₁ hsb₁ => ?_) hkind)
  dsimp only at hns₁ hsb₁ ⊢
  generalize hH2 : s₂.heap.push { cls := .type "list", dict := none, data := .seq ([] : List Value).toArray } = H2 at hns₁ hsb₁ ⊢
  have hC : H2.objs.size = s₂.heap.objs.size + 1 := by rw [← hH2, Heap.size_push]
  have hDC : s₂.heap.objs.size ≠ H2.objs.size := by rw [hC]; exact Nat.ne_of_lt (Nat.lt_succ_self _)
  have below : ∀ b, b < s₂.heap.objs.size → b ≠ H2.objs.size := fun b hb => by rw [hC]; exact Nat.ne_of_lt (Nat.lt_succ_of_lt hb)
  have old : ∀ b o, s₂.heap.get? b = some o → h₁.get? b = some o := fun b o e => hsb₁.extBut b o (below b (Heap.lt_size e)) (Heap.get?_push_of_some _ (hH2 ▸ Heap.get?_push_of_some _ e))
  have hacc : h₁.PlainList s₂.heap.objs.size #[] := ⟨_, hsb₁.extBut _ _ hDC (Heap.get?_push_of_some _ (hH2 ▸ Heap.get?_push_size _ rfl))⟩
  have fresh : ∀ a, s₂.heap.objs.size ≤ a → s₂.heap.get? a = none := fun a ha => by
    cases e : s₂.heap.get? a with
    | none => rfl
    | some o' => exact absurd (Heap.lt_size e) (Nat.not_lt.mpr ha)
  exact h₂ _ _ h₁ _ (fresh _ (Nat.le_refl _)) (fresh _ (by rw [hC]; exact Nat.le_succ _)) hDC hacc hns₁ old
end
end
theorem join_tick_Wk26_0 : True := by
  w_top off
  first | walk1 | exact trivial
section
section
variable {w : World} {A : Around} {s : Shared} {E : Value → Shared → Prop} {env : Env}
theorem asg2 {x y : Str} {px py pt : Pos} {k : Nat} {t : Addr} {u1 u2 : Value} {m : Str → Option Value} {Q : Unit → Shared → Prop} (hh : A.handled = none) (ht : IsTup s.heap t #[u1, u2]) (hn : s.heap.Ns env.locals m)
    (hx : env.kindOf x = some .local) (hy : env.kindOf y = some .local) (hp : (env.scope.kind == .class || (env.scope.kind == .module && env.locals != env.globals)) = false)
    (h : ∀ h' tk, h'.Ns env.locals (fun z => if z = y then some u2 else if z = x then some u1 else m z) → (∀ b o, b ≠ env.locals → s.heap.get? b = some o → h'.get? b = some o) → Q () { s with heap := h', toks := tk }) :
    wpAny (model p0 w) A (assign (.Tuple [.Name x px, .Name y py] k pt) env (.ref t)) Q E s := by
  refine wpAny_assign_Tuple hh ht rfl rfl fun h1 e1 => ?_
  have k1 : ∀ b o, s.heap.get? b = some o → h1.get? b = some o := fun b o e => e1 b o (Nat.ne_of_lt (Heap.lt_size e)) e
  show wpAny _ _ (holding [u2] (assign (.Name x px) env u1) >>= fun _ => assignInOrder [assign (.Name y py) env] [u2]) _ _ _
  refine wpAny_bind (wpAny_holding (wpAny_assign_Name (wpAny_storeName_local hx (hn.keeps k1) (fun h2 n2 s2 => ?_) hp)))
  show wpAny _ _ (holding [] (assign (.Name y py) env u2) >>= fun _ => assignInOrder [] []) _ _ _
  refine wpAny_bind (wpAny_holding (wpAny_assign_Name (wpAny_storeName_local hy n2 (fun h3 n3 s3 => ?_) hp)))
  exact wpAny_pure (h h3 _ n3 fun b o nb e => (s3.2 b nb).trans ((s2.2 b nb).trans (k1 b o e)))
theorem no_go {t : PySem.Expr} {I ax : Addr} {i : Nat} {v : Value} {Q : Unit → Shared → Prop} (hit : s.heap.IsListIter I ax i) (h : Q () s) : wpAny (model p0 w) A (letOwnedTupleGo t (.ref I) v) Q E s := by
  obtain ⟨o, ho, hc, hd⟩ := hit
  unfold letOwnedTupleGo
  split
  · cases v with
    | ref a =>
      show wpAny _ _ (load I >>= _) _ _ _
      refine wpAny_bind (wpAny_load ho ?_)
      rw [hc, hd]
      dsimp only
      rw [if_neg (by rw [show (["enumerate", "zip", "dict_itemiterator", "dict_reverseitemiterator", "odict_iterator", "itertools.zip_longest", "itertools.pairwise"] : List String).contains "list_iterator" = false from by decide, Bool.false_and]; decide)]
      exact wpAny_pure h
    | _ => exact wpAny_pure h
  · cases v with
    | ref a =>
      show wpAny _ _ (load I >>= _) _ _ _
      refine wpAny_bind (wpAny_load ho ?_)
      rw [hc, hd]
      dsimp only
      rw [if_neg (by rw [show (["enumerate", "zip", "dict_itemiterator", "dict_reverseitemiterator", "odict_iterator", "itertools.zip_longest", "itertools.pairwise"] : List String).contains "list_iterator" = false from by decide, Bool.false_and]; decide)]
      exact wpAny_pure h
    | _ => exact wpAny_pure h
  · exact wpAny_pure h
/-- the loop of a comprehension over a list of pairs -/
theorem pairs_loop {elt iter : PySem.Expr} {x y : Str} {px py pt pos : Pos} {k0 : Nat} {scope : Scope} {cenv : Env} {F : Value → Value → Prop} {R : Result → Shared → Prop} {I ax D : Addr} {items : Array Value} (hh : A.handled = none) (hxy : x ≠ y)
    (hx : cenv.kindOf x = some .local) (hy : cenv.kindOf y = some .local) (hp : (cenv.scope.kind == .class || (cenv.scope.kind == .module && cenv.locals != cenv.globals)) = false)
    (hsz : items.size ≤ sizeLine) (hDC : D ≠ cenv.locals) (hDI : D ≠ I) (hCI : cenv.locals ≠ I) (hxI : ax ≠ I) (hxC : ax ≠ cenv.locals) (hxD : ax ≠ D)
    (htup : ∀ v ∈ items.toList, ∃ t u1 u2, v = .ref t ∧ IsTup s.heap t #[u1, u2] ∧ t ≠ D ∧ t ≠ cenv.locals ∧ t ≠ I)
    (helt : ∀ v t u1 u2 s₃ m₃, v ∈ items.toList → v = .ref t → IsTup s.heap t #[u1, u2] → s₃.heap.Ns cenv.locals m₃ → m₃ x = some u1 → m₃ y = some u2 → (∀ b o, b ≠ D → b ≠ cenv.locals → b ≠ I → s.heap.get? b = some o → s₃.heap.get? b = some o) →
      wpAny (model p0 w) A (eval elt cenv) (fun r s₄ => F v r ∧ Keeps s₃ s₄) (fun _ _ => False) s₃)
    (fin : ∀ h' tk ys m', h'.PlainList D ys → h'.Ns cenv.locals m' → Paired F items.toList ys.toList → (∀ b o, b ≠ D → b ≠ cenv.locals → b ≠ I → s.heap.get? b = some o → h'.get? b = some o) → R (.ok .next) { s with heap := h', toks := tk }) :
    ∀ (n i : Nat) (h : Heap) (tk : Nat) (ys : Array Value) (m : Str → Option Value), i + n = items.size → h.IsListIter I ax i → h.IsList ax items → h.PlainList D ys → h.Ns cenv.locals m → Paired F (items.toList.take i) ys.toList →
      (∀ b o, b ≠ D → b ≠ cenv.locals → b ≠ I → s.heap.get? b = some o → h.get? b = some o) →
      CR w A (.ListComp elt [⟨.Tuple [.Name x px, .Name y py] k0 pt, iter, [], 0⟩] scope pos) 0 (.ref I) (.ref D) cenv R { s with heap := h, toks := tk } := by
  intro n
  induction n with
  | zero =>
    intro i h tk ys m hi hit hl hpl hn hF hk
    have hnone : items[i]? = none := by simp; omega
    refine turn_one (wpAny_pyNext_list_end hh hit hl hnone fun h1 e1 => ?_)
    have hi' : i = items.size := by omega
    rw [List.take_of_length_le (by simp [hi'])] at hF
    exact fin h1 tk ys m (hpl.at fun o e => e1 _ _ hDI e) (hn.at' fun o e => e1 _ _ hCI e) hF fun b o n1 n2 n3 e => e1 b o n3 (hk b o n1 n2 n3 e)
  | succ n ih =>
    intro i h tk ys m hi hit hl hpl hn hF hk
    have hlt : i < items.size := by omega
    have hsome : items[i]? = some items[i] := by simp [hlt]
    have hmem : items[i] ∈ items.toList := Array.getElem_mem_toList hlt
    obtain ⟨t, u1, u2, ev, ht, tD, tC, tI⟩ := htup _ hmem
    refine turn_one (wpAny_pyNext_list_item hit hl hsome fun h1 hit1 s1 => ?_)
    refine no_go hit1 ?_
    have ht1 : IsTup h1 t #[u1, u2] := by
      obtain ⟨o, e, r⟩ := ht
      exact ⟨o, s1.extBut _ _ tI (hk _ _ tD tC tI e), r⟩
    rw [ev]
    refine asg2 hh ht1 (hn.at' fun o e => s1.extBut _ _ hCI e) hx hy hp fun h2 tk2 n2 k2 => ?_
    have up2 : ∀ b o, b ≠ D → b ≠ cenv.locals → b ≠ I → s.heap.get? b = some o → h2.get? b = some o := fun b o a1 a2 a3 e => k2 b o a2 (s1.extBut b o a3 (hk b o a1 a2 a3 e))
    refine wpAny_mono (helt _ t u1 u2 { s with heap := h2, toks := tk2 } _ hmem ev ht n2 ?_ ?_ up2) (fun r s4 h4 => ?_) fun _ _ z => z
    · rw [if_neg hxy, if_pos rfl]
    · rw [if_pos rfl]
    obtain ⟨hFr, h4, tk4, rfl, k4⟩ := h4
    have hpl4 : h4.PlainList D ys := hpl.at fun o e => k4 _ _ (k2 _ _ hDC (s1.extBut _ _ hDI e))
    have hys : ys.size ≤ sizeLine := by
      have e1 := hF.length
      rw [List.length_take] at e1
      have e4 : ys.toList.length = ys.size := by simp
      omega
    refine wpAny_list_append_plain (hsz := hys) hpl4 fun h5 pl5 s5 => ?_
    have hit5 : h5.IsListIter I ax (i + 1) := hit1.at fun o e => s5.extBut _ _ (Ne.symm hDI) (k4 _ _ (k2 _ _ (Ne.symm hCI) e))
    refine ih (i + 1) h5 _ (ys.push r) _ (by omega) hit5 (hl.at fun o e => s5.extBut _ _ hxD (k4 _ _ (k2 _ _ hxC (s1.extBut _ _ hxI e)))) pl5 ((n2.keeps k4).sameBut s5 (Ne.symm hDC)) ?_ fun b o a1 a2 a3 e => s5.extBut b o a1 (k4 _ _ (up2 b o a1 a2 a3 e))
    rw [List.take_add_one, Array.getElem?_toList, hsome, Array.toList_push]
    exact Paired.snoc hF hFr
/-- a comprehension over a list of pairs -/
theorem comp_pairs {elt iter : PySem.Expr} {x y : Str} {px py pt pos : Pos} {k0 : Nat} {scope : Scope} {cl : List (Str × Addr)} {F : Value → Value → Prop} {Q : Value → Shared → Prop} (hh : A.handled = none) (hxy : x ≠ y)
    (hclos : closureFor scope env = pure cl) (hcell : (scope.names.all fun y => y.2 != .cell) = true) (hkind : scope.kind = .function)
    (hnames : (scope.names.all fun y => y.2 != .local || scope.names.lookup y.1 == some .local) = true) (hx : scope.names.lookup x = some .local) (hy : scope.names.lookup y = some .local)
    (h : wpAny (model p0 w) A (eval iter env) (fun xv s₁ => ∃ (ax : Addr) (items : Array Value), xv = .ref ax ∧ s₁.heap.IsList ax items ∧ items.size ≤ sizeLine ∧ (∀ v ∈ items.toList, ∃ t u1 u2, v = .ref t ∧ IsTup s₁.heap t #[u1, u2]) ∧
      (∀ C v t u1 u2 s₃ m₃, v ∈ items.toList → v = .ref t → IsTup s₁.heap t #[u1, u2] → s₃.heap.Ns C m₃ → m₃ x = some u1 → m₃ y = some u2 → (∀ b o, s₁.heap.get? b = some o → s₃.heap.get? b = some o) →
        wpAny (model p0 w) A (eval elt (compEnvC scope cl C env)) (fun r s₄ => F v r ∧ Keeps s₃ s₄) (fun _ _ => False) s₃) ∧
      (∀ D h' tk ys, s₁.heap.get? D = none → h'.PlainList D ys → Paired F items.toList ys.toList → (∀ b o, s₁.heap.get? b = some o → h'.get? b = some o) → Q (.ref D) { s₁ with heap := h', toks := tk })) (fun _ _ => False) s)
    (hs : ∀ x, foldedSetIterable iter env x = pure x := by intro _; rfl) :
    wpAny (model p0 w) A (eval (.ListComp elt [⟨.Tuple [.Name x px, .Name y py] k0 pt, iter, [], 0⟩] scope pos) env) Q (fun _ _ => False) s := by
  rw [eval_ListComp]
  refine comp_begin (g := ⟨.Tuple [.Name x px, .Name y py] k0 pt, iter, [], 0⟩) hs hclos hcell hkind hnames (wpAny_mono h (fun xv s₁ h₁ => ?_) fun _ _ z => z)
  obtain ⟨ax, items, rfl, hl, hsz, htup, helt, hQ⟩ := h₁
  have hax : ax < s₁.heap.objs.size := by obtain ⟨_, e, _⟩ := hl; exact Heap.lt_size e
  refine wpAny_pyIter_list hl ?_
  intro D C h₁ tk hD hC hDC hpl hns keep
  have fr : ∀ b, (s₁.heap.push { cls := .type "list_iterator", data := .fields #[.ref ax, .int 0 0] }).get? b = none → s₁.heap.get? b = none := fun b e => by
    cases q : s₁.heap.get? b with
    | none => rfl
    | some o => rw [Heap.get?_push_of_some _ q] at e; cases e
  have itI : (s₁.heap.push { cls := .type "list_iterator", data := .fields #[.ref ax, .int 0 0] }).get? s₁.heap.objs.size = some { cls := .type "list_iterator", data := .fields #[.ref ax, .int 0 0] } := Heap.get?_push_size _ rfl
  have hDI : D ≠ s₁.heap.objs.size := fun e => by
    have hD : (s₁.heap.push { cls := .type "list_iterator", data := .fields #[.ref ax, .int 0 0] }).get? D = none := hD
    rw [e, itI] at hD; cases hD
  have hCI : C ≠ s₁.heap.objs.size := fun e => by
    have hC : (s₁.heap.push { cls := .type "list_iterator", data := .fields #[.ref ax, .int 0 0] }).get? C = none := hC
    rw [e, itI] at hC; cases hC
  have keep1 : ∀ b o, s₁.heap.get? b = some o → h₁.get? b = some o := fun b o e => keep b o (Heap.get?_push_of_some _ e)
  have old : ∀ b o, s₁.heap.get? b = some o → b ≠ D ∧ b ≠ C ∧ b ≠ s₁.heap.objs.size := fun b o e => ⟨fun q => (by rw [q, fr D hD] at e; cases e), fun q => (by rw [q, fr C hC] at e; cases e), Nat.ne_of_lt (Heap.lt_size e)⟩
  have hit1 : h₁.IsListIter s₁.heap.objs.size ax 0 := ⟨_, keep _ _ itI, rfl, rfl⟩
  have hl1 : h₁.IsList ax items := hl.at fun o e => keep1 _ _ e
  have hlax := old ax _ hl.choose_spec.1
  have go : CR w A (.ListComp elt [⟨.Tuple [.Name x px, .Name y py] k0 pt, iter, [], 0⟩] scope pos) 0 (.ref s₁.heap.objs.size) (.ref D) (compEnvC scope cl C env) (compPost (model p0 w) A (fun _ _ => False) none Q (.ref D) C) { s₁ with heap := h₁, toks := tk } := by
    refine pairs_loop (s := s₁) (F := F) (items := items) (cenv := compEnvC scope cl C env) hh hxy (lookup_relabel_local hx) (lookup_relabel_local hy) (by simp [compEnvC, relabel, hkind]) hsz hDC hDI hCI hlax.2.2 hlax.2.1 hlax.1 (fun v hv => ?_) (fun v t u1 u2 s₃ m₃ hv ev ht hn e1 e2 k => ?_) (fun h' tk' ys m' pl hn hF k => ?_) items.size 0 h₁ tk #[] _ (by omega) hit1 hl1 hpl hns (by simpa using Paired.nil) (fun b o _ _ _ e => keep1 b o e)
    · obtain ⟨t, u1, u2, ev, ht⟩ := htup v hv
      have ho := old t _ ht.choose_spec.1
      exact ⟨t, u1, u2, ev, ht, ho⟩
    · exact helt C v t u1 u2 s₃ m₃ hv ev ht hn e1 e2 fun b o e => k b o (old b o e).1 (old b o e).2.1 (old b o e).2.2 e
    · refine ⟨m', hn, fun h'' hs'' => hQ D h'' tk' ys (fr D hD) (pl.at fun o e => hs''.extBut _ _ hDC e) hF fun b o e => hs''.extBut b o (old b o e).2.1 (k b o (old b o e).1 (old b o e).2.1 (old b o e).2.2 e)⟩
  refine codeAny_compStart_list go ?_
  exact wpAny_pyIter_listiter hit1 go
end
end
theorem join_tick_Wk27_0 : True := by
  w_top off
  first | walk1 | exact trivial
section
noncomputable abbrev lwNm : Str := S [108, 97, 119]
noncomputable abbrev lwCl (L : Addr) : List (Str × Addr) := [("place", L + 3), ("row", L + 2), ("pieces", L + 1)]
noncomputable abbrev lwEnv (L : Addr) : Env := envX lwNm (fScope (stm 14)) L 162 (.ref 161) (lwCl L)
/-- the law's names -/
theorem lk_fn : (fScope (stm 14)).kind = .function := by kernel_rfl!
theorem lk_script (L : Addr) : (envX lwNm (fScope (stm 14)) L 162 (.ref 161) (lwCl L)).kindOf (Str.ofString "script") = some .local := by kernel_rfl!
theorem lk_page (L : Addr) : (envX lwNm (fScope (stm 14)) L 162 (.ref 161) (lwCl L)).kindOf (Str.ofString "page") = some .local := by kernel_rfl!
theorem lk_origins (L : Addr) : (envX lwNm (fScope (stm 14)) L 162 (.ref 161) (lwCl L)).kindOf (Str.ofString "origins") = some .local := by kernel_rfl!
theorem lk_stream (L : Addr) : (envX lwNm (fScope (stm 14)) L 162 (.ref 161) (lwCl L)).kindOf (Str.ofString "stream") = some .local := by kernel_rfl!
theorem lk_taken (L : Addr) : (envX lwNm (fScope (stm 14)) L 162 (.ref 161) (lwCl L)).kindOf (Str.ofString "taken") = some .local := by kernel_rfl!
theorem lk_lexer (L : Addr) : (envX lwNm (fScope (stm 14)) L 162 (.ref 161) (lwCl L)).kindOf (Str.ofString "lexer") = some .local := by kernel_rfl!
theorem lk_token (L : Addr) : (envX lwNm (fScope (stm 14)) L 162 (.ref 161) (lwCl L)).kindOf (Str.ofString "token") = some .local := by kernel_rfl!
theorem lk_behind (L : Addr) : (envX lwNm (fScope (stm 14)) L 162 (.ref 161) (lwCl L)).kindOf (Str.ofString "behind") = some .local := by kernel_rfl!
theorem lk_far (L : Addr) : (envX lwNm (fScope (stm 14)) L 162 (.ref 161) (lwCl L)).kindOf (Str.ofString "far") = some .local := by kernel_rfl!
theorem lk_due (L : Addr) : (envX lwNm (fScope (stm 14)) L 162 (.ref 161) (lwCl L)).kindOf (Str.ofString "due") = some .local := by kernel_rfl!
theorem lk_lines (L : Addr) : (envX lwNm (fScope (stm 14)) L 162 (.ref 161) (lwCl L)).kindOf (Str.ofString "lines") = some .local := by kernel_rfl!
theorem lk_low (L : Addr) : (envX lwNm (fScope (stm 14)) L 162 (.ref 161) (lwCl L)).kindOf (Str.ofString "low") = some .local := by kernel_rfl!
theorem lk_high (L : Addr) : (envX lwNm (fScope (stm 14)) L 162 (.ref 161) (lwCl L)).kindOf (Str.ofString "high") = some .local := by kernel_rfl!
theorem lk_pieces (L : Addr) : (envX lwNm (fScope (stm 14)) L 162 (.ref 161) (lwCl L)).kindOf (Str.ofString "pieces") = some .cell := by kernel_rfl!
theorem lk_row (L : Addr) : (envX lwNm (fScope (stm 14)) L 162 (.ref 161) (lwCl L)).kindOf (Str.ofString "row") = some .cell := by kernel_rfl!
theorem lk_place (L : Addr) : (envX lwNm (fScope (stm 14)) L 162 (.ref 161) (lwCl L)).kindOf (Str.ofString "place") = some .cell := by kernel_rfl!
theorem lk_range (L : Addr) : (envX lwNm (fScope (stm 14)) L 162 (.ref 161) (lwCl L)).kindOf (Str.ofString "range") = some .globalImplicit := by kernel_rfl!
theorem lk_len (L : Addr) : (envX lwNm (fScope (stm 14)) L 162 (.ref 161) (lwCl L)).kindOf (Str.ofString "len") = some .globalImplicit := by kernel_rfl!
theorem lk_law_stream (L : Addr) : (envX lwNm (fScope (stm 14)) L 162 (.ref 161) (lwCl L)).kindOf (Str.ofString "_law_stream") = some .globalImplicit := by kernel_rfl!
theorem lk_netrclex (L : Addr) : (envX lwNm (fScope (stm 14)) L 162 (.ref 161) (lwCl L)).kindOf (Str.ofString "_netrclex") = some .globalImplicit := by kernel_rfl!
theorem lk_law_words (L : Addr) : (envX lwNm (fScope (stm 14)) L 162 (.ref 161) (lwCl L)).kindOf (Str.ofString "_law_words") = some .globalImplicit := by kernel_rfl!
theorem lk_bisect_right (L : Addr) : (envX lwNm (fScope (stm 14)) L 162 (.ref 161) (lwCl L)).kindOf (Str.ofString "bisect_right") = some .globalImplicit := by kernel_rfl!
theorem lk_bisect_left (L : Addr) : (envX lwNm (fScope (stm 14)) L 162 (.ref 161) (lwCl L)).kindOf (Str.ofString "bisect_left") = some .globalImplicit := by kernel_rfl!
theorem lk_list (L : Addr) : (envX lwNm (fScope (stm 14)) L 162 (.ref 161) (lwCl L)).kindOf (Str.ofString "list") = some .globalImplicit := by kernel_rfl!
theorem lw_env (L : Addr) : envOfC lwNm (fScope (stm 14)) L 162 (.ref 161) = lwEnv L := by
  show envX _ _ _ _ _ (cellsFrom (L + 1) (fScope (stm 14)).names []) = _
  rw [show cellsFrom (L + 1) (fScope (stm 14)).names [] = lwCl L from by kernel_rfl!]
end
theorem join_tick_Wk27_1 : True := by
  w_top off
  first | walk1 | exact trivial
section
local macro_rules | `(tactic| walk_at "eval Name") => `(tactic| k_dflt (first
  | (refine' nameX_L ?F ?v ?_ ?a ?b; (case F => k_asm); (case a => rfl); (case b => rfl); (case v => first | assumption | rfl); k_whole)
  | (refine' nameX_C ?N ?c ?m ?d ?_ ?a ?b; (case a => rfl); (case b => rfl); (case N => k_asm); (case c => rfl); (case m => k_mem); (case d => exact rfl); k_whole)
  | (refine' nameX_K ?F ?X ?T ?e ?_ ?a ?b; (case F => k_asm); (case X => k_asm); (case T => k_asm); (case a => rfl); (case b => rfl); (case e => first | with_reducible k_is | k_is); k_whole)
  | (refine' nameX_B ?F ?X ?T ?e ?v ?n ?_ ?a ?b; (case F => k_asm); (case X => k_asm); (case T => k_asm); (case a => rfl); (case b => rfl); (case e => first | with_reducible k_is | k_is); (case v => boot_fast); (case n => decide); k_whole)))
section
local macro_rules | `(tactic| walk_at "subscriptTail Name Slice ref ref") => `(tactic| refine Stop.of ?_)
section
local macro_rules | `(tactic| walk_at "binaryOp Add ref ref") => `(tactic| refine Stop.of ?_)
section
noncomputable abbrev cellO (v : Option Value) : Obj := ⟨.type "cell", none, .cell v, #[]⟩
theorem pick8 (vs : List Value) (b : Nat) : slicePick vs.toArray none (some (b : Int)) none = (vs.take b).toArray := by
  by_cases q : b ≤ vs.length
  · exact slicePick_upto vs.toArray b (by simpa using q)
  · have e : sliceBounds none (some (b : Int)) none vs.toArray.size = sliceBounds none (some ((vs.length : Nat) : Int)) none vs.toArray.size := by
      simp only [sliceBounds, Option.getD_none, List.size_toArray]
      have h1 : ¬ ((b : Int) < 0) := by omega
      have h2 : ¬ (((vs.length : Nat) : Int) < 0) := by omega
      simp only [h1, h2, if_false]
      have h3 : min (b : Int) ((vs.length : Nat) : Int) = ((vs.length : Nat) : Int) := by omega
      simp [h3]
    have e2 := slicePick_upto vs.toArray vs.length (by simp)
    unfold slicePick at e2 ⊢
    rw [e, e2]
    show ((vs.take vs.length).toArray : Array Value) = _
    rw [List.take_of_length_le (Nat.le_refl _), List.take_of_length_le (Nat.le_of_lt (Nat.lt_of_not_le q))]
theorem ints_take {vs : List Value} {ns : List Int} (k : Nat) (h : IntsAre vs ns) : IntsAre (vs.take k) (ns.take k) := by
  induction h generalizing k with
  | nil => rw [List.take_nil, List.take_nil]; exact .nil
  | cons a b _ ih =>
    cases k with
    | zero => exact .nil
    | succ k => exact .cons _ _ (ih k)
noncomputable def asgV : Stmt → PySem.Expr
  | .Assign _ e _ => e
  | _ => default
noncomputable def lcIter : PySem.Expr → PySem.Expr
  | .ListComp _ (g :: _) _ _ => g.iter
  | _ => default
set_option maxHeartbeats 4000000 in
theorem it0 {w : World} {A : Around} {g : Heap} {s : Shared} {L l : Addr} {m mg mb : Str → Option Value} {Q : Value → Shared → Prop} {vs : List Value} {ns : List Int} {news : List (Addr × Obj)} (X : (Kr w.params).In g) (T : TopRead q0 loose0 mg mb g)
    (F : Fr g L s.heap m) (hm : m "script" = some (.ref l)) (N : News g L s.heap news) (hl : g.IsList l vs.toArray) (hn : IntsAre vs ns) (hsz : ns.length ≤ 1000) (hh : A.handled = none)
    (go : ∀ h' tk D vs', Fr g L h' m → News g L h' news → h'.IsList D vs'.toArray → IntsAre vs' ([3, 5, 0, 9, 17, 4, 2, 8, 1] ++ ns.take 8) → Q (.ref D) { s with heap := h', toks := tk }) :
    wpAny (model p0 w) A (eval (lcIter (asgV (nth (fBody (stm 14)) 0))) (lwEnv L)) Q (fun _ _ => False) s := by
  have hl' := stays_list F.keep hl
  conv => arg 3; arg 1; whnf
  k_steps
  rename_i F' N' _
  have hl2 := stays_list F'.keep hl
  have hvl : vs.length = ns.length := IntsAre.length hn
  have hvs : vs.toArray.size ≤ sizeLine := by rw [sizeLine_eq, List.size_toArray]; omega
  refine Stop.go (slice_list (s := ⟨_, _, _, _, _⟩) (lo := none) (hi := some 8) F' N' hl2 .none (.int _ _) (fun h' F' N' => ?_) (by with_unfolding_all rfl) (by intro _; with_unfolding_all rfl) hvs)
  rw [show (some (8 : Int)) = some ((8 : Nat) : Int) from rfl, pick8 vs 8] at N'
  refine Stop.go (add_lists (s := ⟨_, _, _, _, _⟩) (vs := [.int 3 s.toks, .int 5 (s.toks + 1), .int 0 (s.toks + 1 + 1), .int 9 (s.toks + 1 + 1 + 1), .int 17 (s.toks + 1 + 1 + 1 + 1), .int 4 (s.toks + 1 + 1 + 1 + 1 + 1), .int 2 (s.toks + 1 + 1 + 1 + 1 + 1 + 1), .int 8 (s.toks + 1 + 1 + 1 + 1 + 1 + 1 + 1), .int 1 (s.toks + 1 + 1 + 1 + 1 + 1 + 1 + 1 + 1)]) (ws := vs.take 8) F' N' (News.isList N' (.tail _ (.head _))) (News.isList N' (.head _)) (fun h' F' N' => ?_) (by rw [sizeLine_eq, List.length_take]; simp; omega))
  refine go _ _ _ _ F' (fun p hp => N' p (.tail _ (.tail _ (.tail _ hp)))) (News.isList N' (.head _)) ?_
  exact .cons _ _ (.cons _ _ (.cons _ _ (.cons _ _ (.cons _ _ (.cons _ _ (.cons _ _ (.cons _ _ (.cons _ _ (ints_take 8 hn)))))))))
/-- the law's numbers, as they are taken -/
noncomputable def lawVs (ns : List Int) : List Nat := ([3, 5, 0, 9, 17, 4, 2, 8, 1] ++ ns.take 8).map fun (x : Int) => (x.fmod 1000000).toNat
noncomputable def lawPs (ns : List Int) : List (Str × Str) := (lawVs ns).map pieceOf
noncomputable def PieceV (h : Heap) (v : Value) (p : Str × Str) : Prop := ∃ a t1 t2, v = .ref a ∧ IsTup h a #[.str p.1 t1, .str p.2 t2]
theorem PieceV.keeps {h h' : Heap} {v : Value} {p : Str × Str} (x : PieceV h v p) (k : ∀ b o, h.get? b = some o → h'.get? b = some o) : PieceV h' v p := let ⟨a, t1, t2, e, o, ho, r⟩ := x; ⟨a, t1, t2, e, o, k _ _ ho, r⟩
noncomputable def lcElt : PySem.Expr → PySem.Expr
  | .ListComp e _ _ _ => e
  | _ => default
noncomputable def lcSc : PySem.Expr → Scope
  | .ListComp _ _ s _ => s
  | _ => default
section
variable {w : World} {A : Around} {E : Value → Shared → Prop} {g : Heap} {s : Shared} {mg mb : Str → Option Value} {cenv : Env} {x : Str} {pos : Pos} {v : Value} {Q : Value → Shared → Prop}
theorem c_glob (X : (Kr w.params).In g) (T : TopRead q0 loose0 mg mb g) (hk : ∀ b o, g.get? b = some o → s.heap.get? b = some o) (e : nsIn (Kr w.params) mainGlobals x = some (some v)) (h : Q v s)
    (hs : cenv.scope.kind = .function) (hx : cenv.kindOf x = some .globalImplicit) (hgl : cenv.globals = mainGlobals) (hd : (x == ("__debug__" : Str)) = false) : wpAny (model p0 w) A (eval (.Name x pos) cenv) Q E s :=
  Name_function_global hs hx (loadGlobal_global (by rw [hgl]; exact T.g.keeps hk) (mg_of X T.g e) h) hd
theorem c_blt (X : (Kr w.params).In g) (T : TopRead q0 loose0 mg mb g) (hk : ∀ b o, g.get? b = some o → s.heap.get? b = some o) (e : nsIn (Kr w.params) mainGlobals x = some none) (hv : bootBuiltins x = some v) (hn : x ≠ "__name__") (h : Q v s)
    (hs : cenv.scope.kind = .function) (hx : cenv.kindOf x = some .globalImplicit) (hgl : cenv.globals = mainGlobals) (hbl : cenv.builtins = builtinsNs) (hd : (x == ("__debug__" : Str)) = false) : wpAny (model p0 w) A (eval (.Name x pos) cenv) Q E s :=
  Name_function_global hs hx (loadGlobal_builtin (by rw [hgl]; exact T.g.keeps hk) (mg_none_of X T.g e) (by rw [hbl]; exact T.b.keeps hk) ((T.builtins x hn).trans hv) h) hd
theorem c_loc {m : Str → Option Value} (hn : s.heap.Ns cenv.locals m) (hm : m x = some v) (h : Q v s) (hs : cenv.scope.kind = .function) (hx : cenv.kindOf x = some .local) (hd : (x == ("__debug__" : Str)) = false) : wpAny (model p0 w) A (eval (.Name x pos) cenv) Q E s :=
  wpAny_Name (wpAny_loadName_local hs hx hn hm h) hd
end
theorem kp_145 (P : Params) : keepIn (Kr P) (.ref 145) = true := by kernel_rfl!
section
local macro_rules | `(tactic| walk_at "eval Name") => `(tactic| refine Stop.of ?_)
local macro_rules | `(tactic| walk_at "call ref") => `(tactic| refine Stop.of ?_)
local macro_rules | `(tactic| walk_at "And") => `(tactic| refine Stop.of ?_)
local macro_rules | `(tactic| k_is) => `(tactic| exact kp_145 _)
set_option maxHeartbeats 4000000 in
theorem elt0 {w : World} {A : Around} {g : Heap} {s : Shared} {C L : Addr} {m mg mb : Str → Option Value} {x : Int} {t : Tok} (X : (Kr w.params).In g) (T : TopRead q0 loose0 mg mb g) (hk : ∀ b o, g.get? b = some o → s.heap.get? b = some o)
    (hn : s.heap.Ns C m) (hm : m "x" = some (.int x t)) (hA : A.depth < 900) (hh : A.handled = none) :
    wpAny (model p0 w) A (eval (lcElt (asgV (nth (fBody (stm 14)) 0))) (compEnvC (lcSc (asgV (nth (fBody (stm 14)) 0))) [] C (lwEnv L))) (fun y s' => PieceV s'.heap y (pieceOf (x.fmod 1000000).toNat) ∧ Keeps s s') (fun _ _ => False) s := by
  conv => arg 3; arg 1; whnf
  have X' := X.keeps hk
  k_steps
  refine Stop.go (c_glob X T hk (g_law_piece _) ?_ (by kernel_rfl!) (by kernel_rfl!) (by kernel_rfl!) (by decide))
  k_steps
  refine Stop.go (c_loc hn hm ?_ (by kernel_rfl!) (by kernel_rfl!) (by decide))
  k_steps
  refine Stop.go ⟨X', ?_⟩
  have e : x.fmod (10 ^ Int.toNat 6) = (((x.fmod 1000000).toNat : Nat) : Int) := by
    show x.fmod 1000000 = _
    rw [Int.toNat_of_nonneg (Int.fmod_nonneg_of_pos x (by decide))]
  rw [e]
  refine wpAny_call (codeAny_mono (piece_code (s := ⟨s.heap, s.gens, s.drawn, s.toks + 1 + 1 + 1 + 1, s.os⟩) ⟨X', T.keeps hk⟩ hA hh) fun r s' h => ?_)
  obtain ⟨p, t1, t2, rfl, ⟨h', tk', rfl, hk'⟩, ht⟩ := h
  exact ⟨⟨p, t1, t2, rfl, ht⟩, h', tk', rfl, hk'⟩
end
theorem ints_get : ∀ {vs : List Value} {ns : List Int} {i : Nat}, IntsAre vs ns → i < ns.length → ∃ x t, ns[i]? = some x ∧ vs[i]? = some (.int x t)
  | _, _, 0, .cons n t _, _ => ⟨n, t, rfl, rfl⟩
  | _, _, i + 1, .cons _ _ h, hl => ints_get (i := i) h (Nat.lt_of_succ_lt_succ hl)
/-- the loop of the first comprehension -/
theorem pieces_loop {w : World} {A : Around} {g : Heap} {s : Shared} {mg mb : Str → Option Value} {iter : PySem.Expr} {px pos : Pos} {L I ax C D : Addr} {vs : List Value} {ns : List Int} {R : Result → Shared → Prop} (X : (Kr w.params).In g) (T : TopRead q0 loose0 mg mb g)
    (hA : A.depth < 900) (hh : A.handled = none) (hn : IntsAre vs ns) (hsz : ns.length ≤ 1000) (hDC : D ≠ C) (hDI : D ≠ I) (hCI : C ≠ I) (hxI : ax ≠ I) (hxC : ax ≠ C) (hxD : ax ≠ D) (hg : ∀ b o, g.get? b = some o → s.heap.get? b = some o ∧ b ≠ D ∧ b ≠ C ∧ b ≠ I)
    (fin : ∀ h' tk ys m', h'.PlainList D ys → h'.Ns C m' → Paired (PieceV h') ys.toList (ns.map fun x => pieceOf (x.fmod 1000000).toNat) → (∀ b o, b ≠ D → b ≠ C → b ≠ I → s.heap.get? b = some o → h'.get? b = some o) → R (.ok .next) { s with heap := h', toks := tk }) :
    ∀ (n i : Nat) (h : Heap) (tk : Nat) (ys : Array Value) (m : Str → Option Value), i + n = ns.length → h.IsListIter I ax i → h.IsList ax vs.toArray → h.PlainList D ys → h.Ns C m → Paired (PieceV h) ys.toList ((ns.take i).map fun x => pieceOf (x.fmod 1000000).toNat) →
      (∀ b o, b ≠ D → b ≠ C → b ≠ I → s.heap.get? b = some o → h.get? b = some o) →
      CR w A (.ListComp (lcElt (asgV (nth (fBody (stm 14)) 0))) [⟨.Name (Str.ofString "x") px, iter, [], 0⟩] (lcSc (asgV (nth (fBody (stm 14)) 0))) pos) 0 (.ref I) (.ref D) (compEnvC (lcSc (asgV (nth (fBody (stm 14)) 0))) [] C (lwEnv L)) R { s with heap := h, toks := tk } := by
  have hvl : vs.length = ns.length := IntsAre.length hn
  -- tuples stand while lists, names and iterators move
  have stay : ∀ {h h' : Heap} {b : Addr} {v : Value} {p : Str × Str} (cl : Value) {ob : Obj}, h.get? b = some ob → ob.cls ≠ .type "tuple" → Heap.SameBut b h h' → PieceV h v p → PieceV h' v p := by
    intro h h' b v p cl ob eb hc hs ⟨a, t1, t2, e, o, ho, hcl, r⟩
    refine ⟨a, t1, t2, e, o, ?_, hcl, r⟩
    refine (hs.2 a fun q => ?_).trans ho
    rw [q, eb] at ho
    cases ho
    exact hc hcl
  intro n
  induction n with
  | zero =>
    intro i h tk ys m hi hit hl hpl hns hF hk
    have hnone : vs.toArray[i]? = none := by simp; omega
    refine turn_one (wpAny_pyNext_list_end hh hit hl hnone fun h1 e1 => ?_)
    rw [List.take_of_length_le (by omega)] at hF
    refine fin h1 tk ys m (hpl.at fun o e => e1 _ _ hDI e) (hns.at' fun o e => e1 _ _ hCI e) ?_ fun b o n1 n2 n3 e => e1 b o n3 (hk b o n1 n2 n3 e)
    obtain ⟨oI, hoI, hcI, _⟩ := hit
    refine paired_mono (fun v p ⟨a, t1, t2, e, o, ho, hcl, r⟩ => ⟨a, t1, t2, e, o, e1 _ _ (fun q => ?_) ho, hcl, r⟩) hF
    rw [q, hoI] at ho
    cases ho
    rw [hcI] at hcl
    exact absurd hcl (by decide)
  | succ n ih =>
    intro i h tk ys m hi hit hl hpl hns hF hk
    obtain ⟨x, t, hx, hvx⟩ := ints_get (i := i) hn (by omega)
    have hsome : vs.toArray[i]? = some (.int x t) := by simpa using hvx
    refine turn_one (wpAny_pyNext_list_item hit hl hsome fun h1 hit1 s1 => ?_)
    refine no_go hit1 ?_
    have gk1 : ∀ b o, g.get? b = some o → h1.get? b = some o := fun b o e => let ⟨e0, a1, a2, a3⟩ := hg b o e; s1.extBut b o a3 (hk b o a1 a2 a3 e0)
    refine wpAny_assign_Name (wpAny_storeName_local (lookup_relabel_local (by kernel_rfl!)) (hns.at' fun o e => s1.extBut _ _ hCI e) (fun h2 n2 s2 => ?_) (by kernel_rfl!))
    have gk2 : ∀ b o, g.get? b = some o → h2.get? b = some o := fun b o e => let ⟨_, _, a2, _⟩ := hg b o e; s2.extBut b o a2 (gk1 b o e)
    refine wpAny_mono (elt0 (s := ⟨h2, s.gens, s.drawn, _, s.os⟩) X T gk2 n2 (by rw [if_pos rfl]) hA hh) (fun r s4 h4 => ?_) fun _ _ z => z
    obtain ⟨hp, h4, tk4, rfl, k4⟩ := h4
    have up2 : ∀ b o, b ≠ D → b ≠ C → b ≠ I → s.heap.get? b = some o → h2.get? b = some o := fun b o a1 a2 a3 e => s2.extBut b o a2 (s1.extBut b o a3 (hk b o a1 a2 a3 e))
    have hpl2 : h2.PlainList D ys := hpl.at fun o e => s2.extBut _ _ hDC (s1.extBut _ _ hDI e)
    have hpl4 : h4.PlainList D ys := hpl2.at fun o e => k4 _ _ e
    have hys : ys.size ≤ sizeLine := by
      have e1 := hF.length
      rw [List.length_map, List.length_take] at e1
      have e4 : ys.toList.length = ys.size := by simp
      rw [sizeLine_eq]
      omega
    refine wpAny_list_append_plain (hsz := hys) hpl4 fun h5 pl5 s5 => ?_
    have hit5 : h5.IsListIter I ax (i + 1) := hit1.at fun o e => s5.extBut _ _ (Ne.symm hDI) (k4 _ _ (s2.extBut _ _ (Ne.symm hCI) e))
    refine ih (i + 1) h5 _ (ys.push r) _ (by omega) hit5 (hl.at fun o e => s5.extBut _ _ hxD (k4 _ _ (s2.extBut _ _ hxC (s1.extBut _ _ hxI e)))) pl5 ((n2.keeps k4).sameBut s5 (Ne.symm hDC)) ?_ fun b o a1 a2 a3 e => s5.extBut b o a1 (k4 _ _ (up2 b o a1 a2 a3 e))
    obtain ⟨oI, hoI, hcI, _⟩ := hit
    obtain ⟨oC, esC, epC, hoC, hdC, _⟩ := hns
    have hoC1 := s1.extBut _ _ hCI hoC
    obtain ⟨nD, hoD⟩ := hpl4
    have notTup : ∀ {v : Value} {p : Str × Str}, PieceV h v p → PieceV h5 v p := fun {v p} q => by
      have q1 := stay (.type "list_iterator") hoI (by rw [hcI]; decide) s1 q
      have q2 : PieceV h2 v p := by
        obtain ⟨a, t1, t2, e, o, ho, hcl, ep, hda⟩ := q1
        refine ⟨a, t1, t2, e, o, (s2.2 a fun z => ?_).trans ho, hcl, ep, hda⟩
        have z : a = C := z
        rw [z, hoC1] at ho
        cases ho
        rw [hdC] at hda
        cases hda
      exact stay (.type "list") hoD (show Value.type "list" ≠ Value.type "tuple" by decide) s5 (q2.keeps k4)
    rw [List.take_add_one, hx, Array.toList_push, List.map_append]
    refine Paired.snoc (paired_mono (fun _ _ z => notTup z) hF) ?_
    exact stay (.type "list") hoD (show Value.type "list" ≠ Value.type "tuple" by decide) s5 hp
end
end
end
theorem join_tick_Wk28_0 : True := by
  w_top off
  first | walk1 | exact trivial
section
theorem e0_form : ∃ px pos, asgV (nth (fBody (stm 14)) 0) = .ListComp (lcElt (asgV (nth (fBody (stm 14)) 0))) [⟨.Name (Str.ofString "x") px, lcIter (asgV (nth (fBody (stm 14)) 0)), [], 0⟩] (lcSc (asgV (nth (fBody (stm 14)) 0))) pos := ⟨_, _, rfl⟩
theorem lawPs_eq (ns : List Int) : lawPs ns = ([3, 5, 0, 9, 17, 4, 2, 8, 1] ++ ns.take 8).map fun (x : Int) => pieceOf (x.fmod 1000000).toNat := by
  unfold lawPs lawVs
  rw [List.map_map]; rfl
theorem comp_begin1 {elt t iter : PySem.Expr} {scope : Scope} {pos : Pos} {env : Env} {w : World} {A : Around} {s : Shared} {cl : List (Str × Addr)} {Q : Value → Shared → Prop}
    (hs : ∀ x, foldedSetIterable iter env x = pure x) (hclos : closureFor scope env = pure cl) (hcell : (scope.names.all fun y => y.2 != .cell) = true) (hkind : scope.kind = .function)
    (hnames : (scope.names.all fun y => y.2 != .local || scope.names.lookup y.1 == some .local) = true)
    (h : wpAny (model p0 w) A (eval iter env) (fun x s₁ => wpAny (model p0 w) A (pyIter x) (fun it s₂ => ∀ D C h₁ tk, s₂.heap.get? D = none → s₂.heap.get? C = none → D ≠ C → h₁.PlainList D #[] → h₁.Ns C (fun _ => none) → (∀ b o, s₂.heap.get? b = some o → h₁.get? b = some o) →
        codeAny (model p0 w) A (.compStart (.ListComp elt [⟨t, iter, [], 0⟩] scope pos) 0 it (.ref D) (compEnvC scope cl C env)) (compPost (model p0 w) A (fun _ _ => False) none Q (.ref D) C) { s₂ with heap := h₁, toks := tk }) (fun _ _ => False) s₁) (fun _ _ => False) s) :
    wpAny (model p0 w) A (comprehension (.ListComp elt [⟨t, iter, [], 0⟩] scope pos) scope env (firstIterPos [⟨t, iter, [], 0⟩] pos) (newList []) (firstAsync [⟨t, iter, [], 0⟩]) (firstIter [⟨t, iter, [], 0⟩] env)) Q (fun _ _ => False) s :=
  comp_begin (g := ⟨t, iter, [], 0⟩) (gs := []) hs hclos hcell hkind hnames h
theorem start_list {elt t iter : PySem.Expr} {scope : Scope} {pos : Pos} {cenv : Env} {w : World} {A : Around} {s : Shared} {I ax : Addr} {i : Nat} {acc : Value} {R : Result → Shared → Prop} (hit : s.heap.IsListIter I ax i)
    (h : CR w A (.ListComp elt [⟨t, iter, [], 0⟩] scope pos) 0 (.ref I) acc cenv R s) : codeAny (model p0 w) A (.compStart (.ListComp elt [⟨t, iter, [], 0⟩] scope pos) 0 (.ref I) acc cenv) R s :=
  codeAny_compStart_list h (wpAny_pyIter_listiter hit h)
set_option maxHeartbeats 4000000 in
theorem comp0 {w : World} {A : Around} {g : Heap} {s : Shared} {L l : Addr} {m mg mb : Str → Option Value} {Q : Value → Shared → Prop} {vs : List Value} {ns : List Int} {news : List (Addr × Obj)} (X : (Kr w.params).In g) (T : TopRead q0 loose0 mg mb g)
    (F : Fr g L s.heap m) (hm : m "script" = some (.ref l)) (N : News g L s.heap news) (hl : g.IsList l vs.toArray) (hn : IntsAre vs ns) (hsz : ns.length ≤ 1000) (hA : A.depth < 900) (hh : A.handled = none)
    (go : ∀ h' tk D ys c, Fr g L h' m → News g L h' ((D, PySem.W.listOf ys c) :: news) → (∀ q ∈ news, q.1 ≠ D) → Paired (PieceV h') ys.toList (lawPs ns) → Q (.ref D) { s with heap := h', toks := tk }) :
    wpAny (model p0 w) A (eval (asgV (nth (fBody (stm 14)) 0)) (lwEnv L)) Q (fun _ _ => False) s := by
  obtain ⟨px, pos, e⟩ := e0_form
  rw [e, eval_ListComp]
  with_reducible refine comp_begin1 (cl := []) ?a1 ?a2 ?a3 ?a4 ?a5 ?_
  case a1 => intro _; rfl
  case a2 => kernel_rfl!
  case a3 => decide +kernel
  case a4 => kernel_rfl!
  case a5 => decide +kernel
  with_reducible refine it0 X T F hm N hl hn hsz hh fun h1 tk1 ax vs' F1 N1 hl1 hn1 => ?_
  have hax : ax < h1.objs.size := by obtain ⟨_, e, _⟩ := hl1; exact Heap.lt_size e
  with_reducible refine wpAny_pyIter_list (s := ⟨h1, s.gens, s.drawn, tk1, s.os⟩) hl1 ?_
  intro D C h₁ tk hD hC hDC hpl hns keep
  have itI : (h1.push { cls := .type "list_iterator", data := .fields #[.ref ax, .int 0 0] }).get? h1.objs.size = some { cls := .type "list_iterator", data := .fields #[.ref ax, .int 0 0] } := Heap.get?_push_size _ rfl
  have hD : (h1.push { cls := .type "list_iterator", data := .fields #[.ref ax, .int 0 0] }).get? D = none := hD
  have hC : (h1.push { cls := .type "list_iterator", data := .fields #[.ref ax, .int 0 0] }).get? C = none := hC
  have keep : ∀ b o, (h1.push { cls := .type "list_iterator", data := .fields #[.ref ax, .int 0 0] }).get? b = some o → h₁.get? b = some o := keep
  have hDI : D ≠ h1.objs.size := fun e => by rw [e, itI] at hD; cases hD
  have hCI : C ≠ h1.objs.size := fun e => by rw [e, itI] at hC; cases hC
  have fr : ∀ b, (h1.push { cls := .type "list_iterator", data := .fields #[.ref ax, .int 0 0] }).get? b = none → h1.get? b = none := fun b e => by
    cases q : h1.get? b with
    | none => rfl
    | some o => rw [Heap.get?_push_of_some _ q] at e; cases e
  have keep1 : ∀ b o, h1.get? b = some o → h₁.get? b = some o := fun b o e => keep b o (Heap.get?_push_of_some _ e)
  have old : ∀ b o, h1.get? b = some o → b ≠ D ∧ b ≠ C ∧ b ≠ h1.objs.size := fun b o e => ⟨fun q => (by rw [q, fr D hD] at e; cases e), fun q => (by rw [q, fr C hC] at e; cases e), Nat.ne_of_lt (Heap.lt_size e)⟩
  have hit1 : h₁.IsListIter h1.objs.size ax 0 := ⟨_, keep _ _ itI, rfl, rfl⟩
  have hl2 : h₁.IsList ax vs'.toArray := hl1.at fun o e => keep1 _ _ e
  have hlax := old ax _ hl1.choose_spec.1
  have hlen : ([3, 5, 0, 9, 17, 4, 2, 8, 1] ++ ns.take 8 : List Int).length ≤ 1000 := by rw [List.length_append, List.length_take]; simp; omega
  have go2 : CR w A (.ListComp (lcElt (asgV (nth (fBody (stm 14)) 0))) [⟨.Name (Str.ofString "x") px, lcIter (asgV (nth (fBody (stm 14)) 0)), [], 0⟩] (lcSc (asgV (nth (fBody (stm 14)) 0))) pos) 0 (.ref h1.objs.size) (.ref D) (compEnvC (lcSc (asgV (nth (fBody (stm 14)) 0))) [] C (lwEnv L))
      (compPost (model p0 w) A (fun _ _ => False) none Q (.ref D) C) ⟨h₁, s.gens, s.drawn, tk, s.os⟩ := by
    with_reducible refine pieces_loop (s := ⟨h1, s.gens, s.drawn, tk1, s.os⟩) X T hA hh hn1 hlen hDC hDI hCI hlax.2.2 hlax.2.1 hlax.1 (fun b o e => ⟨F1.keep b o e, old b o (F1.keep b o e)⟩) (fun h' tk' ys m' pl hns' hF k => ?_) _ 0 h₁ tk #[] _ (Nat.zero_add _) hit1 hl2 hpl hns ?pn (fun b o _ _ _ e => keep1 b o e)
    case pn => simpa using Paired.nil
    refine ⟨m', hns', fun h'' hs'' => ?_⟩
    have kk : ∀ b o, h1.get? b = some o → h''.get? b = some o := fun b o e => hs''.extBut b o (old b o e).2.1 (k b o (old b o e).1 (old b o e).2.1 (old b o e).2.2 e)
    obtain ⟨nD, pl⟩ := pl
    have hD1 := fr D hD
    refine go h'' tk' D ys nD (F1.keeps kk) (fun p hp => ?_) (fun q hq z => ?_) ?_
    · rcases List.mem_cons.mp hp with rfl | hp
      · refine ⟨hs''.extBut _ _ hDC pl, fun z => ?_, ?_⟩
        · obtain ⟨oL, _, _, eL, _⟩ := F1.ns
          have z : D = L := z
          rw [← z, hD1] at eL; cases eL
        · cases q : g.get? D with
          | none => rfl
          | some o => rw [F1.keep _ _ q] at hD1; cases hD1
      · exact ⟨kk _ _ (N1 p hp).1, (N1 p hp).2⟩
    · have := (N1 q hq).1
      rw [z] at this
      have this : h1.get? D = _ := this
      rw [hD1] at this; cases this
    · rw [lawPs_eq]
      refine paired_mono (fun v p ⟨a, t1, t2, e, o, ho, hcl, ep, hda⟩ => ⟨a, t1, t2, e, o, (hs''.2 a fun z => ?_).trans ho, hcl, ep, hda⟩) hF
      obtain ⟨oC, _, _, hoC, hdC, _⟩ := hns'
      have z : a = C := z
      rw [z, hoC] at ho
      cases ho
      rw [hdC] at hda
      cases hda
  dsimp only
  with_reducible exact start_list (s := ⟨h₁, _, _, _, _⟩) hit1 go2
end
theorem join_tick_Wk29_0 : True := by
  w_top off
  first | walk1 | exact trivial
section
theorem tup_det {h : Heap} {t : Addr} {xs ys : Array Value} (a : IsTup h t xs) (b : IsTup h t ys) : xs = ys := by
  obtain ⟨o, ho, _, n, hd⟩ := a
  obtain ⟨o', ho', _, n', hd'⟩ := b
  rw [ho] at ho'
  cases ho'
  rw [hd] at hd'
  cases hd'
  rfl
theorem strs_of {h : Heap} {f : Str × Str → Str} : ∀ {vs ys : List Value} {ps : List (Str × Str)}, Paired (PieceV h) vs ps → Paired (fun v r => ∀ p, PieceV h v p → ∃ t, r = .str (f p) t) vs ys → StrsAre ys (ps.map f) := by
  intro vs ys ps h
  induction h generalizing ys with
  | nil => intro g; cases g; exact .nil
  | cons a _ ih =>
    intro g
    cases g with
    | cons b bs =>
      obtain ⟨t, e⟩ := b _ a
      rw [e]
      exact .cons _ _ (ih bs)
theorem pieces_tups {h : Heap} : ∀ {vs : List Value} {ps : List (Str × Str)}, Paired (PieceV h) vs ps → ∀ v ∈ vs, ∃ t u1 u2, v = .ref t ∧ IsTup h t #[u1, u2] := by
  intro vs ps h
  induction h with
  | nil => intro v hv; cases hv
  | cons a _ ih =>
    intro v hv
    rcases List.mem_cons.mp hv with rfl | hv
    · obtain ⟨t, t1, t2, e, r⟩ := a
      exact ⟨t, _, _, e, r⟩
    · exact ih v hv
section
variable {w : World} {A : Around} {s : Shared} {L P : Addr} {its : Array Value} {c : Nat} {ps : List (Str × Str)} {Q : Value → Shared → Prop}
/-- a column of the pieces -/
theorem comp_proj {z : Str} {px py pt pi pe pos : Pos} {scope : Scope} (f : Str × Str → Str) (hcellP : s.heap.IsCell (L + 1) (some (.ref P))) (hP : s.heap.get? P = some (PySem.W.listOf its c)) (hps : Paired (PieceV s.heap) its.toList ps) (hsz : its.size ≤ 1000) (hh : A.handled = none)
    (hclos : closureFor scope (lwEnv L) = pure []) (hcell : (scope.names.all fun y => y.2 != .cell) = true) (hkind : scope.kind = .function)
    (hnames : (scope.names.all fun y => y.2 != .local || scope.names.lookup y.1 == some .local) = true) (hx : scope.names.lookup (Str.ofString "drawn") = some .local) (hy : scope.names.lookup (Str.ofString "meant") = some .local)
    (hz : (z = Str.ofString "drawn" ∧ ∀ p, f p = p.1) ∨ (z = Str.ofString "meant" ∧ ∀ p, f p = p.2))
    (go : ∀ h' tk D ys, h'.PlainList D ys → StrsAre ys.toList (ps.map f) → s.heap.get? D = none → (∀ b o, s.heap.get? b = some o → h'.get? b = some o) → Q (.ref D) { s with heap := h', toks := tk }) :
    wpAny (model p0 w) A (eval (.ListComp (.Name z pe) [⟨.Tuple [.Name (Str.ofString "drawn") px, .Name (Str.ofString "meant") py] 0 pt, .Name (Str.ofString "pieces") pi, [], 0⟩] scope pos) (lwEnv L)) Q (fun _ _ => False) s := by
  refine comp_pairs (cl := []) (F := fun v r => ∀ p, PieceV s.heap v p → ∃ t, r = .str (f p) t) hh (by decide) hclos hcell hkind hnames hx hy ?_
  refine wpAny_Name (wpAny_loadName_cell (c := L + 1) (by kernel_rfl!) (by kernel_rfl!) (by kernel_rfl!) hcellP ?_) (by decide)
  refine ⟨P, its, rfl, ⟨_, hP, rfl, _, rfl⟩, by rw [sizeLine_eq]; omega, pieces_tups hps, fun C v t u1 u2 s₃ m₃ hv ev ht hn e1 e2 k => ?_, fun D h' tk ys hD pl hF k => go h' tk D ys pl (strs_of hps hF) hD k⟩
  have hzl : scope.names.lookup z = some .local := by rcases hz with ⟨rfl, _⟩ | ⟨rfl, _⟩ <;> assumption
  rcases hz with ⟨rfl, hf⟩ | ⟨rfl, hf⟩
  · refine c_loc hn e1 ⟨fun p hp => ?_, _, _, rfl, fun _ _ e => e⟩ (by simp [compEnvC, relabel, hkind]) (lookup_relabel_local hzl) (by decide)
    obtain ⟨a, t1, t2, ea, hta⟩ := hp
    rw [ev] at ea
    cases ea
    have := tup_det ht hta
    rw [hf]
    cases this
    exact ⟨_, rfl⟩
  · refine c_loc hn e2 ⟨fun p hp => ?_, _, _, rfl, fun _ _ e => e⟩ (by simp [compEnvC, relabel, hkind]) (lookup_relabel_local hzl) (by decide)
    obtain ⟨a, t1, t2, ea, hta⟩ := hp
    rw [ev] at ea
    cases ea
    have := tup_det ht hta
    rw [hf]
    cases this
    exact ⟨_, rfl⟩
end
end
theorem join_tick_Wk30_0 : True := by
  w_top off
  first | walk1 | exact trivial
section
section
variable {w : World} {A : Around} {g : Heap} {s : Shared} {mg mb : Str → Option Value} {cenv : Env} {E : Value → Shared → Prop}
/-- range(e), and its iterator -/
theorem range_iter {e : PySem.Expr} {rp rpos : Pos} {N : Nat} {Q : Value → Shared → Prop} (X : (Kr w.params).In g) (T : TopRead q0 loose0 mg mb g) (hk : ∀ b o, g.get? b = some o → s.heap.get? b = some o) (hN : N ≤ 100000)
    (hs : cenv.scope.kind = .function) (hx : cenv.kindOf (Str.ofString "range") = some .globalImplicit) (hgl : cenv.globals = mainGlobals) (hbl : cenv.builtins = builtinsNs)
    (he : starEach [e] cenv = (false, eval e cenv) :: starEach [] cenv)
    (h : wpAny (model p0 w) A (eval e cenv) (fun v s₁ => ∃ t, v = .int (N : Nat) t ∧ Keeps s s₁ ∧ ∀ h' tk I, IsRangeIter h' I 0 (N : Nat) 1 → (∀ b o, s₁.heap.get? b = some o → h'.get? b = some o) → s₁.heap.get? I = none → Q (.ref I) { s₁ with heap := h', toks := tk }) E s) :
    wpAny (model p0 w) A (eval (.Call (.Name (Str.ofString "range") rp) [e] [] rpos) cenv) (fun x s₁ => wpAny (model p0 w) A (pyIter x) Q E s₁) E s := by
  refine wpAny_Call_NameR (c_blt X T hk (g_range _) (by boot_fast) (by decide) ?_ hs hx hgl hbl (by decide))
  refine PyProof.Rows.callWith_type1 ?_ he rfl
  show wpAny _ _ (spliced (backTo rpos (starEach [e] cenv))) _ _ _
  rw [he]
  refine spliced_cons (wpAny_mono h (fun v s₁ h₁ => ?_) fun _ _ z => z)
  obtain ⟨t, rfl, ⟨h1, tk1, rfl, k1⟩, go⟩ := h₁
  refine spliced_nil ?_
  refine call_range_1 ?_
  refine wpAny_pyIter_range (IsRange.new ..) (small_one (by decide) (by decide) (by omega) (by omega)) ?_
  have e1 : Builtin.Range.rangeSize 0 ((N : Nat) : Int) 1 = ((N : Nat) : Int) := by rw [rangeSize_one]; split <;> omega
  refine go _ _ _ ?_ (fun b o e => Heap.get?_push_of_some _ (Heap.get?_push_of_some _ e)) ?_
  · rw [e1]
    exact Heap.get?_push_size _ rfl
  · cases q : h1.get? _ with
    | none => rfl
    | some o =>
      have := Heap.lt_size q
      have this : (h1.push _).objs.size < h1.objs.size := this
      rw [Heap.size_push] at this
      exact absurd this (Nat.not_lt.mpr (Nat.le_succ _))
end
section
variable {w : World} {A : Around} {s : Shared} {env : Env}
/-- a comprehension over a range, of one name, without a test -/
theorem comp_range {elt iter : PySem.Expr} {x : Str} {px pos : Pos} {scope : Scope} {cl : List (Str × Addr)} {ifs : List PySem.Expr} {Q : Value → Shared → Prop} (p : Value → Bool) (F : Value → Value → Prop) (hh : A.handled = none)
    (hclos : closureFor scope env = pure cl) (hcell : (scope.names.all fun y => y.2 != .cell) = true) (hkind : scope.kind = .function)
    (hnames : (scope.names.all fun y => y.2 != .local || scope.names.lookup y.1 == some .local) = true) (hx : scope.names.lookup x = some .local) {N : Nat} (hN : N ≤ 100000)
    (h : wpAny (model p0 w) A (eval iter env) (fun xv s₁ => wpAny (model p0 w) A (pyIter xv) (fun it s₂ => ∃ I, it = .ref I ∧ IsRangeIter s₂.heap I 0 (N : Nat) 1 ∧
      (∀ C (i : Nat) t s₃ m₃, i < N → s₃.heap.Ns C m₃ → m₃ x = some (.int (i : Nat) t) → (∀ b o, b ≠ I → s₂.heap.get? b = some o → s₃.heap.get? b = some o) →
        wpAny (model p0 w) A (forIn ifs true fun c r => if r = true then do let ok ← isTrue c (compEnvC scope cl C env) (eval c (compEnvC scope cl C env)); pure (ForInStep.yield ok) else pure (ForInStep.yield r)) (fun ok s₄ => ok = p (.int (i : Nat) t) ∧ Keeps s₃ s₄) (fun _ _ => False) s₃) ∧
      (∀ C (i : Nat) t s₃ m₃, i < N → p (.int (i : Nat) t) = true → s₃.heap.Ns C m₃ → m₃ x = some (.int (i : Nat) t) → (∀ b o, b ≠ I → s₂.heap.get? b = some o → s₃.heap.get? b = some o) →
        wpAny (model p0 w) A (eval elt (compEnvC scope cl C env)) (fun y s₄ => F (.int (i : Nat) t) y ∧ Keeps s₃ s₄) (fun _ _ => False) s₃) ∧
      (∀ D h' tk ys (vs : List Value), s₂.heap.get? D = none → h'.PlainList D ys → vs.length = N → (∀ (j : Nat) (v : Value), vs[j]? = some v → ∃ t, v = Value.int (j : Nat) t) → Paired F (vs.filter p) ys.toList → (∀ b o, b ≠ I → s₂.heap.get? b = some o → h'.get? b = some o) → Q (.ref D) { s₂ with heap := h', toks := tk })) (fun _ _ => False) s₁) (fun _ _ => False) s)
    (hs : ∀ x, foldedSetIterable iter env x = pure x := by intro _; rfl) :
    wpAny (model p0 w) A (eval (.ListComp elt [⟨.Name x px, iter, ifs, 0⟩] scope pos) env) Q (fun _ _ => False) s := by
  refine wpAny_ListComp_free p F hclos (fun y hy => by simpa using List.all_eq_true.mp hcell y hy) hkind (fun y hy e => by
    have := List.all_eq_true.mp hnames y hy
    rw [e] at this
    simpa using this) hx (wpAny_mono h (fun xv s₁ h₁ => wpAny_mono h₁ (fun it s₂ h₂ => ?_) fun _ _ e => e) fun _ _ e => e) hs
  obtain ⟨I, rfl, hI, ht, he, hQ⟩ := h₂
  have lo : ∀ {b : Addr}, b ∉ [I] → b ≠ I := fun hb e => hb (by rw [e]; exact .head _)
  have low : ∀ {b : Addr}, b ≠ I → b ∉ [I] := fun hb e => by
    rcases List.mem_cons.mp e with e | e
    · exact hb e
    · cases e
  refine ⟨I, [I], [I], N, _, _, rfl, (Walks.range hh I 0 1 N).bound, by rw [sizeLine_eq]; omega, ?_, fun b hb => ?_, ⟨?_, ?_⟩, ?_⟩
  · show IsRangeIter _ I (0 + ((0 : Nat) : Int) * 1) ((N : Int) - ((0 : Nat) : Int)) 1
    simpa using hI
  · rcases List.mem_cons.mp hb with rfl | hb
    · exact Heap.lt_size hI
    · cases hb
  · rintro C i v s₃ m₃ E' _ ⟨hi, t, rfl⟩ hn hm hk _
    have e1 : (0 : Int) + (i : Int) * 1 = (i : Int) := by rw [Int.zero_add, Int.mul_one]
    rw [e1] at hm ⊢
    exact wpAny_mono (ht C i t s₃ m₃ hi hn hm fun b o hb e => hk b o (low hb) e) (fun _ _ z => z) fun _ _ z => z.elim
  · rintro C i v s₃ m₃ E' _ ⟨hi, t, rfl⟩ hp hn hm hk _
    have e1 : (0 : Int) + (i : Int) * 1 = (i : Int) := by rw [Int.zero_add, Int.mul_one]
    rw [e1] at hm hp ⊢
    exact wpAny_mono (he C i t s₃ m₃ hi hp hn hm fun b o hb e => hk b o (low hb) e) (fun _ _ z => z) fun _ _ z => z.elim
  · intro D h' tk ys vs hD hl hpl hlen hP hF hk
    refine hQ D h' tk ys vs hD hpl hlen (fun j v e => ?_) hF fun b o hb e => hk b o (low hb) e
    obtain ⟨_, t, rfl⟩ := hP j v e
    exact ⟨t, by rw [Int.zero_add, Int.mul_one]⟩
end
end
end
theorem join_tick_Wk32_0 : True := by
  w_top off
  first | walk1 | exact trivial
section
noncomputable def e3 : PySem.Expr := asgV (nth (fBody (stm 14)) 3)
noncomputable def org (ps : List (Str × Str)) (i n : Nat) : List Int := ((List.range' i n).map fun k => List.replicate ((ps.getD k default).2.length) ((k : Nat) : Int)).flatten
noncomputable abbrev cEnv3 (C L : Addr) : Env := compEnvC (lcSc e3) [("pieces", L + 1)] C (lwEnv L)
theorem ints_snoc {vs : List Value} {ns : List Int} {n : Int} {t : Tok} (h : IntsAre vs ns) : IntsAre (vs ++ [.int n t]) (ns ++ [n]) := by
  induction h with
  | nil => exact .cons _ _ .nil
  | cons a b _ ih => exact .cons _ _ ih
theorem ints_app {vs ws : List Value} {ns ms : List Int} (h : IntsAre vs ns) (k : IntsAre ws ms) : IntsAre (vs ++ ws) (ns ++ ms) := by
  induction h with
  | nil => exact k
  | cons a b _ ih => exact .cons _ _ ih
theorem org_inner {w : World} {A : Around} {s : Shared} {J D C L : Addr} {x : Str} {St : Nat → Heap → Prop} {i0 i1 : PySem.Expr} {p0' p1 pk pos : Pos} {kk : Int} {ns0 : List Int} {R : Result → Shared → Prop} (W : Walks p0 w A J [J] [J] x.cps.size (SignAt x) St) (hDC : D ≠ C) (hDJ : D ≠ J) (hCJ : C ≠ J) (hsz : ns0.length + x.cps.size ≤ 100000)
    (fin : ∀ h' tk ys m' t, h'.PlainList D ys → h'.Ns C m' → m' "k" = some (.int kk t) → IntsAre ys.toList (ns0 ++ List.replicate x.cps.size kk) → (∀ b o, b ≠ D → b ≠ C → b ≠ J → s.heap.get? b = some o → h'.get? b = some o) → R (.ok .next) { s with heap := h', toks := tk }) :
    ∀ (n i : Nat) (h : Heap) (tk : Nat) (ys : Array Value) (m : Str → Option Value) (t : Nat), i + n = x.cps.size → St i h → h.PlainList D ys → h.Ns C m → m "k" = some (.int kk t) → IntsAre ys.toList (ns0 ++ List.replicate i kk) →
      (∀ b o, b ≠ D → b ≠ C → b ≠ J → s.heap.get? b = some o → h.get? b = some o) →
      CR w A (.ListComp (.Name (Str.ofString "k") pk) [⟨.Name (Str.ofString "k") p0', i0, [], 0⟩, ⟨.Name (Str.ofString "sign") p1, i1, [], 0⟩] (lcSc e3) pos) 1 (.ref J) (.ref D) (cEnv3 C L) R { s with heap := h, toks := tk } := by
  have notJ : ∀ {b : Addr}, b ≠ J → b ∉ [J] := fun hb e => by
    rcases List.mem_cons.mp e with e | e
    · exact hb e
    · cases e
  intro n
  induction n with
  | zero =>
    intro i h tk ys m t hi hst hpl hn hm hF hk
    have hi' : i = x.cps.size := by omega
    subst hi'
    refine turn_two1 (W.done _ _ _ hst fun h1 tk1 k1 => ?_)
    exact fin h1 tk1 ys m t (hpl.at fun o e => k1 _ _ (notJ hDJ) e) (hn.at' fun o e => k1 _ _ (notJ hCJ) e) hm hF fun b o n1 n2 n3 e => k1 b o (notJ n3) (hk b o n1 n2 n3 e)
  | succ n ih =>
    intro i h tk ys m t hi hst hpl hn hm hF hk
    refine turn_two1 (W.item i _ _ _ (by omega) hst fun v h1 tk1 hv hst1 k1 => ?_)
    refine wpAny_pure ?_
    refine wpAny_assign_Name (wpAny_storeName_local (lookup_relabel_local (by kernel_rfl!)) (hn.at' fun o e => k1 _ _ (notJ hCJ) e) (fun h2 n2 s2 => ?_) (by kernel_rfl!))
    have s2 : Heap.SameBut C h1 h2 := s2
    have n2 : h2.Ns C _ := n2
    refine c_loc (v := .int kk t) n2 (by rw [if_neg (by decide)]; exact hm) ?_ (by kernel_rfl!) (by kernel_rfl!) (by decide)
    have hpl2 : h2.PlainList D ys := hpl.at fun o e => s2.extBut _ _ hDC (k1 _ _ (notJ hDJ) e)
    have hys : ys.size ≤ sizeLine := by
      have e1 := IntsAre.length hF
      rw [List.length_append, List.length_replicate] at e1
      have e4 : ys.toList.length = ys.size := by simp
      rw [sizeLine_eq]
      omega
    refine wpAny_list_append_plain (hsz := hys) hpl2 fun h3 pl3 s3 => ?_
    have hst3 : St (i + 1) h3 := W.frame _ _ _ hst1 fun b hb o e => by
      rcases List.mem_cons.mp hb with rfl | hb
      · exact s3.extBut _ _ (Ne.symm hDJ) (s2.extBut _ _ (Ne.symm hCJ) e)
      · cases hb
    refine ih (i + 1) h3 _ (ys.push (.int kk t)) _ t (by omega) hst3 pl3 (n2.sameBut s3 (Ne.symm hDC)) (by rw [if_neg (by decide)]; exact hm) ?_ fun b o a1 a2 a3 e => s3.extBut b o a1 (s2.extBut b o a2 (k1 b o (notJ a3) (hk b o a1 a2 a3 e)))
    rw [Array.toList_push, List.replicate_succ', ← List.append_assoc]
    exact ints_snoc hF
theorem e3_form : ∃ pk p0' q1 q2 q3 q4 p1 r1 r2 r3 r4 r5 pos, e3 = .ListComp (.Name (Str.ofString "k") pk) [⟨.Name (Str.ofString "k") p0', .Call (.Name (Str.ofString "range") q1) [.Call (.Name (Str.ofString "len") q2) [.Name (Str.ofString "pieces") q3] [] q4] [] r5, [], 0⟩,
    ⟨.Name (Str.ofString "sign") p1, .Subscript (.Subscript (.Name (Str.ofString "pieces") r1) (.Name (Str.ofString "k") r2) r3) (.Constant (.int 1) 0 r4) pos, [], 0⟩] (lcSc e3) ⟨167, 14, 167, 70⟩ := ⟨_, _, _, _, _, _, _, _, _, _, _, _, _, rfl⟩
/-- pieces[k][1], within a comprehension -/
theorem eval_pk {w : World} {A : Around} {s : Shared} {E : Value → Shared → Prop} {cenv : Env} {cP P : Addr} {r1 r2 r3 r4 r6 : Pos} {its : Array Value} {c i t : Nat} {p : Str × Str} {m : Str → Option Value} {Q : Value → Shared → Prop}
    (hs : cenv.scope.kind = .function) (hkp : cenv.kindOf (Str.ofString "pieces") = some .cell) (hcl : cenv.cells.lookup (Str.ofString "pieces") = some cP) (hkk : cenv.kindOf (Str.ofString "k") = some .local)
    (hcell : s.heap.IsCell cP (some (.ref P))) (hP : s.heap.get? P = some (PySem.W.listOf its c)) (hi : its.toList[i]? = some v) (hv : PieceV s.heap v p) (hb : i < 100000) (hn : s.heap.Ns cenv.locals m) (hm : m "k" = some (.int (i : Nat) t))
    (h : ∀ t' tk, Q (.str p.2 t') { s with toks := tk }) :
    wpAny (model p0 w) A (eval (.Subscript (.Subscript (.Name (Str.ofString "pieces") r1) (.Name (Str.ofString "k") r2) r3) (.Constant (.int 1) 0 r4) r6) cenv) Q E s := by
  refine Subscript_ (Subscript_ ?_)
  refine wpAny_Name (wpAny_loadName_cell hs hkp hcl hcell ?_) (by decide)
  refine c_loc hn hm ?_ hs hkk (by decide)
  obtain ⟨a, t1, t2, rfl, ht⟩ := hv
  refine item_list (items := its) ⟨_, hP, rfl, _, rfl⟩ (Int.natCast_nonneg _) (by omega) (by rw [Int.toNat_natCast, ← Array.getElem?_toList]; exact hi) ?_ (by with_unfolding_all rfl) (by intro _; with_unfolding_all rfl)
  refine wpAny_Constant_int ?_
  refine item_tupleT (l := [.str p.1 t1, .str p.2 t2]) ht (by decide) (by decide) rfl rfl ?_ (by with_unfolding_all rfl)
  exact h _ _
theorem org_succ (ps : List (Str × Str)) (i : Nat) : org ps 0 (i + 1) = org ps 0 i ++ List.replicate ((ps.getD i default).2.length) ((i : Nat) : Int) := by
  unfold org
  rw [List.range'_concat, List.map_append, List.flatten_append]
  simp
theorem org_len (ps : List (Str × Str)) (hl : ∀ p ∈ ps, p.2.length ≤ 1000) : ∀ i, i ≤ ps.length → (org ps 0 i).length ≤ 1000 * i
  | 0, _ => by simp [org]
  | i + 1, h => by
    have := org_len ps hl i (by omega)
    rw [org_succ, List.length_append, List.length_replicate]
    have hm : (ps.getD i default).2.length ≤ 1000 := by
      rw [List.getD_eq_getElem?_getD, List.getElem?_eq_getElem (by omega)]
      exact hl _ (List.getElem_mem _)
    omega
theorem paired_at {α β : Type} {F : α → β → Prop} [Inhabited β] {l : List α} {m : List β} {i : Nat} (h : Paired F l m) (hi : i < m.length) : ∃ x, l[i]? = some x ∧ F x (m.getD i default) := paired_get h hi
theorem org_outer {w : World} {A : Around} {s : Shared} {I D C L P : Addr} {i0 : PySem.Expr} {p0' p1 pk pos r1 r2 r3 r4 r6 : Pos} {its : Array Value} {c : Nat} {ps : List (Str × Str)} {R : Result → Shared → Prop} (hh : A.handled = none) (hDC : D ≠ C) (hDI : D ≠ I) (hCI : C ≠ I)
    (hcell : s.heap.IsCell (L + 1) (some (.ref P))) (hP : s.heap.get? P = some (PySem.W.listOf its c)) (hps : Paired (PieceV s.heap) its.toList ps) (hpl : ps.length ≤ 90) (hl : ∀ p ∈ ps, p.2.length ≤ 1000)
    (old : ∀ b o, s.heap.get? b = some o → b ≠ D ∧ b ≠ C ∧ b ≠ I)
    (fin : ∀ h' tk ys m', h'.PlainList D ys → h'.Ns C m' → IntsAre ys.toList (org ps 0 ps.length) → (∀ b o, s.heap.get? b = some o → h'.get? b = some o) → R (.ok .next) { s with heap := h', toks := tk }) :
    ∀ (n i : Nat) (h : Heap) (tk : Nat) (ys : Array Value) (m : Str → Option Value), i + n = ps.length → IsRangeIter h I (i : Nat) (n : Nat) 1 → h.PlainList D ys → h.Ns C m → IntsAre ys.toList (org ps 0 i) →
      (∀ b o, s.heap.get? b = some o → h.get? b = some o) →
      CR w A (.ListComp (.Name (Str.ofString "k") pk) [⟨.Name (Str.ofString "k") p0', i0, [], 0⟩, ⟨.Name (Str.ofString "sign") p1, .Subscript (.Subscript (.Name (Str.ofString "pieces") r1) (.Name (Str.ofString "k") r2) r3) (.Constant (.int 1) 0 r4) r6, [], 0⟩] (lcSc e3) pos) 0 (.ref I) (.ref D) (cEnv3 C L) R { s with heap := h, toks := tk } := by
  intro n
  induction n with
  | zero =>
    intro i h tk ys m hi hit hpl1 hn hF hk
    have hi' : i = ps.length := by omega
    subst hi'
    refine turn_two0 (by intro _; rfl) (wpAny_pyNext_range_end hh hit (by decide) fun h1 k1 => ?_)
    exact fin h1 tk ys m (hpl1.at fun o e => k1 _ _ hDI e) (hn.at' fun o e => k1 _ _ hCI e) hF fun b o e => k1 b o (old b o e).2.2 (hk b o e)
  | succ n ih =>
    intro i h tk ys m hi hit hpl1 hn hF hk
    refine turn_two0 (by intro _; rfl) (wpAny_pyNext_range_item hit (by omega) fun h1 hit1 s1 => ?_)
    refine wpAny_pure ?_
    refine wpAny_assign_Name (wpAny_storeName_local (lookup_relabel_local (by kernel_rfl!)) (hn.at' fun o e => s1.extBut _ _ hCI e) (fun h2 n2 s2 => ?_) (by kernel_rfl!))
    have s2 : Heap.SameBut C h1 h2 := s2
    have n2 : h2.Ns C _ := n2
    have k2 : ∀ b o, s.heap.get? b = some o → h2.get? b = some o := fun b o e => s2.extBut b o (old b o e).2.1 (s1.extBut b o (old b o e).2.2 (hk b o e))
    obtain ⟨v, hv, hpv⟩ := paired_at hps (i := i) (by omega)
    refine eval_pk (s := ⟨h2, s.gens, s.drawn, _, s.os⟩) (i := i) (m := fun y => if y = Str.ofString "k" then some (.int (i : Nat) tk) else m y) (by kernel_rfl!) (by kernel_rfl!) (by kernel_rfl!) (by kernel_rfl!) (hcell.keeps k2) (k2 _ _ hP) hv (hpv.keeps k2) (by omega) n2 (by rw [if_pos rfl]) fun t' tk' => ?_
    refine wpAny_pyIter_str fun oJ St hW hst => ?_
    have fresh : ∀ b o, h2.get? b = some o → b ≠ h2.objs.size := fun b o e => Nat.ne_of_lt (Heap.lt_size e)
    have upJ : ∀ b o, h2.get? b = some o → (h2.push oJ).get? b = some o := fun b o e => Heap.get?_push_of_some _ e
    have hpl2 : h2.PlainList D ys := hpl1.at fun o e => s2.extBut _ _ hDC (s1.extBut _ _ hDI e)
    have hit2 : IsRangeIter h2 I ((i + 1 : Nat) : Int) (n : Nat) 1 := by
      have e1 : ((i : Nat) : Int) + 1 = ((i + 1 : Nat) : Int) := by omega
      have e2 : ((n + 1 : Nat) : Int) - 1 = ((n : Nat) : Int) := by omega
      rw [e1, e2] at hit1
      exact s2.extBut _ _ (Ne.symm hCI) hit1
    have hDJ : D ≠ h2.objs.size := by obtain ⟨_, e⟩ := hpl2; exact fresh _ _ e
    have hCJ : C ≠ h2.objs.size := by obtain ⟨_, _, _, e, _⟩ := n2; exact fresh _ _ e
    have hIJ : I ≠ h2.objs.size := fresh _ _ hit2
    have hoff : (org ps 0 i).length + (ps.getD i default).2.cps.size ≤ 100000 := by
      have h1 := org_len ps hl i (by omega)
      have h2 : (ps.getD i default).2.length ≤ 1000 := by
        rw [List.getD_eq_getElem?_getD, List.getElem?_eq_getElem (by omega)]
        exact hl _ (List.getElem_mem _)
      have h3 : (ps.getD i default).2.cps.size ≤ 1000 := h2
      omega
    have go : CR w A (.ListComp (.Name (Str.ofString "k") pk) [⟨.Name (Str.ofString "k") p0', i0, [], 0⟩, ⟨.Name (Str.ofString "sign") p1, .Subscript (.Subscript (.Name (Str.ofString "pieces") r1) (.Name (Str.ofString "k") r2) r3) (.Constant (.int 1) 0 r4) r6, [], 0⟩] (lcSc e3) pos) 1 (.ref h2.objs.size) (.ref D) (cEnv3 C L)
        (fun r s₆ => ∃ f, r = .ok f ∧ CR w A (.ListComp (.Name (Str.ofString "k") pk) [⟨.Name (Str.ofString "k") p0', i0, [], 0⟩, ⟨.Name (Str.ofString "sign") p1, .Subscript (.Subscript (.Name (Str.ofString "pieces") r1) (.Name (Str.ofString "k") r2) r3) (.Constant (.int 1) 0 r4) r6, [], 0⟩] (lcSc e3) pos) 0 (.ref I) (.ref D) (cEnv3 C L) R s₆) ⟨h2.push oJ, s.gens, s.drawn, tk', s.os⟩ := by
      refine org_inner (s := ⟨h2.push oJ, s.gens, s.drawn, tk', s.os⟩) (kk := ((i : Nat) : Int)) (ns0 := org ps 0 i) (x := (ps.getD i default).2) (St := St) (hW A hh) hDC hDJ hCJ hoff (fun h3 tk3 ys3 m3 t3 pl3 n3 e3 i3 k3 => ⟨_, rfl, ?_⟩) _ 0 (h2.push oJ) tk' ys _ tk (Nat.zero_add _) hst (hpl2.at fun o e => upJ _ _ e) (n2.at' fun o e => upJ _ _ e) (by rw [if_pos rfl]) (by rw [List.replicate_zero, List.append_nil]; exact hF) (fun _ _ _ _ _ e => e)
      refine ih (i + 1) h3 tk3 ys3 m3 (by omega) (k3 _ _ (Ne.symm hDI) (Ne.symm hCI) hIJ (upJ _ _ hit2)) pl3 n3 (by rw [org_succ]; exact i3) fun b o e => k3 b o (old b o e).1 (old b o e).2.1 (fresh _ _ (k2 b o e)) (upJ _ _ (k2 b o e))
    exact start_two1 go ((hW A hh).self 0 _ _ _ hst go)
end
theorem join_tick_Wk31_0 : True := by
  w_top off
  first | walk1 | exact trivial
section
local macro_rules | `(tactic| walk_at "eval Name") => `(tactic| refine Stop.of ?_)
section
local macro_rules | `(tactic| walk_at "call ref") => `(tactic| refine Stop.of ?_)
section
local macro_rules | `(tactic| walk_at "eval ListComp") => `(tactic| refine Stop.of ?_)
section
local macro_rules | `(tactic| walk_at "call builtin:sum") => `(tactic| refine Stop.of ?_)
section
local macro_rules | `(tactic| walk_at "subscriptTail Name Slice ref ref") => `(tactic| refine Stop.of ?_)
section
local macro_rules | `(tactic| walk_at "And") => `(tactic| refine Stop.of ?_)
section
local macro_rules | `(tactic| walk_at "Exists") => `(tactic| refine Stop.of ?_)
section
theorem slice_plain {w : World} {A : Around} {E : Value → Shared → Prop} {s : Shared} {value slice : PySem.Expr} {l : Addr} {items : Array Value} {vl vu : Value} {lo hi : Option Int} {Q : Value → Shared → Prop} (hl : s.heap.IsList l items) (pl : IsPart vl lo) (pu : IsPart vu hi)
    (h : ∀ h' D, h'.IsList D (slicePick items lo hi none) → (∀ b o, s.heap.get? b = some o → h'.get? b = some o) → Q (.ref D) { s with heap := h' })
    (hs : subscripted slice false (.ref l) (.ref s.heap.objs.size) = operate [.ref s.heap.objs.size, .ref l] (getItem (.ref l) (.ref s.heap.objs.size)) := by with_unfolding_all rfl)
    (ht : ∀ r, letTemporaryGo value (.ref l) r = pure () := by intro _; with_unfolding_all rfl)
    (hsz : items.size ≤ sizeLine := by size_fits) :
    wpAny (model p0 w) A (subscriptTail value slice (.ref l) (.ref s.heap.objs.size)) Q E { s with heap := s.heap.push { cls := .type "slice", data := .fields #[vl, vu, .none] } } := by
  refine subscriptTail_ops (Heap.IsList.typeIs (s := { s with heap := s.heap.push { cls := .type "slice", data := .fields #[vl, vu, .none] } }) (hl.push _)) list_getitem_lookup
    (wpAny_getItem_list_slice (hl.push _) (Heap.IsSliceOf.new ..) pl pu .none (by simp) ?_ hsz) hs ht
  exact h _ _ ⟨_, Heap.get?_push_size _ rfl, rfl, _, rfl⟩ fun b o e => Heap.get?_push_of_some _ (Heap.get?_push_of_some _ e)
theorem preSum_list : ∀ (ns : List Int) (k : Nat), preSum (fun i => ns.getD i 0) k = (ns.take k).sum
  | ns, 0 => by simp [preSum]
  | ns, k + 1 => by
    rw [preSum, preSum_list ns k, List.take_add_one, List.sum_append, List.getD_eq_getElem?_getD]
    cases ns[k]? <;> simp
/-- sum of a list of ints -/
theorem sum_list {w : World} {A : Around} {E : Value → Shared → Prop} {s : Shared} {D : Addr} {ys : Array Value} {ns : List Int} {Q : Value → Shared → Prop} (hh : A.handled = none) (hl : s.heap.IsList D ys) (hn : IntsAre ys.toList ns)
    (h : ∀ h' tk t, (∀ b o, s.heap.get? b = some o → h'.get? b = some o) → Q (.int ns.sum t) { s with heap := h', toks := tk }) : wpAny (model p0 w) A (call (.builtin "sum") [.ref D]) Q E s := by
  have hD : D < s.heap.objs.size := by obtain ⟨_, e, _⟩ := hl; exact Heap.lt_size e
  have hsz : ys.size = ns.length := by rw [← Array.length_toList]; exact IntsAre.length hn
  refine call_sum_walkG (wpAny_pyIter_list hl ?_)
  refine ⟨s.heap.objs.size, [s.heap.objs.size, D], [s.heap.objs.size], ys.size, fun i v => ys[i]? = some v, fun i h => h.IsListIter s.heap.objs.size D i ∧ h.IsList D ys, fun i => ns.getD i 0, rfl, Walks.list (A := A.in1) hh s.heap.objs.size D (Nat.ne_of_lt hD) ys, ⟨⟨_, Heap.get?_push_size _ rfl, rfl, rfl⟩, hl.push _⟩, fun b hb => ?_, fun i v hv => ?_, fun h' tk t k => ?_⟩
  · show b < (s.heap.push _).objs.size
    rw [Heap.size_push]
    rcases List.mem_cons.mp hb with rfl | hb
    · exact Nat.lt_succ_self _
    · rcases List.mem_cons.mp hb with rfl | hb
      · exact Nat.lt_succ_of_lt hD
      · cases hb
  · obtain ⟨hlt, _⟩ := Array.getElem?_eq_some_iff.mp hv
    obtain ⟨x, t, e1, e2⟩ := ints_get (i := i) hn (by omega)
    rw [Array.getElem?_toList, hv] at e2
    cases e2
    exact ⟨t, by show _ = Value.int (ns.getD i 0) t; rw [List.getD_eq_getElem?_getD, e1]; rfl⟩
  · rw [preSum_list, hsz, List.take_of_length_le (Nat.le_refl _)]
    refine h h' tk t fun b o e => k b o (fun q => ?_) (Heap.get?_push_of_some _ e)
    rcases List.mem_cons.mp q with q | q
    · exact Nat.ne_of_lt (Heap.lt_size e) q
    · cases q
theorem paired_mem2 {α β : Type} {F : α → β → Prop} : ∀ {l : List α} {m : List β} {x : α}, Paired F l m → x ∈ l → ∃ y, y ∈ m ∧ F x y
  | _, _, _, .cons h _, .head _ => ⟨_, .head _, h⟩
  | _, _, _, .cons _ t, .tail _ q => let ⟨y, m, f⟩ := paired_mem2 t q; ⟨y, .tail _ m, f⟩
theorem ints_of {h : Heap} {f : Str × Str → Int} : ∀ {vs ys : List Value} {ps : List (Str × Str)}, Paired (PieceV h) vs ps → Paired (fun v r => ∀ p, PieceV h v p → ∃ t, r = .int (f p) t) vs ys → IntsAre ys (ps.map f) := by
  intro vs ys ps h
  induction h generalizing ys with
  | nil => intro g; cases g; exact .nil
  | cons a _ ih =>
    intro g
    cases g with
    | cons b bs =>
      obtain ⟨t, e⟩ := b _ a
      rw [e]
      exact .cons _ _ (ih bs)
theorem pieceV_det {h : Heap} {v : Value} {p q : Str × Str} (a : PieceV h v p) (b : PieceV h v q) : p = q := by
  obtain ⟨x, t1, t2, e, ht⟩ := a
  obtain ⟨y, u1, u2, e', ht'⟩ := b
  rw [e] at e'
  cases e'
  have := tup_det ht ht'
  obtain ⟨p1, p2⟩ := p
  obtain ⟨q1, q2⟩ := q
  cases this
  rfl
noncomputable def e2 : PySem.Expr := asgV (nth (fBody (stm 14)) 2)
set_option maxHeartbeats 4000000 in
theorem elt2 {w : World} {A : Around} {g : Heap} {s : Shared} {C L P : Addr} {m mg mb : Str → Option Value} {i : Nat} {t : Tok} {its : Array Value} {c : Nat} {ps : List (Str × Str)} (X : (Kr w.params).In g) (T : TopRead q0 loose0 mg mb g) (hk : ∀ b o, g.get? b = some o → s.heap.get? b = some o)
    (hcellP : s.heap.IsCell (L + 1) (some (.ref P))) (hP : s.heap.get? P = some (PySem.W.listOf its c)) (hps : Paired (PieceV s.heap) its.toList ps) (hsz : its.size ≤ 1000) (hlen : ∀ p ∈ ps, p.2.length ≤ 1000)
    (hn : s.heap.Ns C m) (hm : m "k" = some (.int (i : Nat) t)) (hA : A.depth < 900) (hh : A.handled = none) :
    wpAny (model p0 w) A (eval (lcElt e2) (compEnvC (lcSc e2) [("pieces", L + 1)] C (lwEnv L))) (fun y s' => (∃ t', y = .int ((ps.take i).map fun p => (p.2.length : Int)).sum t') ∧ Keeps s s') (fun _ _ => False) s := by
  have X' := X.keeps hk
  conv => arg 3; arg 1; whnf
  k_steps
  refine Stop.go (c_blt X T hk (g_sum _) (by boot_fast) (by decide) ?_ (by kernel_rfl!) (by kernel_rfl!) (by kernel_rfl!) (by kernel_rfl!) (by decide))
  k_steps
  refine Stop.go (comp_pairs (cl := []) (F := fun v r => ∀ p, PieceV s.heap v p → ∃ t', r = .int (p.2.length : Int) t') hh (by decide) (by kernel_rfl!) (by decide +kernel) (by kernel_rfl!) (by decide +kernel) (by kernel_rfl!) (by kernel_rfl!) ?_)
  k_steps
  refine Stop.go (wpAny_Name (wpAny_loadName_cell (c := L + 1) (by kernel_rfl!) (by kernel_rfl!) (by kernel_rfl!) hcellP ?_) (by decide))
  k_steps
  refine Stop.go (c_loc hn hm ?_ (by kernel_rfl!) (by kernel_rfl!) (by decide))
  k_steps
  refine Stop.go (slice_plain (s := ⟨s.heap, s.gens, s.drawn, _, s.os⟩) (lo := none) (hi := some ((i : Nat) : Int)) ⟨_, hP, rfl, _, rfl⟩ .none (.int _ _) (fun h1 ax hl1 k1 => ?_) (by with_unfolding_all rfl) (by intro _; with_unfolding_all rfl) (by rw [sizeLine_eq]; omega))
  have hpick := pick8 its.toList i
  rw [Array.toArray_toList] at hpick
  rw [hpick] at hl1
  have hps1 := paired_take i hps
  refine ⟨ax, (its.toList.take i).toArray, rfl, hl1, by rw [sizeLine_eq, List.size_toArray, List.length_take, Array.length_toList]; omega, pieces_tups (paired_mono (fun _ _ z => z.keeps k1) hps1), fun C' v t' u1 u2 s₃ m₃ hv ev ht hn' x1 x2 k => ?_, fun D h' tk ys hD pl hF k => ?_⟩
  · obtain ⟨p, hpm, hp⟩ := paired_mem2 hps1 hv
    have hp3 := (hp.keeps k1)
    obtain ⟨a, b1, b2, ea, hta⟩ := hp3
    rw [ev] at ea
    cases ea
    have := tup_det ht hta
    cases this
    have hl' := hlen p (List.mem_of_mem_take hpm)
    k_steps
    refine Stop.go (c_blt X T (fun b o e => k _ _ (k1 _ _ (hk b o e))) (g_len _) (by boot_fast) (by decide) ?_ (by kernel_rfl!) (by kernel_rfl!) (by kernel_rfl!) (by kernel_rfl!) (by decide))
    k_steps
    refine Stop.go (c_loc hn' x2 ?_ (by kernel_rfl!) (by kernel_rfl!) (by decide))
    k_steps
    refine Stop.go ⟨fun p' hp' => ?_, _, _, rfl, fun _ _ e => e⟩
    rw [pieceV_det hp' hp]
    exact ⟨_, rfl⟩
  · k_steps
    obtain ⟨nD, pl⟩ := pl
    refine Stop.go (sum_list (s := ⟨h', s.gens, s.drawn, tk, s.os⟩) hh ⟨_, pl, rfl, _, rfl⟩ (ints_of (f := fun p => (p.2.length : Int)) hps1 hF) fun h2 tk2 t2 k2 => ?_)
    exact ⟨⟨t2, rfl⟩, h2, tk2, rfl, fun b o e => k2 _ _ (k _ _ (k1 _ _ e))⟩
/-- how many prepared signs stand ahead of each drawn place -/
noncomputable def rowOf (ps : List (Str × Str)) : List Int := (List.range (ps.length + 1)).map fun k => ((ps.take k).map fun p => (p.2.length : Int)).sum
theorem e2_form : ∃ px p1 p2 p3 p4 p5 p6 p7 pos, e2 = .ListComp (lcElt e2) [⟨.Name (Str.ofString "k") px, .Call (.Name (Str.ofString "range") p1) [.BinOp (.Call (.Name (Str.ofString "len") p2) [.Name (Str.ofString "pieces") p3] [] p4) .Add (.Constant (.int 1) 0 p5) p6] [] p7, [], 0⟩] (lcSc e2) pos := ⟨_, _, _, _, _, _, _, _, _, rfl⟩
theorem row_ints (f : Nat → Int) : ∀ {vs ys : List Value} (j0 : Nat), (∀ (j : Nat) (v : Value), vs[j]? = some v → ∃ t, v = Value.int ((j0 + j : Nat) : Int) t) →
    Paired (fun v y => ∀ (i : Nat) t, v = Value.int (i : Nat) t → ∃ t', y = .int (f i) t') vs ys → IntsAre ys ((List.range' j0 vs.length).map f) := by
  intro vs ys j0 h P
  induction P generalizing j0 with
  | nil => exact .nil
  | cons a _ ih =>
    obtain ⟨t, e⟩ := h 0 _ rfl
    obtain ⟨t', e2⟩ := a _ t e
    rw [e2, List.length_cons, List.range'_succ, List.map_cons]
    exact .cons _ _ (ih (j0 + 1) (fun j v q => by
      obtain ⟨t, e⟩ := h (j + 1) v q
      exact ⟨t, by rw [e, show j0 + (j + 1) = j0 + 1 + j by omega]⟩))
theorem comp2 {w : World} {A : Around} {g : Heap} {s : Shared} {L P : Addr} {mg mb : Str → Option Value} {its : Array Value} {c : Nat} {ps : List (Str × Str)} {Q : Value → Shared → Prop} (X : (Kr w.params).In g) (T : TopRead q0 loose0 mg mb g) (hk : ∀ b o, g.get? b = some o → s.heap.get? b = some o)
    (hcellP : s.heap.IsCell (L + 1) (some (.ref P))) (hP : s.heap.get? P = some (PySem.W.listOf its c)) (hps : Paired (PieceV s.heap) its.toList ps) (hsz : its.size ≤ 1000) (hlen : ∀ p ∈ ps, p.2.length ≤ 1000) (hA : A.depth < 900) (hh : A.handled = none)
    (go : ∀ h' tk D ys, h'.PlainList D ys → IntsAre ys.toList (rowOf ps) → s.heap.get? D = none → (∀ b o, s.heap.get? b = some o → h'.get? b = some o) → Q (.ref D) { s with heap := h', toks := tk }) :
    wpAny (model p0 w) A (eval e2 (lwEnv L)) Q (fun _ _ => False) s := by
  obtain ⟨px, p1, p2, p3, p4, p5, p6, p7, pos, e⟩ := e2_form
  have hpl : its.size = ps.length := by rw [← Array.length_toList]; exact hps.length
  rw [e]
  refine comp_range (cl := [("pieces", L + 1)]) (fun _ => true) (fun v y => ∀ (i : Nat) t, v = Value.int (i : Nat) t → ∃ t', y = .int ((ps.take i).map fun p => (p.2.length : Int)).sum t') hh (by kernel_rfl!) (by decide +kernel) (by kernel_rfl!) (by decide +kernel) (by kernel_rfl!) (N := ps.length + 1) (by omega) ?_ (by intro _; rfl)
  refine range_iter (N := ps.length + 1) X T hk (by omega) (by kernel_rfl!) (by kernel_rfl!) (by kernel_rfl!) (by kernel_rfl!) rfl ?_
  have X' := X.keeps hk
  k_steps
  refine Stop.go (c_blt X T hk (g_len _) (by boot_fast) (by decide) ?_ (by kernel_rfl!) (by kernel_rfl!) (by kernel_rfl!) (by kernel_rfl!) (by decide))
  k_steps
  refine Stop.go (wpAny_Name (wpAny_loadName_cell (c := L + 1) (by kernel_rfl!) (by kernel_rfl!) (by kernel_rfl!) hcellP ?_) (by decide))
  k_steps
  refine len_list (items := its) ⟨_, hP, rfl, _, rfl⟩ (by omega) ?_
  k_steps
  refine Stop.go ⟨_, by rw [hpl]; rfl, ⟨_, _, rfl, fun _ _ e => e⟩, fun h1 tk1 I hI k1 hIn => ?_⟩
  have hIn : s.heap.get? I = none := hIn
  have hI0 : ∀ b o, s.heap.get? b = some o → b ≠ I := fun b o e q => by rw [q, hIn] at e; cases e
  refine ⟨I, rfl, hI, fun C i t s₃ m₃ hi hn hm k => wpAny_pure ⟨rfl, _, _, rfl, fun _ _ e => e⟩, fun C i t s₃ m₃ hi _ hn hm k => ?_, fun D h2 tk2 ys vs hD pl hvl hvs hF k => ?_⟩
  · have k2 : ∀ b o, s.heap.get? b = some o → s₃.heap.get? b = some o := fun b o e => k b o (hI0 b o e) (k1 b o e)
    refine wpAny_mono (elt2 X T (fun b o e => k2 _ _ (hk b o e)) (hcellP.keeps k2) (k2 _ _ hP) (paired_mono (fun _ _ z => z.keeps k2) hps) hsz hlen hn hm hA hh) (fun y s4 h4 => ⟨fun i' t' q => ?_, h4.2⟩) fun _ _ z => z
    obtain ⟨q1, _⟩ := Value.int.inj q
    have q2 : i = i' := Int.ofNat.inj q1
    subst q2
    exact h4.1
  · have k2 : ∀ b o, s.heap.get? b = some o → h2.get? b = some o := fun b o e => k b o (hI0 b o e) (k1 b o e)
    refine go h2 tk2 D ys pl ?_ ?_ k2
    · rw [List.filter_eq_self.mpr fun _ _ => rfl] at hF
      have := row_ints (fun i => ((ps.take i).map fun p => (p.2.length : Int)).sum) 0 (fun j v e => by rw [Nat.zero_add]; exact hvs j v e) hF
      rw [hvl, ← List.range_eq_range'] at this
      exact this
    · cases q : s.heap.get? D with
      | none => rfl
      | some o =>
        have hD : h1.get? D = none := hD
        rw [k1 _ _ q] at hD; cases hD
end
theorem join_tick_Wk33_0 : True := by
  w_top off
  first | walk1 | exact trivial
section
set_option maxHeartbeats 4000000 in
theorem asg3 {w : World} {A : Around} {g : Heap} {s : Shared} {L P : Addr} {m mg mb : Str → Option Value} {its : Array Value} {c : Nat} {ps : List (Str × Str)} {Q : Flow → Shared → Prop} (X : (Kr w.params).In g) (T : TopRead q0 loose0 mg mb g) (hk : ∀ b o, g.get? b = some o → s.heap.get? b = some o)
    (hcellP : s.heap.IsCell (L + 1) (some (.ref P))) (hP : s.heap.get? P = some (PySem.W.listOf its c)) (hps : Paired (PieceV s.heap) its.toList ps) (hsz : ps.length ≤ 90) (hlen : ∀ p ∈ ps, p.2.length ≤ 1000) (hh : A.handled = none)
    (hL : s.heap.Ns L m)
    (go : ∀ h' tk D ys, h'.PlainList D ys → IntsAre ys.toList (org ps 0 ps.length) → s.heap.get? D = none → h'.Ns L (fun z => if z = Str.ofString "origins" then some (.ref D) else m z) → (∀ b o, b ≠ L → s.heap.get? b = some o → h'.get? b = some o) → Q .next { s with heap := h', toks := tk }) :
    wpAny (model p0 w) A (exec (nth (fBody (stm 14)) 3) (lwEnv L)) Q (fun _ _ => False) s := by
  obtain ⟨pk, p0', q1, q2, q3, q4, p1, r1, r2, r3, r4, r5, pos, e⟩ := e3_form
  have hst : ∃ py spos, nth (fBody (stm 14)) 3 = .Assign [.Name (Str.ofString "origins") py] e3 spos ∧ swapsWith e3 (some (.Name (Str.ofString "origins") py)) spos.line (lwEnv L) = pure true := ⟨_, _, rfl, by kernel_rfl!⟩
  obtain ⟨py, spos, est, hsw⟩ := hst
  rw [est, exec_Assign_Name_used _ _ _ _ hsw]
  refine wpAny_bind (wpAny_standAt (wpAny_bind ?_))
  rw [e]
  show wpAny _ A (do let _ ← comprehension (.ListComp _ _ (lcSc e3) ⟨167, 14, 167, 70⟩) (lcSc e3) (lwEnv L) _ (newList []) false (eval _ (lwEnv L)) (some (assign (.Name (Str.ofString "origins") py) (lwEnv L)))) _ _ s
  refine wpAny_bind (wpAny_mono (comp_begin (cl := [("pieces", L + 1)]) (use := some (assign (.Name (Str.ofString "origins") py) (lwEnv L))) (Q := fun _ s' => Q .next s') (by intro _; rfl) (by kernel_rfl!) (by decide +kernel) (by kernel_rfl!) (by decide +kernel) ?_) (fun _ s' hq => wpAny_pure (wpAny_pure hq)) fun _ _ e => e)
  refine range_iter (N := ps.length) X T hk (by omega) (by kernel_rfl!) (by kernel_rfl!) (by kernel_rfl!) (by kernel_rfl!) rfl ?_
  have hpl : its.size = ps.length := by rw [← Array.length_toList]; exact hps.length
  k_steps
  refine Stop.go (c_blt X T hk (g_len _) (by boot_fast) (by decide) ?_ (by kernel_rfl!) (by kernel_rfl!) (by kernel_rfl!) (by kernel_rfl!) (by decide))
  k_steps
  refine Stop.go (wpAny_Name (wpAny_loadName_cell (c := L + 1) (by kernel_rfl!) (by kernel_rfl!) (by kernel_rfl!) hcellP ?_) (by decide))
  k_steps
  refine len_list (items := its) ⟨_, hP, rfl, _, rfl⟩ (by omega) ?_
  k_steps
  refine Stop.go ⟨_, by rw [hpl], ⟨_, _, rfl, fun _ _ e => e⟩, fun h1 tk1 I hI k1 hIn => ?_⟩
  have hIn : s.heap.get? I = none := hIn
  have k1 : ∀ b o, s.heap.get? b = some o → h1.get? b = some o := k1
  intro D C h2 tk2 hD hC hDC pl2 n2 k2
  have hD : h1.get? D = none := hD
  have hC : h1.get? C = none := hC
  have k2 : ∀ b o, h1.get? b = some o → h2.get? b = some o := k2
  have hDI : D ≠ I := fun q => by rw [q] at hD; have hI : IsRangeIter h1 I 0 (ps.length : Nat) 1 := hI; rw [show h1.get? I = some _ from hI] at hD; cases hD
  have hCI : C ≠ I := fun q => by rw [q] at hC; have hI : IsRangeIter h1 I 0 (ps.length : Nat) 1 := hI; rw [show h1.get? I = some _ from hI] at hC; cases hC
  have k3 : ∀ b o, s.heap.get? b = some o → h2.get? b = some o := fun b o e => k2 b o (k1 b o e)
  have hI2 : IsRangeIter h2 I 0 (ps.length : Nat) 1 := k2 _ _ hI
  obtain ⟨oL, hoL⟩ : ∃ o, s.heap.get? L = some o := by obtain ⟨o, _, _, ho, _⟩ := hL; exact ⟨o, ho⟩
  have hLD : L ≠ D := fun q => by rw [← q, k1 _ _ hoL] at hD; cases hD
  have hLC : L ≠ C := fun q => by rw [← q, k1 _ _ hoL] at hC; cases hC
  have hDn : s.heap.get? D = none := by
    cases q : s.heap.get? D with
    | none => rfl
    | some o => rw [k1 _ _ q] at hD; cases hD
  refine (fun loop => codeAny_compStart_list loop (wpAny_pyIter_rangeiter hI2 loop)) ?loop
  case loop =>
    refine org_outer (s := ⟨s.heap, _, _, tk2, _⟩) hh hDC hDI hCI hcellP hP hps hsz hlen ?_ ?_ ps.length 0 h2 tk2 #[] _ (by omega) (by simpa using hI2) pl2 n2 (by show IntsAre [] _; unfold org; exact .nil) k3
    · intro b o e'
      have e' : s.heap.get? b = some o := e'
      exact ⟨fun q => (by rw [q, hDn] at e'; cases e'), fun q => (by rw [← q, k1 _ _ e'] at hC; cases hC), fun q => (by rw [q, hIn] at e'; cases e')⟩
    · intro h3 tk3 ys m3 pl3 n3 i3 k4
      show wpAny _ A (assign (.Name (Str.ofString "origins") py) (lwEnv L) (.ref D)) _ _ _
      refine wpAny_assign_Name (wpAny_storeName_local (by kernel_rfl!) (hL.at' fun o e => k4 _ o e) (fun h₂ hn₂ hs₂ => ?_) (by kernel_rfl!))
      refine ⟨m3, n3.sameBut hs₂ (Ne.symm hLC), fun h₃ hs₃ => ?_⟩
      exact go h₃ _ D ys ((pl3.extBut hs₂.extBut (Ne.symm hLD)).extBut hs₃.extBut hDC) i3 hDn (hn₂.sameBut hs₃ hLC) fun b o hbL e =>
        hs₃.extBut b o (by rintro rfl; rw [k1 _ _ e] at hC; cases hC) (hs₂.extBut b o hbL (k4 b o e))
end
theorem join_tick_Wk45_0 : True := by
  w_top off
  first | walk1 | exact trivial
section
local macro_rules | `(tactic| walk_at "ite") => `(tactic| k_dflt (refine Stop.of ?_))
section
local macro_rules | `(tactic| walk_at "subscriptTail") => `(tactic| k_dflt (refine Stop.of ?_))
section
local macro_rules | `(tactic| walk_at "subscriptTail Name Name ref int") => `(tactic| k_dflt (refine Stop.of ?_))
section
local macro_rules | `(tactic| walk_at "subscriptTail Subscript Constant ref int") => `(tactic| k_dflt (refine Stop.of ?_))
section
noncomputable def ifT : Stmt → PySem.Expr
  | .If t _ _ _ => t
  | _ => default
noncomputable def cmpR : PySem.Expr → PySem.Expr
  | .Compare _ _ (r :: _) _ => r
  | _ => default
noncomputable def lcIf : PySem.Expr → PySem.Expr
  | .ListComp _ (g :: _) _ _ => match g.ifs with
    | c :: _ => c
    | [] => default
  | _ => default
noncomputable def plB : List Stmt := forB (nth (fBody (stm 14)) 7)
theorem ints_at {vs : List Value} {ns : List Int} {i : Nat} {x : Int} (h : IntsAre vs ns) : ns[i]? = some x → ∃ t, vs[i]? = some (.int x t) := by
  induction h generalizing i with
  | nil => intro e; cases e
  | cons n t _ ih =>
    cases i with
    | zero => exact fun e => ⟨t, by rw [← Option.some.inj (show some n = some _ from e)]; rfl⟩
    | succ i => exact fun e => ih e
noncomputable def e7 : PySem.Expr := cmpR (ifT (nth plB 2))
theorem e7_form : ∃ pk px p1 p2 p3 p4 p5 pos, e7 = .ListComp (.Name (Str.ofString "k") pk) [⟨.Name (Str.ofString "k") px, .Call (.Name (Str.ofString "range") p1) [.Call (.Name (Str.ofString "len") p2) [.Name (Str.ofString "pieces") p3] [] p4] [] p5, [lcIf e7], 0⟩] (lcSc e7) pos := ⟨_, _, _, _, _, _, _, _, rfl⟩
theorem t7_form : ∃ r1 r2 r3 r4 r5 r6 r7 r8 r9 ra rb rc rd, lcIf e7 = .BoolOp .And [.Compare (.Subscript (.Subscript (.Name (Str.ofString "pieces") r1) (.Name (Str.ofString "k") r2) r3) (.Constant (.int 1) 0 r4) r5) [.Eq] [.Constant (.str (Str.ofString "")) 0 r6] r7, .Compare (.Subscript (.Name (Str.ofString "row") r8) (.Name (Str.ofString "k") r9) ra) [.Eq] [.Name (Str.ofString "place") rb] rc] rd := ⟨_, _, _, _, _, _, _, _, _, _, _, _, _, rfl⟩
set_option maxHeartbeats 4000000 in
theorem tst7 {w : World} {A : Around} {s : Shared} {C L P R' : Addr} {m : Str → Option Value} {i : Nat} {t tp : Tok} {its itsR : Array Value} {c : Nat} {ps : List (Str × Str)} {rl : List Int} {place : Nat} {x : Int}
    (hcellP : s.heap.IsCell (L + 1) (some (.ref P))) (hP : s.heap.get? P = some (PySem.W.listOf its c)) (hps : Paired (PieceV s.heap) its.toList ps) (hcR : s.heap.IsCell (L + 2) (some (.ref R'))) (hR : s.heap.IsList R' itsR) (IR : IntsAre itsR.toList rl) (hc3 : s.heap.IsCell (L + 3) (some (.int (place : Nat) tp)))
    (hi : i < ps.length) (hpl : ps.length ≤ 90) (hx : rl[i]? = some x) (hn : s.heap.Ns C m) (hm : m "k" = some (.int (i : Nat) t)) (hA : A.depth < 900) (hh : A.handled = none) :
    wpAny (model p0 w) A (PySem.isTrue (lcIf e7) (compEnvC (lcSc e7) [("row", L + 2), ("place", L + 3), ("pieces", L + 1)] C (lwEnv L)) (eval (lcIf e7) (compEnvC (lcSc e7) [("row", L + 2), ("place", L + 3), ("pieces", L + 1)] C (lwEnv L)))) (fun ok s' => ok = ((ps.getD i default).2 == (Str.ofString "") && decide (x = (place : Nat))) ∧ Keeps s s') (fun _ _ => False) s := by
  obtain ⟨r1, r2, r3, r4, r5, r6, r7, r8, r9, ra, rb, rc, rd, e⟩ := t7_form
  rw [e]
  obtain ⟨v, hv, hpv⟩ := paired_at hps hi
  obtain ⟨td, hx1⟩ := ints_at IR hx
  obtain ⟨av, u1, u2, rfl, htv⟩ := hpv
  k_steps
  refine Stop.go (wpAny_Name (wpAny_loadName_cell (c := L + 1) (by kernel_rfl!) (by kernel_rfl!) (by kernel_rfl!) hcellP ?_) (by decide))
  k_steps
  refine Stop.go (c_loc hn hm ?_ (by kernel_rfl!) (by kernel_rfl!) (by decide))
  k_steps
  refine Stop.go (item_list (items := its) ⟨_, hP, rfl, _, rfl⟩ (Int.natCast_nonneg _) (by omega) (by rw [Int.toNat_natCast, ← Array.getElem?_toList]; exact hv) ?_ (by with_unfolding_all rfl) (by intro _; with_unfolding_all rfl))
  k_steps
  refine Stop.go (item_tupleT (l := [.str _ u1, .str _ u2]) htv (by decide) (by decide) rfl rfl ?_ (by with_unfolding_all rfl))
  k_steps
  refine Stop.go ?_
  split
  · rename_i hq
    k_steps
    refine Stop.go (wpAny_Name (wpAny_loadName_cell (c := L + 2) (by kernel_rfl!) (by kernel_rfl!) (by kernel_rfl!) hcR ?_) (by decide))
    k_steps
    refine Stop.go (c_loc hn hm ?_ (by kernel_rfl!) (by kernel_rfl!) (by decide))
    k_steps
    refine Stop.go (item_list (items := itsR) hR (Int.natCast_nonneg _) (by omega) (by rw [Int.toNat_natCast, ← Array.getElem?_toList]; exact hx1) ?_ (by with_unfolding_all rfl) (by intro _; with_unfolding_all rfl))
    k_steps
    refine Stop.go (wpAny_Name (wpAny_loadName_cell (c := L + 3) (by kernel_rfl!) (by kernel_rfl!) (by kernel_rfl!) hc3 ?_) (by decide))
    k_steps
    refine Stop.go ?_
    split
    · rename_i hz
      k_steps
      refine Stop.go ⟨?_, _, _, rfl, fun _ _ e => e⟩
      rw [hq, Bool.true_and, decide_eq_true (beq_iff_eq.mp hz)]
    · rename_i hz
      refine ⟨?_, _, _, rfl, fun _ _ e => e⟩
      rw [hq, Bool.true_and, decide_eq_false (fun e => hz (by rw [e]; exact beq_self_eq_true _))]
  · rename_i hq
    refine ⟨?_, _, _, rfl, fun _ _ e => e⟩
    rw [Bool.not_eq_true] at hq
    rw [hq, Bool.false_and]
/-- the drawn places that mean nothing and stand here -/
noncomputable def kList (ps : List (Str × Str)) (rl : List Int) (place : Nat) : List Int := ((List.range ps.length).filter fun k => (ps.getD k default).2 == (Str.ofString "") && decide (rl.getD k 0 = (place : Nat))).map fun (k : Nat) => ((k : Nat) : Int)
theorem k_ints (q : Nat → Bool) (p : Value → Bool) (hp : ∀ (i : Nat) t, p (.int (i : Nat) t) = q i) : ∀ {vs ys : List Value} (j0 : Nat), (∀ (j : Nat) (v : Value), vs[j]? = some v → ∃ t, v = Value.int ((j0 + j : Nat) : Int) t) →
    Paired (fun v y => v = y) (vs.filter p) ys → IntsAre ys (((List.range' j0 vs.length).filter q).map fun (k : Nat) => ((k : Nat) : Int)) := by
  intro vs
  induction vs with
  | nil =>
    intro ys j0 _ h
    cases h
    exact .nil
  | cons v vs ih =>
    intro ys j0 hv h
    obtain ⟨t, e⟩ := hv 0 v rfl
    rw [Nat.add_zero] at e
    have hv' : ∀ (j : Nat) (v : Value), vs[j]? = some v → ∃ t, v = Value.int ((j0 + 1 + j : Nat) : Int) t := fun j v e => by
      obtain ⟨t, e⟩ := hv (j + 1) v e
      exact ⟨t, by rw [e, show j0 + (j + 1) = j0 + 1 + j by omega]⟩
    rw [List.length_cons, List.range'_succ]
    rw [List.filter_cons] at h
    rw [List.filter_cons]
    have e2 := hp j0 t
    rw [← e] at e2
    rw [e2] at h
    cases hq : q j0 with
    | true =>
      rw [hq, if_pos rfl] at h
      rw [if_pos rfl, List.map_cons]
      cases h with
      | cons h1 h2 =>
        rw [← h1, e]
        exact .cons _ _ (ih (j0 + 1) hv' h2)
    | false =>
      rw [hq] at h
      simp only [Bool.false_eq_true, if_false] at h ⊢
      exact ih (j0 + 1) hv' h
noncomputable def pV (q : Nat → Bool) : Value → Bool
  | .int x _ => q x.toNat
  | _ => false
theorem comp7 {w : World} {A : Around} {g : Heap} {s : Shared} {L P R' : Addr} {mg mb : Str → Option Value} {its itsR : Array Value} {c : Nat} {ps : List (Str × Str)} {rl : List Int} {place : Nat} {tp : Tok} {Q : Value → Shared → Prop} (X : (Kr w.params).In g) (T : TopRead q0 loose0 mg mb g) (hk : ∀ b o, g.get? b = some o → s.heap.get? b = some o)
    (hcellP : s.heap.IsCell (L + 1) (some (.ref P))) (hP : s.heap.get? P = some (PySem.W.listOf its c)) (hps : Paired (PieceV s.heap) its.toList ps) (hpl : ps.length ≤ 90) (hcR : s.heap.IsCell (L + 2) (some (.ref R'))) (hR : s.heap.IsList R' itsR) (IR : IntsAre itsR.toList rl) (hc3 : s.heap.IsCell (L + 3) (some (.int (place : Nat) tp)))
    (hrl : ps.length ≤ rl.length) (hA : A.depth < 900) (hh : A.handled = none)
    (go : ∀ h' tk D ys, h'.PlainList D ys → IntsAre ys.toList (kList ps rl place) → s.heap.get? D = none → (∀ b o, s.heap.get? b = some o → h'.get? b = some o) → Q (.ref D) { s with heap := h', toks := tk }) :
    wpAny (model p0 w) A (eval e7 (lwEnv L)) Q (fun _ _ => False) s := by
  obtain ⟨pk, px, p1, p2, p3, p4, p5, pos, e⟩ := e7_form
  have hpl' : its.size = ps.length := by rw [← Array.length_toList]; exact hps.length
  rw [e]
  refine comp_range (cl := [("row", L + 2), ("place", L + 3), ("pieces", L + 1)]) (pV fun k => (ps.getD k default).2 == (Str.ofString "") && decide (rl.getD k 0 = (place : Nat))) (fun v y => v = y) hh (by kernel_rfl!) (by decide +kernel) (by kernel_rfl!) (by decide +kernel) (by kernel_rfl!) (N := ps.length) (by omega) ?_ (by intro _; rfl)
  refine range_iter (N := ps.length) X T hk (by omega) (by kernel_rfl!) (by kernel_rfl!) (by kernel_rfl!) (by kernel_rfl!) rfl ?_
  have X' := X.keeps hk
  k_steps
  refine Stop.go (c_blt X T hk (g_len _) (by boot_fast) (by decide) ?_ (by kernel_rfl!) (by kernel_rfl!) (by kernel_rfl!) (by kernel_rfl!) (by decide))
  k_steps
  refine Stop.go (wpAny_Name (wpAny_loadName_cell (c := L + 1) (by kernel_rfl!) (by kernel_rfl!) (by kernel_rfl!) hcellP ?_) (by decide))
  k_steps
  refine len_list (items := its) ⟨_, hP, rfl, _, rfl⟩ (by omega) ?_
  k_steps
  refine Stop.go ⟨_, by rw [hpl'], ⟨_, _, rfl, fun _ _ e => e⟩, fun h1 tk1 I hI k1 hIn => ?_⟩
  have hIn : s.heap.get? I = none := hIn
  have hI0 : ∀ b o, s.heap.get? b = some o → b ≠ I := fun b o e q => by rw [q, hIn] at e; cases e
  refine ⟨I, rfl, hI, fun C i t s₃ m₃ hi hn hm k => ?_, fun C i t s₃ m₃ hi _ hn hm k => ?_, fun D h2 tk2 ys vs hD pl hvl hvs hF k => ?_⟩
  · have k2 : ∀ b o, s.heap.get? b = some o → s₃.heap.get? b = some o := fun b o e => k b o (hI0 b o e) (k1 b o e)
    have hx : rl[i]? = some (rl.getD i 0) := by
      rw [List.getD_eq_getElem?_getD, List.getElem?_eq_getElem (by omega)]
      rfl
    refine wpAny_tests_one (wpAny_mono (tst7 (hcellP.keeps k2) (k2 _ _ hP) (paired_mono (fun _ _ z => z.keeps k2) hps) (hcR.keeps k2) (stays_list k2 hR) IR (hc3.keeps k2) hi hpl hx hn hm hA hh) (fun ok s4 h4 => ⟨?_, h4.2⟩) fun _ _ z => z)
    rw [h4.1]
    show _ = (_ && _)
    rw [Int.toNat_natCast]
  · exact c_loc hn hm ⟨rfl, _, _, rfl, fun _ _ e => e⟩ (by kernel_rfl!) (by kernel_rfl!) (by decide)
  · have k2 : ∀ b o, s.heap.get? b = some o → h2.get? b = some o := fun b o e => k b o (hI0 b o e) (k1 b o e)
    refine go h2 tk2 D ys pl ?_ ?_ k2
    · have := k_ints (fun k => (ps.getD k default).2 == (Str.ofString "") && decide (rl.getD k 0 = (place : Nat))) (pV fun k => (ps.getD k default).2 == (Str.ofString "") && decide (rl.getD k 0 = (place : Nat))) (fun i t => by show (_ && _) = _; rw [Int.toNat_natCast]) 0 (fun j v e => by rw [Nat.zero_add]; exact hvs j v e) hF
      rw [hvl, ← List.range_eq_range'] at this
      exact this
    · cases q : s.heap.get? D with
      | none => rfl
      | some o =>
        have hD : h1.get? D = none := hD
        rw [k1 _ _ q] at hD; cases hD
end
end
end
end
end
end
end
end
end
end
end
end
end
end
theorem join_tick_Wk34_0 : True := by
  w_top off
  first | walk1 | exact trivial
section
local macro_rules | `(tactic| walk_at "eval Name") => `(tactic| k_dflt (first
  | (refine' nameX_L ?F ?v ?_ ?a ?b; (case F => k_asm); (case a => rfl); (case b => rfl); (case v => first | assumption | rfl); k_whole)
  | (refine' nameX_C ?N ?c ?m ?d ?_ ?a ?b; (case a => rfl); (case b => rfl); (case N => k_asm); (case c => rfl); (case m => k_mem); (case d => exact rfl); k_whole)
  | (refine' nameX_K ?F ?X ?T ?e ?_ ?a ?b; (case F => k_asm); (case X => k_asm); (case T => k_asm); (case a => rfl); (case b => rfl); (case e => first | with_reducible k_is | k_is); k_whole)
  | (refine' nameX_B ?F ?X ?T ?e ?v ?n ?_ ?a ?b; (case F => k_asm); (case X => k_asm); (case T => k_asm); (case a => rfl); (case b => rfl); (case e => first | with_reducible k_is | k_is); (case v => boot_fast); (case n => decide); k_whole)))
section
local macro_rules | `(tactic| walk_at "eval ListComp") => `(tactic| k_dflt (refine Stop.of ?_))
section
local macro_rules | `(tactic| walk_at "call ref") => `(tactic| k_dflt (refine Stop.of ?_))
section
local macro_rules | `(tactic| walk_at "exec Assign cons ListComp") => `(tactic| k_dflt (refine Stop.of ?_))
section
local macro_rules | `(tactic| walk_at "call builtin:str.join") => `(tactic| k_dflt (refine Stop.of ?_))
section
local macro_rules | `(tactic| walk_at "callWith ref") => `(tactic| k_dflt (refine Stop.of ?_))
section
noncomputable def Tups (tups : List (Addr × Obj)) : Prop := ∀ q ∈ tups, q.2.cls = .type "tuple" ∧ ∃ xs n, q.2.data = .seq xs n
/-- a tuple of the floor, or one of the ledger -/
noncomputable def TupIn (g : Heap) (tups : List (Addr × Obj)) (a : Addr) (items : Array Value) : Prop := IsTup g a items ∨ ∃ o, (a, o) ∈ tups ∧ o.cls = .type "tuple" ∧ ∃ n, o.data = .seq items n
noncomputable def RefIn {β : Type} (g : Heap) (G : Array Value → β → Prop) (tups : List (Addr × Obj)) (v : Value) (p : β) : Prop := ∃ a items, v = .ref a ∧ TupIn g tups a items ∧ G items p
noncomputable def RefOf {β : Type} (h : Heap) (G : Array Value → β → Prop) (v : Value) (p : β) : Prop := ∃ a items, v = .ref a ∧ IsTup h a items ∧ G items p
theorem TupIn.more {g : Heap} {t t' : List (Addr × Obj)} {a : Addr} {items : Array Value} (x : TupIn g t a items) (k : ∀ q ∈ t, q ∈ t') : TupIn g t' a items :=
  x.imp id fun ⟨o, m, r⟩ => ⟨o, k _ m, r⟩
theorem RefIn.more {β : Type} {g : Heap} {G : Array Value → β → Prop} {t t' : List (Addr × Obj)} {v : Value} {p : β} (x : RefIn g G t v p) (k : ∀ q ∈ t, q ∈ t') : RefIn g G t' v p :=
  let ⟨a, i, e, z, r⟩ := x; ⟨a, i, e, z.more k, r⟩
theorem RefIn.of {β : Type} {g h : Heap} {L : Addr} {m : Str → Option Value} {G : Array Value → β → Prop} {tups news : List (Addr × Obj)} {v : Value} {p : β} (x : RefIn g G tups v p) (F : Fr g L h m) (N : News g L h news) (k : ∀ q ∈ tups, q ∈ news) : RefOf h G v p := by
  obtain ⟨a, items, e, z, r⟩ := x
  refine ⟨a, items, e, ?_, r⟩
  rcases z with z | ⟨o, ho, r⟩
  · exact z.keeps F.keep
  · exact ⟨o, (N _ (k _ ho)).1, r⟩
theorem tups_of {β : Type} {g h : Heap} {L : Addr} {m : Str → Option Value} {G : Array Value → β → Prop} (F : Fr g L h m) {vs : List Value} {ps : List β} (P : Paired (RefOf h G) vs ps) : ∃ tups, News g L h tups ∧ Tups tups ∧ Paired (RefIn g G tups) vs ps := by
  induction P with
  | nil => exact ⟨[], News.nil, (fun _ h => (nomatch h)), .nil⟩
  | cons x _ ih =>
    obtain ⟨tups, N, T, P⟩ := ih
    obtain ⟨a, items, e, z, r⟩ := x
    have hL := F.tup_ne z
    cases q : g.get? a with
    | some o =>
      refine ⟨tups, N, T, .cons ⟨a, items, e, .inl ?_, r⟩ P⟩
      obtain ⟨o', ho', r'⟩ := z
      rw [F.keep _ _ q] at ho'
      cases ho'
      exact ⟨_, q, r'⟩
    | none =>
      obtain ⟨o', ho', hc, n, hd⟩ := z
      refine ⟨(a, o') :: tups, fun p hp => ?_, fun p hp => ?_, .cons ⟨a, items, e, .inr ⟨o', .head _, hc, n, hd⟩, r⟩ (paired_mono (fun _ _ x => x.more fun _ h => .tail _ h) P)⟩
      · rcases List.mem_cons.mp hp with rfl | hp
        · exact ⟨ho', hL, q⟩
        · exact N p hp
      · rcases List.mem_cons.mp hp with rfl | hp
        · exact ⟨hc, _, _, hd⟩
        · exact T p hp
/-- no tuple of the ledger stands where another kind stands -/
theorem tups_ne {g h : Heap} {L : Addr} {tups : List (Addr × Obj)} {a : Addr} {o : Obj} (T : Tups tups) (N : News g L h tups) (ho : h.get? a = some o) (hc : o.cls ≠ .type "tuple") : ∀ q ∈ tups, q.1 ≠ a := fun q hq e => by
  have h1 := (N q hq).1
  rw [e, ho] at h1
  exact hc (by rw [Option.some.inj h1]; exact (T q hq).1)
noncomputable def PairS (items : Array Value) (p : Str × Str) : Prop := ∃ t1 t2, items = #[.str p.1 t1, .str p.2 t2]
noncomputable def WordS (items : Array Value) (c : Str × Option Nat) : Prop := ∃ t1 b, items = #[.str c.1 t1, b] ∧ match c.2 with
  | none => b = .none
  | some n => ∃ t, b = .int (n : Nat) t
theorem pieceV_iff {h : Heap} {v : Value} {p : Str × Str} : PieceV h v p ↔ RefOf h PairS v p :=
  ⟨fun ⟨a, t1, t2, e, z⟩ => ⟨a, _, e, z, t1, t2, rfl⟩, fun ⟨a, _, e, z, t1, t2, q⟩ => ⟨a, t1, t2, e, q ▸ z⟩⟩
theorem wordOf_iff {h : Heap} {v : Value} {c : Str × Option Nat} : WordOf h v c ↔ RefOf h WordS v c :=
  ⟨fun ⟨a, t1, b, e, z, r⟩ => ⟨a, _, e, z, t1, b, rfl, r⟩, fun ⟨a, _, e, z, t1, b, q, r⟩ => ⟨a, t1, b, e, q ▸ z, r⟩⟩
end
theorem join_tick_Wk35_0 : True := by
  w_top off
  first | walk1 | exact trivial
section
theorem ev_as {e e' : PySem.Expr} {env : Env} {w : World} {A : Around} {Q : Value → Shared → Prop} {E : Value → Shared → Prop} {s : Shared} (q : e = e') (h : wpAny (model p0 w) A (eval e' env) Q E s) : wpAny (model p0 w) A (eval e env) Q E s := q ▸ h
noncomputable abbrev pageOf (ps : List (Str × Str)) : Str := Txt.join "" (ps.map fun p => p.2)
noncomputable abbrev textOf (ps : List (Str × Str)) : Str := Txt.join "" (ps.map fun p => p.1)
theorem join_small {ps : List (Str × Str)} {f : Str × Str → Str} (h : ∀ p ∈ ps, (f p).length ≤ 3) (hl : ps.length ≤ 90) : ((ps.map f).map (·.length)).sum + (ps.map f).length ≤ 1048576 := by
  have h2 := sum_le (b := 3) ((ps.map f).map (·.length)) (fun x hx => by
    obtain ⟨y, hy, rfl⟩ := List.mem_map.mp hx
    obtain ⟨z, hz, rfl⟩ := List.mem_map.mp hy
    exact h z hz)
  simp only [List.length_map] at h2 ⊢
  omega
set_option maxHeartbeats 4000000 in
theorem law_a {w : World} {A : Around} {s : Shared} {mg mb : Str → Option Value} {l : Addr} {vs : List Value} {ns : List Int} {R : Result → Shared → Prop} (G : Gd w mg mb s.heap) (hl : s.heap.IsList l vs.toArray) (hn : IntsAre vs ns) (hsz : ns.length ≤ 1000) (hA : A.depth < 890) (hh : A.handled = none)
    (hb : ∀ p ∈ lawPs ns, p.1.length ≤ 3 ∧ p.2.length ≤ 3)
    (go : ∀ L h' tk m tups P its c R' itsR cR o1 o2 o3 t, L = s.heap.objs.size → Fr s.heap L h' m →
      News s.heap L h' ((L + 3, o3) :: (P, PySem.W.listOf its c) :: (R', PySem.W.listOf itsR cR) :: (L + 2, o2) :: (L + 1, o1) :: tups) → (∀ q ∈ (P, PySem.W.listOf its c) :: (R', PySem.W.listOf itsR cR) :: (L + 2, o2) :: (L + 1, o1) :: tups, q.1 ≠ L + 3) →
      Tups tups → Paired (RefIn s.heap PairS tups) its.toList (lawPs ns) → IntsAre itsR.toList (rowOf (lawPs ns)) → m "page" = some (.str (pageOf (lawPs ns)) t) → o3.data = .cell none → o2.data = .cell (some (.ref R')) → o1.data = .cell (some (.ref P)) →
      wpAny (model p0 w) (A.deeper (lwEnv L)) (execs ((fBody (stm 14)).drop 3) (lwEnv L))
        (fun f s' => R (.ok (.ret (match f with | .ret v => v | _ => .none))) s') (fun _ _ => False) { s with heap := h', toks := tk }) :
    codeAny (model p0 w) A (.call (.ref 162) ⟨[.ref l], []⟩) R s := by
  refine call_fdC (o := q162_15 w.params) (nm := lwNm) (sc := fScope (stm 14)) (cd := .ref 161) (body := fBody (stm 14)) (binds := [("script", .ref l)])
    G (Nat.lt_trans hA (by decide)) (by kernel_rfl!) rfl (by kernel_rfl!) (by kernel_rfl!) rfl (by kernel_rfl!) (fun L => by kernel_rfl!) (BindsTo.of_eq (by with_unfolding_all rfl)) (by kernel_rfl!) (by decide +kernel) ?_ (by kernel_rfl!) (by kernel_rfl!) (by kernel_rfl!)
  intro h₁ tk cells F0 X0 T0 N0 C0
  rw [lw_env] at C0 F0 ⊢
  have X := X0
  have T := T0
  have F := F0
  have N := N0
  have hlg := hl
  have c3 : ∃ o3 o2 o1, cells = [(s.heap.objs.size + 3, o3), (s.heap.objs.size + 2, o2), (s.heap.objs.size + 1, o1)] ∧ o3.data = .cell none ∧ o2.data = .cell none ∧ o1.data = .cell none := by
    cases C0 with | cons d3 C0 => cases C0 with | cons d2 C0 => cases C0 with | cons d1 C0 => cases C0; exact ⟨_, _, _, rfl, d3, d2, d1⟩
  obtain ⟨o3, o2, o1, rfl, d3, d2, d1⟩ := c3
  generalize hL : s.heap.objs.size = L at *
  clear N0 F0 X0 T0
  conv => arg 3; arg 1; whnf
  have hAd : (A.deeper (lwEnv L)).depth < 900 := by show A.depth + 1 < 900; omega
  have hAh : (A.deeper (lwEnv L)).handled = none := hh
  k_steps
  refine Stop.go ?_
  with_reducible refine wpAny_Assign_Name ?h ?hs
  case hs => kernel_rfl!
  with_reducible refine ev_as (e' := asgV (nth (fBody (stm 14)) 0)) ?q ?hh
  case q => kernel_rfl!
  have hm0 : (bindL (lwEnv L).kindOf [(Str.ofString "script", Value.ref l)] fun x => none) "script" = some (.ref l) := by rfl
  with_reducible refine (comp0 (vs := vs) (ns := ns) X T F hm0 N hlg hn hsz hAd hAh fun h2 tk2 P its c F2 N2 hne2 hps => ?_)
  refine wpAny_storeName_cell (c := L + 1) (by kernel_rfl!) (by kernel_rfl!) (by kernel_rfl!) ⟨o1, (N2 _ (.tail _ (.tail _ (.tail _ (.head _))))).1, d1⟩ fun h3 cp3 s3 => ?_
  have s3 : Heap.SameBut (L + 1) h2 h3 := s3
  obtain ⟨tups, NT, TT, PT⟩ := tups_of F2 (paired_mono (fun _ _ z => pieceV_iff.mp z) hps)
  have m1 := (N2 _ (.tail _ (.tail _ (.tail _ (.head _)))))
  have F3 := F2.change s3 m1.2.1 m1.2.2
  have mP := N2 _ (.head _)
  have m3 := N2 _ (.tail _ (.head _))
  have m2 := N2 _ (.tail _ (.tail _ (.head _)))
  have ne1 : ∀ q ∈ tups, q.1 ≠ L + 1 := fun q hq e => by
    obtain ⟨_, xs, n, e2⟩ := TT q hq
    have e3 := (NT q hq).1
    rw [e, m1.1] at e3
    rw [← Option.some.inj e3, d1] at e2
    cases e2
  have ne2 : ∀ q ∈ tups, q.1 ≠ L + 2 := fun q hq e => by
    obtain ⟨_, xs, n, e2⟩ := TT q hq
    have e3 := (NT q hq).1
    rw [e, m2.1] at e3
    rw [← Option.some.inj e3, d2] at e2
    cases e2
  have ne3 : ∀ q ∈ tups, q.1 ≠ L + 3 := fun q hq e => by
    obtain ⟨_, xs, n, e2⟩ := TT q hq
    have e3 := (NT q hq).1
    rw [e, m3.1] at e3
    rw [← Option.some.inj e3, d3] at e2
    cases e2
  obtain ⟨o1', ho1, d1'⟩ := id cp3
  have N3 : News s.heap L h3 ((P, PySem.W.listOf its c) :: (L + 3, o3) :: (L + 2, o2) :: (L + 1, o1') :: tups) := by
    have q1 : @Ne Nat (L + 3) (L + 1) := by omega
    have q2 : @Ne Nat (L + 2) (L + 1) := by omega
    refine fcons ?_ (fcons ?_ (fcons ?_ (fcons ?_ ?_)))
    · exact ⟨s3.extBut _ _ (hne2 _ (.tail _ (.tail _ (.head _)))).symm mP.1, mP.2⟩
    · exact ⟨s3.extBut _ _ q1 m3.1, m3.2⟩
    · exact ⟨s3.extBut _ _ q2 m2.1, m2.2⟩
    · exact ⟨ho1, m1.2⟩
    · intro p hp
      exact ⟨s3.extBut _ _ (ne1 _ hp) (NT p hp).1, (NT p hp).2⟩
  have len17 : (lawPs ns).length ≤ 17 := by simp [lawPs, lawVs]; omega
  have szI : its.size ≤ 1000 := by
    have := hps.length
    rw [← Array.length_toList]
    omega
  have hP2 : @Ne Nat P (L + 2) := fun e => hne2 _ (.tail _ (.head _)) e.symm
  have hP1 : @Ne Nat P (L + 1) := fun e => hne2 _ (.tail _ (.tail _ (.head _))) e.symm
  have hP3 : @Ne Nat P (L + 3) := fun e => hne2 _ (.head _) e.symm
  have hps3 : Paired (PieceV h3) its.toList (lawPs ns) := paired_mono (fun _ _ z => pieceV_iff.mpr (z.of F3 N3 fun _ h => .tail _ (.tail _ (.tail _ (.tail _ h))))) PT
  clear N2 F2 s3 hps m1 m2 m3 mP hne2 d1 N F NT cp3 ho1
  k_steps
  refine Stop.go (comp_proj (s := ⟨h3, _, _, _, _⟩) (fun p => p.2) ⟨_, (N3 _ (.tail _ (.tail _ (.tail _ (.head _))))).1, d1'⟩ (N3 _ (.head _)).1 hps3 szI hAh (by kernel_rfl!) (by kernel_rfl!) (by kernel_rfl!) (by decide +kernel) (by kernel_rfl!) (by kernel_rfl!) (.inr ⟨rfl, fun _ => rfl⟩) fun h4 tk4 D4 ys4 pl4 sa4 hn4 k4 => ?_)
  have F4 := F3.keptAll k4
  have N4 := N3.keepsAll k4
  clear F3 N3 hps3 k4
  k_steps
  refine Stop.go (join_listW (s := ⟨h4, _, _, _, _⟩) pl4.isList sa4 (by decide) (join_small (fun p hp => (hb p hp).2) (Nat.le_trans len17 (by decide))) (fun t5 k5 => ?_))
  k_steps
  rename_i h5 F5 N5
  have hps5 : Paired (PieceV h5) its.toList (lawPs ns) := paired_mono (fun _ _ z => pieceV_iff.mpr (z.of F5 N5 fun _ h => .tail _ (.tail _ (.tail _ (.tail _ h))))) PT
  refine Stop.go (wpAny_Assign_Name (comp2 (s := ⟨h5, _, _, _, _⟩) X T F5.keep ⟨_, (N5 _ (.tail _ (.tail _ (.tail _ (.head _))))).1, d1'⟩ (N5 _ (.head _)).1 hps5 szI (fun p hp => Nat.le_trans (hb p hp).2 (by decide)) hAd hAh fun h6 tk6 R6 ys6 pl6 is6 hn6 k6 => ?_) (by kernel_rfl!))
  refine wpAny_storeName_cell (s := ⟨h6, _, _, _, _⟩) (c := L + 2) (by kernel_rfl!) (by kernel_rfl!) (by kernel_rfl!) ⟨o2, k6 _ _ (N5 _ (.tail _ (.tail _ (.head _)))).1, d2⟩ fun h7 cp7 s7 => ?_
  have s7 : Heap.SameBut (L + 2) h6 h7 := s7
  have k6 : ∀ b o, h5.get? b = some o → h6.get? b = some o := k6
  have F6 := F5.keptAll k6
  have m2 := N5 _ (.tail _ (.tail _ (.head _)))
  have F7 := F6.change s7 m2.2.1 m2.2.2
  obtain ⟨o2', ho2, d2'⟩ := id cp7
  obtain ⟨cR, eR⟩ := id pl6
  have hn6 : h5.get? R6 = none := hn6
  have hR : ∀ b o, h5.get? b = some o → b ≠ R6 := fun b o e q => by rw [q, hn6] at e; cases e
  have hL5 : ∃ o, h5.get? L = some o := by obtain ⟨o, _, _, ho, _⟩ := F5.ns; exact ⟨o, ho⟩
  have q21 : @Ne Nat (L + 1) (L + 2) := by omega
  have q23 : @Ne Nat (L + 3) (L + 2) := by omega
  have mR : R6 ≠ L + 2 := fun e => hR _ _ m2.1 e.symm
  have N7 : News s.heap L h7 ((L + 3, o3) :: (P, PySem.W.listOf its c) :: (R6, PySem.W.listOf ys6 cR) :: (L + 2, o2') :: (L + 1, o1') :: tups) := by
    refine fcons ?_ (fcons ?_ (fcons ?_ (fcons ?_ (fcons ?_ ?_))))
    · have z := N5 _ (.tail _ (.head _)); exact ⟨s7.extBut _ _ q23 (k6 _ _ z.1), z.2⟩
    · have z := N5 _ (.head _); exact ⟨s7.extBut _ _ hP2 (k6 _ _ z.1), z.2⟩
    · refine ⟨s7.extBut _ _ mR eR, fun e => ?_, ?_⟩
      · obtain ⟨o, ho⟩ := hL5; exact hR _ _ ho e.symm
      · cases q : s.heap.get? R6 with
        | none => rfl
        | some o => exact absurd rfl (hR _ _ (F5.keep _ _ q))
    · exact ⟨ho2, m2.2⟩
    · have z := N5 _ (.tail _ (.tail _ (.tail _ (.head _)))); exact ⟨s7.extBut _ _ q21 (k6 _ _ z.1), z.2⟩
    · intro p hp
      have z := N5 _ (.tail _ (.tail _ (.tail _ (.tail _ hp)))); exact ⟨s7.extBut _ _ (ne2 _ hp) (k6 _ _ z.1), z.2⟩
  refine go L h7 _ _ tups P its c R6 ys6 cR o1' o2' o3 t5 rfl F7 N7 ?_ TT PT is6 rfl d3 d2' d1'
  have m3 := N5 _ (.tail _ (.head _))
  refine fcons ?_ (fcons ?_ (fcons ?_ (fcons ?_ ?_)))
  · exact hP3
  · exact fun e => hR _ _ m3.1 e.symm
  · exact fun e => q23 e.symm
  · exact fun e => absurd e (by show ¬ (L + 1 : Nat) = L + 3; omega)
  · intro q hp
    exact ne3 _ hp
end
end
theorem join_tick_Wk36_0 : True := by
  w_top off
  first | walk1 | exact trivial
section
local macro_rules | `(tactic| walk_at "assign Tuple") => `(tactic| k_dflt (refine Stop.of ?_))
section
local macro_rules | `(tactic| walk_at "call type:52") => `(tactic| k_dflt (refine Stop.of ?_))
section
theorem exs_as {e e' : List Stmt} {env : Env} {w : World} {A : Around} {Q : Flow → Shared → Prop} {E : Value → Shared → Prop} {s : Shared} (q : e = e') (h : wpAny (model p0 w) A (execs e' env) Q E s) : wpAny (model p0 w) A (execs e env) Q E s := q ▸ h
theorem st3 : (fBody (stm 14)).drop 3 = nth (fBody (stm 14)) 3 :: (fBody (stm 14)).drop 4 := by kernel_rfl!
theorem st4 : (fBody (stm 14)).drop 4 = nth (fBody (stm 14)) 4 :: (fBody (stm 14)).drop 5 := by kernel_rfl!
theorem st5 : (fBody (stm 14)).drop 5 = nth (fBody (stm 14)) 5 :: (fBody (stm 14)).drop 6 := by kernel_rfl!
theorem st6 : (fBody (stm 14)).drop 6 = nth (fBody (stm 14)) 6 :: (fBody (stm 14)).drop 7 := by kernel_rfl!
theorem st7 : (fBody (stm 14)).drop 7 = nth (fBody (stm 14)) 7 :: (fBody (stm 14)).drop 8 := by kernel_rfl!
theorem st8 : (fBody (stm 14)).drop 8 = nth (fBody (stm 14)) 8 :: [] := by kernel_rfl!
set_option maxHeartbeats 4000000 in
theorem law_b {w : World} {A : Around} {s : Shared} {g : Heap} {mg mb : Str → Option Value} {ps : List (Str × Str)} {Q : Flow → Shared → Prop} {L P R' : Addr} {m : Str → Option Value} {tups : List (Addr × Obj)} {its itsR : Array Value} {c cR : Nat} {o1 o2 o3 : Obj} {t : Tok}
    (Xf : (Kf w.params).In g) (T : TopRead q0 loose0 mg mb g) (hA : A.depth < 890) (hh : A.handled = none) (hb : ∀ p ∈ ps, p.1.length ≤ 3 ∧ p.2.length ≤ 3) (hlen : ps.length ≤ 90)
    (F : Fr g L s.heap m) (N : News g L s.heap ((L + 3, o3) :: (P, PySem.W.listOf its c) :: (R', PySem.W.listOf itsR cR) :: (L + 2, o2) :: (L + 1, o1) :: tups))
    (PT : Paired (RefIn g PairS tups) its.toList ps) (hm : m "page" = some (.str (pageOf ps) t)) (d1 : o1.data = .cell (some (.ref P)))
    (go : ∀ h1 tk1 m1 O ys1 cO, Fr g L h1 m1 → News g L h1 ((O, PySem.W.listOf ys1 cO) :: (L + 3, o3) :: (P, PySem.W.listOf its c) :: (R', PySem.W.listOf itsR cR) :: (L + 2, o2) :: (L + 1, o1) :: tups) →
      IntsAre ys1.toList (org ps 0 ps.length) → (∀ b o, s.heap.get? b = some o → b ≠ O) → m1 "page" = some (.str (pageOf ps) t) → m1 "origins" = some (.ref O) →
      wpAny (model p0 w) (A.deeper (lwEnv L)) (execs ((fBody (stm 14)).drop 4) (lwEnv L)) Q (fun _ _ => False) { s with heap := h1, toks := tk1 }) :
    wpAny (model p0 w) (A.deeper (lwEnv L)) (execs ((fBody (stm 14)).drop 3) (lwEnv L)) Q (fun _ _ => False) s := by
  have X := kr_in Xf
  have hAh : (A.deeper (lwEnv L)).handled = none := hh
  have hps : Paired (PieceV s.heap) its.toList ps := paired_mono (fun _ _ z => pieceV_iff.mpr (z.of F N fun _ h => .tail _ (.tail _ (.tail _ (.tail _ (.tail _ h)))))) PT
  refine exs_as st3 (wpAny_execs_cons ?_)
  have hcell : s.heap.IsCell (L + 1) (some (.ref P)) := ⟨o1, (N _ (.tail _ (.tail _ (.tail _ (.tail _ (.head _)))))).1, d1⟩
  have hPl := (N _ (.tail _ (.head _))).1
  have hlen2 : ∀ p ∈ ps, p.2.length ≤ 1000 := fun p hp => Nat.le_trans (hb p hp).2 (by decide)
  with_reducible refine asg3 X T F.keep hcell hPl hps hlen hlen2 hAh F.ns fun h1 tk1 O ys1 pl1 is1 hn1 ns1 k1 => ?_
  have hLo : ∃ o, s.heap.get? L = some o := by obtain ⟨o, _, _, ho, _⟩ := F.ns; exact ⟨o, ho⟩
  have gL : g.get? L = none := by
    cases q : g.get? L with
    | none => rfl
    | some o => exact absurd (Heap.lt_size q) (Nat.not_lt.mpr F.above)
  have F1 : Fr g L h1 _ := ⟨ns1, fun b o e => k1 b o (fun q => by rw [q, gL] at e; cases e) (F.keep b o e), F.above⟩
  obtain ⟨cO, eO⟩ := id pl1
  have hO : ∀ b o, s.heap.get? b = some o → b ≠ O := fun b o e q => by rw [q, hn1] at e; cases e
  have N1 : News g L h1 ((O, PySem.W.listOf ys1 cO) :: (L + 3, o3) :: (P, PySem.W.listOf its c) :: (R', PySem.W.listOf itsR cR) :: (L + 2, o2) :: (L + 1, o1) :: tups) := by
    intro p hp
    rcases List.mem_cons.mp hp with rfl | hp
    · refine ⟨eO, fun e => ?_, ?_⟩
      · obtain ⟨o, ho⟩ := hLo; exact hO _ _ ho e.symm
      · cases q : g.get? O with
        | none => rfl
        | some o => exact absurd rfl (hO _ _ (F.keep _ _ q))
    · exact ⟨k1 _ _ (N p hp).2.1 (N p hp).1, (N p hp).2⟩
  have m1 : (fun z => if z = Str.ofString "origins" then some (Value.ref O) else m z) "page" = some (.str (pageOf ps) t) := by
    show (if _ then _ else _) = _
    rw [if_neg (by decide)]
    exact hm
  have m2 : (fun z => if z = Str.ofString "origins" then some (Value.ref O) else m z) "origins" = some (.ref O) := by
    show (if _ then _ else _) = _
    rw [if_pos rfl]
  exact go h1 tk1 _ O ys1 cO F1 N1 is1 hO m1 m2
end
theorem join_tick_Wk37_0 : True := by
  w_top off
  first | walk1 | exact trivial
section
theorem kp_152 (P : Params) : keepIn (Kr P) (.ref 152) = true := by kernel_rfl!
theorem kp_157 (P : Params) : keepIn (Kr P) (.ref 157) = true := by kernel_rfl!
theorem kp_65 (P : Params) : keepIn (Kr P) (.ref 65) = true := by kernel_rfl!
theorem kp_74 (P : Params) : keepIn (Kr P) (.ref 74) = true := by kernel_rfl!
theorem kp_52 (P : Params) : keepIn (Kr P) (.ref 52) = true := by kernel_rfl!
end
theorem join_tick_Wk37_1 : True := by
  w_top off
  first | walk1 | exact trivial
section
local macro_rules | `(tactic| k_is) => `(tactic| first | exact kp_152 _ | exact kp_157 _ | exact kp_65 _ | exact kp_74 _ | exact kp_52 _)
section
local macro_rules | `(tactic| walk_at "And") => `(tactic| k_dflt (refine Stop.of ?_))
section
theorem kf_keeps {P : Params} {g h : Heap} (X : (Kf P).In g) (k : ∀ b o, g.get? b = some o → h.get? b = some o) : (Kf P).In h := fun a o e => k _ _ (X a o e)
theorem tupIn_hide {P : Params} {g : Heap} (Xf : (Kf P).In g) {tups : List (Addr × Obj)} {a : Addr} {items : Array Value} (z : TupIn g tups a items) : TupIn (hideAll g [147]) tups a items := by
  refine z.imp (fun ⟨o, e, hc, r⟩ => ⟨o, hideAll_get _ e fun m => ?_, hc, r⟩) id
  have : a = 147 := by simpa using m
  rw [this, kf_147 Xf] at e
  cases e
  cases hc
set_option maxHeartbeats 4000000 in
theorem asg4 {w : World} {s : Shared} {g : Heap} {mg mb : Str → Option Value} {ps : List (Str × Str)} {Q : Flow → Shared → Prop} {L P : Addr} {m : Str → Option Value} {nw tups : List (Addr × Obj)} {its : Array Value} {c : Nat} {o1 : Obj}
    (Xf : (Kf w.params).In g) (T : TopRead q0 loose0 mg mb g) (hb : ∀ p ∈ ps, p.1.length ≤ 3 ∧ p.2.length ≤ 3) (hlen : ps.length ≤ 90)
    (F : Fr g L s.heap m) (N : News g L s.heap nw) (hP1 : (P, PySem.W.listOf its c) ∈ nw) (hL1 : (L + 1, o1) ∈ nw) (htn : ∀ q ∈ tups, q ∈ nw)
    (PT : Paired (RefIn g PairS tups) its.toList ps) (d1 : o1.data = .cell (some (.ref P)))
    (go : ∀ h' tk' st rd dd tk ry ct cy cx tx t1 t2 vs, Fr (hideAll g [147]) L h' (fun z => if z = Str.ofString "taken" then some (.ref tk) else if z = Str.ofString "stream" then some (.ref st) else m z) →
      News (hideAll g [147]) L h' nw → StreamAt h' (textOf ps) tx st rd dd tk ry ct cy cx → h'.get? tk = some (PySem.W.listOf #[.int 0 t1] 0) → h'.get? ry = some (PySem.W.listOf #[.str "" t2] 0) →
      (∀ b ∈ [st, rd, dd, tk, ry, ct, cy, cx], s.heap.get? b = none) → [st, rd, dd, tk, ry, ct, cy, cx].Nodup → h'.get? 147 = some ⟨.none, none, .fields vs, #[]⟩ → Q .next { s with heap := h', toks := tk' }) :
    wpAny (model p0 w) (callerA.deeper (lwEnv L)) (exec (nth (fBody (stm 14)) 4) (lwEnv L)) Q (fun _ _ => False) s := by
  have X := kr_in Xf
  have hAh : (callerA.deeper (lwEnv L)).handled = none := rfl
  have hps : Paired (PieceV s.heap) its.toList ps := paired_mono (fun _ _ z => pieceV_iff.mpr (z.of F N htn)) PT
  have hcell : s.heap.IsCell (L + 1) (some (.ref P)) := ⟨o1, (N _ hL1).1, d1⟩
  have hPl : s.heap.get? P = some (PySem.W.listOf its c) := (N _ hP1).1
  have szI : its.size ≤ 1000 := by
    have := hps.length
    rw [← Array.length_toList]
    omega
  have hz : ((Str.ofString "drawn" = Str.ofString "drawn" ∧ ∀ p : Str × Str, (fun p => p.1) p = p.1) ∨ (Str.ofString "drawn" = Str.ofString "meant" ∧ ∀ p : Str × Str, (fun p => p.1) p = p.2)) := .inl ⟨rfl, fun _ => rfl⟩
  have hjs : ((ps.map fun p => p.1).map (·.length)).sum + (ps.map fun p => p.1).length ≤ 1048576 := join_small (f := fun p => p.1) (fun p hp => (hb p hp).1) hlen
  generalize hA : callerA.deeper (lwEnv L) = A at *
  conv => arg 3; arg 1; whnf
  k_steps
  refine Stop.go ?_
  with_reducible refine comp_proj (s := ⟨_, _, _, _, _⟩) (fun p => p.1) hcell hPl hps szI hAh ?a1 ?a2 ?a3 ?a4 ?a5 ?a6 hz fun h4 tk4 D4 ys4 pl4 sa4 hn4 k4 => ?_
  case a1 => kernel_rfl!
  case a2 => kernel_rfl!
  case a3 => kernel_rfl!
  case a4 => decide +kernel
  case a5 => kernel_rfl!
  case a6 => kernel_rfl!
  have k4 : ∀ b o, s.heap.get? b = some o → h4.get? b = some o := k4
  have F4 := F.keptAll k4
  have N4 := N.keepsAll k4
  clear hcell hPl hps hz
  k_steps
  refine Stop.go (join_listW (s := ⟨h4, _, _, _, _⟩) pl4.isList sa4 (by decide) hjs (fun t5 k5 => ?_))
  k_steps
  refine Stop.go ⟨X.keeps F4.keep, ?_⟩
  subst hA
  have Kx4 : (Kx w.params).In h4 := by rw [kx_eq]; exact kf_keeps Xf F4.keep
  refine wpAny_mono (stream_call (s := ⟨h4, _, _, _, _⟩) Kx4) (fun v s' hv => ?_) (fun _ _ x => x)
  obtain ⟨Tt, st, rd, dd, tk, ry, ct, cy, cx, t1, t2, rfl, ⟨h6, tk6, rfl⟩, k6, hT, sa, htk, hry, hfr, hnd, vs, h147⟩ := hv
  have k6 : ∀ b o, b ≠ 147 → h4.get? b = some o → h6.get? b = some o := k6
  have g147 : ∃ o, g.get? 147 = some o := ⟨_, kf_147 Xf⟩
  have hL147 : L ≠ 147 := fun e => by
    obtain ⟨o, ho⟩ := g147
    have h1 := Heap.lt_size ho
    have h2 := F.above
    rw [e] at h2
    exact absurd h1 (Nat.not_lt.mpr h2)
  have n147 : ∀ p ∈ nw, p.1 ≠ 147 := fun p hp e => by
    obtain ⟨o, ho⟩ := g147
    have := (N p hp).2.2
    rw [e, ho] at this
    cases this
  have ns6 : h6.Ns L m := by
    obtain ⟨o, es, ep, e, r⟩ := F4.ns
    exact ⟨o, es, ep, k6 _ _ hL147 e, r⟩
  refine asg2 (s := ⟨h6, _, _, _, _⟩) hAh hT ns6 (by kernel_rfl!) (by kernel_rfl!) (by kernel_rfl!) fun h7 tk7 n7 k7 => ?_
  have k7 : ∀ b o, b ≠ L → h6.get? b = some o → h7.get? b = some o := k7
  have sL : ∃ o, s.heap.get? L = some o := by obtain ⟨o, _, _, e, _⟩ := F.ns; exact ⟨o, e⟩
  have hfr' : ∀ b ∈ [st, rd, dd, tk, ry, ct, cy, cx], s.heap.get? b = none := fun b hb => by
    have := hfr b hb
    cases q : s.heap.get? b with
    | none => rfl
    | some o =>
      have this : h4.get? b = none := this
      rw [k4 _ _ q] at this
      cases this
  have neL : ∀ b ∈ [st, rd, dd, tk, ry, ct, cy, cx], b ≠ L := fun b hb e => by
    obtain ⟨o, ho⟩ := sL
    rw [← e, hfr' b hb] at ho
    cases ho
  have gL : ∀ b o, g.get? b = some o → b ≠ L := fun b o e => Nat.ne_of_lt (Nat.lt_of_lt_of_le (Heap.lt_size e) F.above)
  have sa7 : StreamAt h7 (textOf ps) t5 st rd dd tk ry ct cy cx := by
    obtain ⟨⟨a, e1⟩, ⟨b, c, e2⟩, ⟨f, e3, r, c', o, vs, t, q1, q2, q3, q4⟩, e4, e5, e6⟩ := sa
    refine ⟨⟨a, k7 _ _ (neL _ (by simp)) e1⟩, ⟨b, c, k7 _ _ (neL _ (by simp)) e2⟩, ⟨f, k7 _ _ (neL _ (by simp)) e3, r, c', o, vs, t, q1, k7 _ _ (fun e => ?_) q2, q3, q4⟩, k7 _ _ (neL _ (by simp)) e4, k7 _ _ (neL _ (by simp)) e5, k7 _ _ (neL _ (by simp)) e6⟩
    obtain ⟨oL, es, ep, eL, hd, _⟩ := ns6
    have q2 : h6.get? c' = some o := q2
    rw [e, eL] at q2
    cases q2
    rw [hd] at q3
    cases q3
  refine go h7 _ st rd dd tk ry ct cy cx t5 t1 t2 vs ⟨n7, fun b o e => ?_, ?_⟩ (fun p hp => ⟨?_, (N p hp).2.1, ?_⟩) sa7 (k7 _ _ (neL _ (by simp)) htk) (k7 _ _ (neL _ (by simp)) hry) hfr' hnd (k7 _ _ hL147.symm h147)
  · have e0 := of_hideAll _ e
    refine k7 b o (gL b o e0) (k6 b o (fun q => ?_) (F4.keep b o e0))
    rw [q, hideAll_none _ (.head _)] at e
    cases e
  · rw [hideAll_size]; exact F.above
  · exact k7 _ _ (N p hp).2.1 (k6 _ _ (n147 p hp) (N4 p hp).1)
  · cases q : (hideAll g [147]).get? p.1 with
    | none => rfl
    | some o =>
      have := of_hideAll _ q
      rw [(N p hp).2.2] at this
      cases this
end
theorem join_tick_Wk38_0 : True := by
  w_top off
  first | walk1 | exact trivial
section
set_option maxHeartbeats 4000000 in
theorem asg5 {w : World} {s : Shared} {g : Heap} {mg mb : Str → Option Value} {Q : Flow → Shared → Prop} {L st : Addr} {m : Str → Option Value} {nw : List (Addr × Obj)}
    (X : (Kr w.params).In g) (T : TopRead q0 loose0 mg mb g) (F : Fr g L s.heap m) (N : News g L s.heap nw) (hm : m "stream" = some (.ref st))
    (go : ∀ h' tk' x dx pb h1 h2 h3 h4 k1 k2 k3 k4 t1 tw, Fr g L h' (fun z => if z = Str.ofString "lexer" then some (.ref x) else m z) → News g L h' nw → h'.get? x = some (PySem.W.instObj 52 dx) →
      h'.get? dx = some (lexD st pb 1 h1 h2 h3 h4 k1 k2 k3 k4 t1 tw) → h'.get? pb = some (PySem.W.listOf #[] 0) → s.heap.get? x = none → s.heap.get? dx = none → s.heap.get? pb = none → dx < x → x < pb →
      (∀ b o, b ≠ L → s.heap.get? b = some o → h'.get? b = some o) → Q .next { s with heap := h', toks := tk' }) :
    wpAny (model p0 w) (callerA.deeper (lwEnv L)) (exec (nth (fBody (stm 14)) 5) (lwEnv L)) Q (fun _ _ => False) s := by
  generalize hA : callerA.deeper (lwEnv L) = A at *
  conv => arg 3; arg 1; whnf
  k_steps
  refine Stop.go ⟨X.keeps F.keep, ?_⟩
  subst hA
  have K4 : (Kz w.params).In s.heap := by rw [kz_eq]; exact X.keeps F.keep
  refine wpAny_mono (lex_call K4) (fun v s' hv => ?_) (fun _ _ x => x)
  obtain ⟨x, dx, pb, h1, h2, h3, h4, k1, k2, k3, k4, t1, tw, rfl, ⟨h6, tk6, rfl, kk⟩, ex, edx, epb, nx, ndx, npb, l1, l2⟩ := hv
  have F6 : Fr g L h6 m := F.keeps kk
  have N6 : News g L h6 nw := N.keepsAll kk
  have sL : ∃ o, s.heap.get? L = some o := by obtain ⟨o, _, _, e, _⟩ := F.ns; exact ⟨o, e⟩
  have neL : ∀ b, s.heap.get? b = none → b ≠ L := fun b hb e => by
    obtain ⟨o, ho⟩ := sL
    rw [← e, hb] at ho
    cases ho
  have gL : ∀ b o, g.get? b = some o → b ≠ L := fun b o e => Nat.ne_of_lt (Nat.lt_of_lt_of_le (Heap.lt_size e) F.above)
  refine wpAny_storeName_local (s := ⟨h6, _, _, _, _⟩) (by kernel_rfl!) F6.ns (fun h7 n7 s7 => ?_) (by kernel_rfl!)
  have s7 : Heap.SameBut L h6 h7 := s7
  have k7 : ∀ b o, b ≠ L → h6.get? b = some o → h7.get? b = some o := fun b o n e => s7.extBut b o n e
  exact go h7 _ x dx pb h1 h2 h3 h4 k1 k2 k3 k4 t1 tw ⟨n7, fun b o e => k7 b o (gL b o e) (F6.keep b o e), F.above⟩ (fun p hp => ⟨k7 _ _ (N p hp).2.1 (N6 p hp).1, (N p hp).2⟩)
    (k7 _ _ (neL _ nx) ex) (k7 _ _ (neL _ ndx) edx) (k7 _ _ (neL _ npb) epb) nx ndx npb l1 l2 fun b o n e => k7 b o n (kk b o e)
end
end
end
theorem join_tick_Wk39_0 : True := by
  w_top off
  first | walk1 | exact trivial
section
/-- what of these stands above the floor -/
theorem news_any {g h : Heap} {L : Addr} {m : Str → Option Value} (F : Fr g L h m) : ∀ (l : List Addr), (∀ b ∈ l, (∃ o, h.get? b = some o) ∧ b ≠ L) → ∃ sn, News g L h sn ∧ (∀ p ∈ sn, p.1 ∈ l) ∧ ∀ b ∈ l, ∀ o, h.get? b = some o → g.get? b = some o ∨ (b, o) ∈ sn
  | [], _ => ⟨[], News.nil, (fun _ h => nomatch h), fun _ h => nomatch h⟩
  | b :: l, H => by
    obtain ⟨sn, N, I, C⟩ := news_any F l fun b hb => H b (.tail _ hb)
    obtain ⟨⟨o, ho⟩, nL⟩ := H b (.head _)
    cases q : g.get? b with
    | some o' =>
      refine ⟨sn, N, fun p hp => .tail _ (I p hp), fun b' hb' o1 ho1 => ?_⟩
      rcases List.mem_cons.mp hb' with rfl | hb'
      · left; rw [F.keep _ _ q] at ho1; rw [q, ← ho1]
      · exact C b' hb' o1 ho1
    | none =>
      refine ⟨(b, o) :: sn, fun p hp => ?_, fun p hp => ?_, fun b' hb' o1 ho1 => ?_⟩
      · rcases List.mem_cons.mp hp with rfl | hp
        · exact ⟨ho, nL, q⟩
        · exact N p hp
      · rcases List.mem_cons.mp hp with rfl | hp
        · exact .head _
        · exact .tail _ (I p hp)
      · rcases List.mem_cons.mp hb' with rfl | hb'
        · right
          rw [ho] at ho1
          cases ho1
          exact .head _
        · exact (C b' hb' o1 ho1).imp id fun h => .tail _ h
/-- the stream stands as long as the floor and the ledger stand -/
structure AtLaw (P : Params) (g : Heap) (a : Ad) (sn : List (Addr × Obj)) : Prop where
  off : ∀ b ∈ a.mov, (Kr P).lookup b = none
  nd : a.mov.Nodup
  sa : ∀ h', (∀ b o, g.get? b = some o → h'.get? b = some o) → (∀ p ∈ sn, h'.get? p.1 = some p.2) → StreamAt h' a.text a.tx a.st a.rd a.dd a.tk a.ry a.ct a.cy a.cx
theorem obj_ne {h : Heap} {a b : Addr} {o o' : Obj} (e1 : h.get? a = some o) (e2 : h.get? b = some o') (hd : o.data ≠ o'.data) : a ≠ b := fun e => by
  rw [e, e2] at e1
  cases e1
  exact hd rfl
theorem tupIn_more {g : Heap} {t t' : List (Addr × Obj)} {vs : List Value} {ps : List (Str × Str)} (x : Paired (RefIn g PairS t) vs ps) (k : ∀ q ∈ t, q ∈ t') : Paired (RefIn g PairS t') vs ps := paired_mono (fun _ _ z => z.more k) x
set_option maxHeartbeats 4000000 in
theorem law_d {w : World} {s : Shared} {mg mb : Str → Option Value} {l : Addr} {vs : List Value} {ns : List Int} {R : Result → Shared → Prop} (Xf : (Kf w.params).In s.heap) (T : TopRead q0 loose0 mg mb s.heap) (hl : s.heap.IsList l vs.toArray) (hn : IntsAre vs ns) (hsz : ns.length ≤ 1000)
    (hb : ∀ p ∈ lawPs ns, p.1.length ≤ 3 ∧ p.2.length ≤ 3) (hlen : (lawPs ns).length ≤ 90)
    (go : ∀ g L h' tk m a d P its c R' itsR cR o1 o2 o3 t O ys cO sn vs, g = hideAll s.heap [147] → L = s.heap.objs.size → a.text = textOf (lawPs ns) → Fr g L h' m →
      News g L h' (lexNews a 1 0 "" #[] d ++ (O, PySem.W.listOf ys cO) :: (L + 3, o3) :: (P, PySem.W.listOf its c) :: (R', PySem.W.listOf itsR cR) :: (L + 2, o2) :: (L + 1, o1) :: sn) →
      AtLaw w.params g a sn → (∀ p ∈ (O, PySem.W.listOf ys cO) :: (L + 3, o3) :: (P, PySem.W.listOf its c) :: (R', PySem.W.listOf itsR cR) :: (L + 2, o2) :: (L + 1, o1) :: sn, p.1 ∉ a.mov) →
      (∀ p ∈ (O, PySem.W.listOf ys cO) :: (P, PySem.W.listOf its c) :: (R', PySem.W.listOf itsR cR) :: (L + 2, o2) :: (L + 1, o1) :: sn, p.1 ≠ L + 3) →
      Paired (RefIn g PairS sn) its.toList (lawPs ns) → IntsAre itsR.toList (rowOf (lawPs ns)) → IntsAre ys.toList (org (lawPs ns) 0 (lawPs ns).length) →
      m "page" = some (.str (pageOf (lawPs ns)) t) → m "origins" = some (.ref O) → m "taken" = some (.ref a.tk) → m "lexer" = some (.ref a.x) →
      o3.data = .cell none → o2.data = .cell (some (.ref R')) → o1.data = .cell (some (.ref P)) → (147, (⟨.none, none, .fields vs, #[]⟩ : Obj)) ∈ sn →
      wpAny (model p0 w) (callerA.deeper (lwEnv L)) (execs ((fBody (stm 14)).drop 6) (lwEnv L))
        (fun f s' => R (.ok (.ret (match f with | .ret v => v | _ => .none))) s') (fun _ _ => False) { s with heap := h', toks := tk }) :
    codeAny (model p0 w) callerA (.call (.ref 162) ⟨[.ref l], []⟩) R s := by
  have hd : callerA.depth < 890 := by decide
  refine law_a ⟨kr_in Xf, T⟩ hl hn hsz hd rfl hb fun L h1 tk1 m1 tups P its c R' itsR cR o1 o2 o3 t hL F1 N1 ne1 TT PT IR pg d3 d2 d1 => ?_
  generalize lawPs ns = ps at *
  refine law_b (s := ⟨h1, _, _, _, _⟩) Xf T hd rfl hb hlen F1 N1 PT pg d1 fun h2 tk2 m2 O ys cO F2 N2 IO nO pg2 or2 => ?_
  generalize hnw : (O, PySem.W.listOf ys cO) :: (L + 3, o3) :: (P, PySem.W.listOf its c) :: (R', PySem.W.listOf itsR cR) :: (L + 2, o2) :: (L + 1, o1) :: tups = nw at *
  have hmP : (P, PySem.W.listOf its c) ∈ nw := by rw [← hnw]; exact .tail _ (.tail _ (.head _))
  have hm1 : (L + 1, o1) ∈ nw := by rw [← hnw]; exact .tail _ (.tail _ (.tail _ (.tail _ (.tail _ (.head _)))))
  have htn : ∀ q ∈ tups, q ∈ nw := fun q hq => by rw [← hnw]; exact .tail _ (.tail _ (.tail _ (.tail _ (.tail _ (.tail _ hq)))))
  refine exs_as st4 (wpAny_execs_cons ?_)
  refine asg4 (s := ⟨h2, _, _, _, _⟩) Xf T hb hlen F2 N2 hmP hm1 htn PT d1 fun h3 tk3 st rd dd tkA ry ct cy cx tx t1 t2 vs F3 N3 sa3 etk ery hfr hnd e147 => ?_
  have hfr : ∀ b ∈ [st, rd, dd, tkA, ry, ct, cy, cx], h2.get? b = none := hfr
  have off147 : ∀ a ∈ [147], (Kr w.params).lookup a = none := fun a ha => by
    rw [List.mem_singleton.mp ha]; exact no147 _
  have X' : (Kr w.params).In (hideAll s.heap [147]) := hide_Kl (kr_in Xf) off147
  have T' : TopRead q0 loose0 mg mb (hideAll s.heap [147]) := top_hide T off147
  have PT' : Paired (RefIn (hideAll s.heap [147]) PairS tups) its.toList ps := paired_mono (fun _ _ ⟨a, i, e, z, r⟩ => ⟨a, i, e, tupIn_hide Xf z, r⟩) PT
  have g147 : (hideAll s.heap [147]).get? 147 = none := hideAll_none _ (.head _)
  have s147 := kf_147 Xf
  generalize hg : hideAll s.heap [147] = g at *
  refine exs_as st5 (wpAny_execs_cons ?_)
  refine asg5 (s := ⟨h3, _, _, _, _⟩) (st := st) X' T' F3 N3 (by show (if _ then _ else if _ then _ else _) = _; rw [if_neg (by decide), if_pos rfl]) fun h4 tk4 x dx pb hh1 hh2 hh3 hh4 kk1 kk2 kk3 kk4 tt1 ttw F4 N4 ex edx epb nx ndx npb l1 l2 k4 => ?_
  have nx : h3.get? x = none := nx
  have ndx : h3.get? dx = none := ndx
  have npb : h3.get? pb = none := npb
  have k4 : ∀ b o, b ≠ L → h3.get? b = some o → h4.get? b = some o := k4
  have sL2 : ∃ o, h2.get? L = some o := by obtain ⟨o, _, _, e, _⟩ := F2.ns; exact ⟨o, e⟩
  have sL3 : ∃ o, h3.get? L = some o := by obtain ⟨o, _, _, e, _⟩ := F3.ns; exact ⟨o, e⟩
  have ne2 : ∀ {b c : Addr}, h2.get? b = none → (∃ o, h2.get? c = some o) → b ≠ c := fun {b c} e ⟨o, e2⟩ q => by rw [q, e2] at e; cases e
  have ne3 : ∀ {b c : Addr}, h3.get? b = none → (∃ o, h3.get? c = some o) → b ≠ c := fun {b c} e ⟨o, e2⟩ q => by rw [q, e2] at e; cases e
  have L147 : L ≠ 147 := fun e => by
    have h5 := Heap.lt_size s147
    have h6 := F2.above
    rw [e] at h6
    exact absurd h5 (Nat.not_lt.mpr h6)
  obtain ⟨⟨fdS, est⟩, ⟨hh, tkk, edd⟩, ⟨fdR, erd, hfd, c', oc', vs', tq, q1, q2, q3, q4⟩, ect, ecy, ecx⟩ := id sa3
  have q2 : h3.get? c' = some oc' := q2
  have cL : c' ≠ L := fun e => by
    obtain ⟨oL, es, ep, eL, hd', _⟩ := F3.ns
    rw [e, eL] at q2
    cases q2
    rw [hd'] at q3
    cases q3
  have pres : ∀ b ∈ [147, st, dd, rd, c', ct, cy, cx], (∃ o, h3.get? b = some o) ∧ b ≠ L :=
    all8 (p := fun b => (∃ o, h3.get? b = some o) ∧ b ≠ L) ⟨⟨_, e147⟩, L147.symm⟩ ⟨⟨_, est⟩, ne2 (hfr _ (by k_mem)) sL2⟩ ⟨⟨_, edd⟩, ne2 (hfr _ (by k_mem)) sL2⟩ ⟨⟨_, erd⟩, ne2 (hfr _ (by k_mem)) sL2⟩ ⟨⟨_, q2⟩, cL⟩ ⟨⟨_, ect⟩, ne2 (hfr _ (by k_mem)) sL2⟩ ⟨⟨_, ecy⟩, ne2 (hfr _ (by k_mem)) sL2⟩ ⟨⟨_, ecx⟩, ne2 (hfr _ (by k_mem)) sL2⟩
  obtain ⟨sn, NS, IS, CS⟩ := news_any F3 [147, st, dd, rd, c', ct, cy, cx] pres
  have NS4 : News g L h4 sn := fun p hp => ⟨k4 _ _ (NS p hp).2.1 (NS p hp).1, (NS p hp).2⟩
  have tkL : tkA ≠ L := ne2 (hfr _ (by k_mem)) sL2
  have ryL : ry ≠ L := ne2 (hfr _ (by k_mem)) sL2
  have movg : ∀ b ∈ [x, dx, tkA, ry, pb], g.get? b = none ∧ b ≠ L := by
    have n3 : ∀ {b}, h3.get? b = none → g.get? b = none ∧ b ≠ L := fun {b} e => by
      refine ⟨?_, ne3 e sL3⟩
      cases q : g.get? b with
      | none => rfl
      | some o => rw [F3.keep _ _ q] at e; cases e
    have n2 : ∀ {b}, h2.get? b = none → g.get? b = none ∧ b ≠ L := fun {b} e => by
      refine ⟨?_, ne2 e sL2⟩
      cases q : g.get? b with
      | none => rfl
      | some o =>
        rw [← hg] at q
        rw [F2.keep _ _ (of_hideAll _ q)] at e; cases e
    exact all5 (p := fun b => g.get? b = none ∧ b ≠ L) (n3 nx) (n3 ndx) (n2 (hfr _ (by k_mem))) (n2 (hfr _ (by k_mem))) (n3 npb)
  have pres2 : ∀ p ∈ nw, ∃ o, h2.get? p.1 = some o := fun p hp => ⟨_, (N2 p hp).1⟩
  have pres3 : ∀ p ∈ nw, ∃ o, h3.get? p.1 = some o := fun p hp => ⟨_, (N3 p hp).1⟩
  have disn : ∀ p ∈ nw, p.1 ∉ [x, dx, tkA, ry, pb] := fun p hp => non5 (ne3 nx (pres3 p hp)).symm (ne3 ndx (pres3 p hp)).symm (ne2 (hfr _ (by k_mem)) (pres2 p hp)).symm (ne2 (hfr _ (by k_mem)) (pres2 p hp)).symm (ne3 npb (pres3 p hp)).symm
  have tk_ne : ∀ b ∈ [147, st, dd, rd, c', ct, cy, cx], b ≠ tkA ∧ b ≠ ry :=
    all8 (p := fun b => b ≠ tkA ∧ b ≠ ry) ⟨obj_ne e147 etk (by intro e; cases e), obj_ne e147 ery (by intro e; cases e)⟩
      ⟨nd_ne (i := 0) (j := 3) hnd rfl rfl (by decide), nd_ne (i := 0) (j := 4) hnd rfl rfl (by decide)⟩
      ⟨nd_ne (i := 2) (j := 3) hnd rfl rfl (by decide), nd_ne (i := 2) (j := 4) hnd rfl rfl (by decide)⟩
      ⟨nd_ne (i := 1) (j := 3) hnd rfl rfl (by decide), nd_ne (i := 1) (j := 4) hnd rfl rfl (by decide)⟩
      ⟨obj_ne q2 etk (by rw [q3]; intro e; cases e), obj_ne q2 ery (by rw [q3]; intro e; cases e)⟩
      ⟨(nd_ne (i := 3) (j := 5) hnd rfl rfl (by decide)).symm, (nd_ne (i := 4) (j := 5) hnd rfl rfl (by decide)).symm⟩
      ⟨(nd_ne (i := 3) (j := 6) hnd rfl rfl (by decide)).symm, (nd_ne (i := 4) (j := 6) hnd rfl rfl (by decide)).symm⟩
      ⟨(nd_ne (i := 3) (j := 7) hnd rfl rfl (by decide)).symm, (nd_ne (i := 4) (j := 7) hnd rfl rfl (by decide)).symm⟩
  have diss : ∀ p ∈ sn, p.1 ∉ [x, dx, tkA, ry, pb] := fun p hp =>
    have hI := IS p hp
    have hP := (pres _ hI).1
    non5 (ne3 nx hP).symm (ne3 ndx hP).symm (tk_ne _ hI).1 (tk_ne _ hI).2 (ne3 npb hP).symm
  have h33 : h3.get? (L + 3) = some o3 := (N3 (L + 3, o3) (by rw [← hnw]; exact .tail _ (.head _))).1
  have h23 : h2.get? (L + 3) = some o3 := (N2 (L + 3, o3) (by rw [← hnw]; exact .tail _ (.head _))).1
  have ne3s : ∀ p ∈ sn, p.1 ≠ L + 3 := fun p hp e => by
    have hI := IS p hp
    rw [e] at hI
    exact non8 (obj_ne h33 e147 (by rw [d3]; intro e; cases e)) (ne2 (hfr _ (by k_mem)) ⟨_, h23⟩).symm (ne2 (hfr _ (by k_mem)) ⟨_, h23⟩).symm (ne2 (hfr _ (by k_mem)) ⟨_, h23⟩).symm (obj_ne h33 q2 (by rw [d3, q3]; intro e; cases e))
      (ne2 (hfr _ (by k_mem)) ⟨_, h23⟩).symm (ne2 (hfr _ (by k_mem)) ⟨_, h23⟩).symm (ne2 (hfr _ (by k_mem)) ⟨_, h23⟩).symm hI
  have mS : ∀ {q : Addr × Obj}, q ∈ (O, PySem.W.listOf ys cO) :: (L + 3, o3) :: (P, PySem.W.listOf its c) :: (R', PySem.W.listOf itsR cR) :: (L + 2, o2) :: (L + 1, o1) :: (tups ++ sn) → q ∈ nw ∨ q ∈ sn := fun {q} hq => by
    rw [← hnw]
    have := List.mem_append.mp (show q ∈ ((O, PySem.W.listOf ys cO) :: (L + 3, o3) :: (P, PySem.W.listOf its c) :: (R', PySem.W.listOf itsR cR) :: (L + 2, o2) :: (L + 1, o1) :: tups) ++ sn from hq)
    exact this
  have fin : ∀ b ∈ [147, st, dd, rd, c', ct, cy, cx], ∀ {h' : Heap} {o : Obj}, (∀ b o, g.get? b = some o → h'.get? b = some o) → (∀ p ∈ tups ++ sn, h'.get? p.1 = some p.2) → h3.get? b = some o → h'.get? b = some o := fun b hb h' o kg ks e => by
    rcases CS b hb o e with q | q
    · exact kg _ _ q
    · exact ks _ (List.mem_append_right _ q)
  refine go g L h4 _ _ ⟨textOf ps, tx, st, rd, dd, tkA, ry, ct, cy, cx, x, dx, pb⟩ ⟨hh1, hh2, hh3, hh4, kk1, kk2, kk3, kk4, tt1, ttw, t1, 0, t2, 0, 0⟩ P its c R' itsR cR o1 o2 o3 t O ys cO (tups ++ sn) vs rfl hL rfl F4 ?_ ⟨?_, ?_, ?_⟩ ?_ ?_ (tupIn_more PT' fun q h => List.mem_append_left _ h) IR IO ?_ ?_ ?_ ?_ d3 d2 d1 ?_
  · intro p hp
    rcases List.mem_append.mp hp with hp | hp
    · have M : ∀ {q : Addr × Obj}, h4.get? q.1 = some q.2 → q.1 ∈ [x, dx, tkA, ry, pb] → h4.get? q.1 = some q.2 ∧ q.1 ≠ L ∧ g.get? q.1 = none := fun e hb => ⟨e, (movg _ hb).2, (movg _ hb).1⟩
      exact all5 (p := fun q : Addr × Obj => h4.get? q.1 = some q.2 ∧ q.1 ≠ L ∧ g.get? q.1 = none) (M edx (by k_mem)) (M ex (by k_mem)) (M (k4 _ _ tkL etk) (by k_mem)) (M (k4 _ _ ryL ery) (by k_mem)) (M epb (by k_mem)) p hp
    · rcases mS hp with hp | hp
      · exact N4 p hp
      · exact NS4 p hp
  · intro b hb
    cases q : (Kr w.params).lookup b with
    | none => rfl
    | some o => exact absurd ((movg b hb).1.symm.trans (X' b o q)) (by intro e; cases e)
  · have e1 : x ≠ dx := Nat.ne_of_gt l1
    have e2 : x ≠ tkA := ne3 nx ⟨_, etk⟩
    have e3 : x ≠ ry := ne3 nx ⟨_, ery⟩
    have e4 : x ≠ pb := Nat.ne_of_lt l2
    have e5 : dx ≠ tkA := ne3 ndx ⟨_, etk⟩
    have e6 : dx ≠ ry := ne3 ndx ⟨_, ery⟩
    have e7 : dx ≠ pb := Nat.ne_of_lt (Nat.lt_trans l1 l2)
    have e8 : tkA ≠ pb := (ne3 npb ⟨_, etk⟩).symm
    have e9 : ry ≠ pb := (ne3 npb ⟨_, ery⟩).symm
    exact nd5 e1 e2 e3 e4 e5 e6 e7 (nd_ne (i := 3) (j := 4) hnd rfl rfl (by decide)) e8 e9
  · intro h' kg ks
    exact ⟨⟨_, fin st (by k_mem) kg ks est⟩, ⟨_, _, fin dd (by k_mem) kg ks edd⟩, ⟨_, fin rd (by k_mem) kg ks erd, hfd, c', oc', vs', tq, q1, fin c' (by k_mem) kg ks q2, q3, q4⟩, fin ct (by k_mem) kg ks ect, fin cy (by k_mem) kg ks ecy, fin cx (by k_mem) kg ks ecx⟩
  · intro p hp
    rcases mS hp with hp | hp
    · exact disn p hp
    · exact diss p hp
  · intro p hp
    rcases List.mem_cons.mp hp with rfl | hp
    · intro e
      have h13 : h1.get? (L + 3) = some o3 := (N1 _ (.head _)).1
      exact nO _ _ h13 e.symm
    · rcases List.mem_append.mp (show p ∈ ((P, PySem.W.listOf its c) :: (R', PySem.W.listOf itsR cR) :: (L + 2, o2) :: (L + 1, o1) :: tups) ++ sn from hp) with hp | hp
      · exact ne1 p hp
      · exact ne3s p hp
  · show (if _ then _ else if _ then _ else if _ then _ else _) = _
    rw [if_neg (by decide), if_neg (by decide), if_neg (by decide)]; exact pg2
  · show (if _ then _ else if _ then _ else if _ then _ else _) = _
    rw [if_neg (by decide), if_neg (by decide), if_neg (by decide)]; exact or2
  · show (if _ then _ else if _ then _ else if _ then _ else _) = _
    rw [if_neg (by decide), if_pos rfl]
  · show (if _ then _ else if _ then _ else if _ then _ else _) = _
    rw [if_pos rfl]
  · rcases CS 147 (by k_mem) _ e147 with q | q
    · rw [g147] at q; cases q
    · exact List.mem_append_right _ q
end
theorem join_tick_Wk40_0 : True := by
  w_top off
  first | walk1 | exact trivial
section
local macro_rules | `(tactic| k_is) => `(tactic| first | exact kp_152 _ | exact kp_157 _ | exact kp_65 _ | exact kp_74 _ | exact kp_52 _)
section
local macro_rules | `(tactic| walk_at "And") => `(tactic| k_dflt (refine Stop.of ?_))
section
local macro_rules | `(tactic| walk_at "binaryOp Add ref ref") => `(tactic| k_dflt (refine Stop.of ?_))
section
noncomputable def forI : Stmt → PySem.Expr
  | .For _ e _ _ _ => e
  | _ => default
noncomputable def forT : Stmt → PySem.Expr
  | .For t _ _ _ _ => t
  | _ => default
theorem cutsF_len (p : Str) : ∀ f i, (cutsF p f i).length ≤ f
  | 0, _ => Nat.le_refl _
  | f + 1, i => by
    rw [cutsF]
    split
    · split
      · rw [List.length_cons]; have := cutsF_len p f (i + 2); omega
      · rw [List.length_cons]; have := cutsF_len p f (i + 1); omega
    · exact Nat.zero_le _
theorem wordsF_len (cs : List (Str × Bool × Nat)) : ∀ f k, (wordsF cs f k).length ≤ f
  | 0, _ => Nat.le_refl _
  | f + 1, k => by
    rw [wordsF]
    split
    · dsimp only
      split
      · have := wordsF_len cs f (k + 1); omega
      · split
        · rw [List.length_cons]; have := wordsF_len cs f (lastF cs "\"" (cs.length + 1) (k + 1) + 1); omega
        · rw [List.length_cons]; have := wordsF_len cs f (lastF cs "\n\t\r " (cs.length + 1) k + 1); omega
    · exact Nat.zero_le _
theorem words_len (p : Str) : (wordsOf p).length ≤ p.length + 2 := by
  have h1 := wordsF_len (cutsOf p) ((cutsOf p).length + 1) 0
  have h2 : (cutsOf p).length ≤ p.length + 1 := cutsF_len p _ _
  exact Nat.le_trans h1 (by omega)
noncomputable abbrev lawWs (page : Str) : List (Str × Option Nat) := wordsOf page ++ [(("" : Str), none), (("" : Str), none)]
theorem paired_app {α β : Type} {R : α → β → Prop} {a b : List α} {c d : List β} (x : Paired R a c) (y : Paired R b d) : Paired R (a ++ b) (c ++ d) := by
  induction x with
  | nil => exact y
  | cons h _ ih => exact .cons h ih
set_option maxHeartbeats 4000000 in
theorem it6 {w : World} {A : Around} {s : Shared} {g : Heap} {mg mb : Str → Option Value} {Q : Value → Shared → Prop} {L : Addr} {m : Str → Option Value} {nw : List (Addr × Obj)} {page : Str} {t : Tok}
    (X : (Kr w.params).In g) (T : TopRead q0 loose0 mg mb g) (hA : A.depth < 900) (hh : A.handled = none) (F : Fr g L s.heap m) (N : News g L s.heap nw) (hm : m "page" = some (.str page t)) (hp : page.length < 100)
    (go : ∀ h' tk' D vs' tups, Fr g L h' m → News g L h' ((D, PySem.W.listOf vs' 0) :: (tups ++ nw)) → (∀ p ∈ tups ++ nw, p.1 ≠ D) → Tups tups → Paired (RefIn g WordS tups) vs'.toList (lawWs page) → Q (.ref D) { s with heap := h', toks := tk' }) :
    wpAny (model p0 w) A (eval (forI (nth (fBody (stm 14)) 6)) (lwEnv L)) Q (fun _ _ => False) s := by
  conv => arg 3; arg 1; whnf
  k_steps
  refine Stop.go ⟨X.keeps F.keep, ?_⟩
  refine wpAny_call (codeAny_mono (words_code (s := ⟨s.heap, _, _, _, _⟩) ⟨X.keeps F.keep, T.keeps F.keep⟩ hp hA hh) fun r s' h => ?_)
  obtain ⟨D1, vs1, rfl, ⟨h1, tk1, rfl, k1⟩, hl1, P1⟩ := h
  have k1 : ∀ b o, s.heap.get? b = some o → h1.get? b = some o := k1
  have hl1 : h1.IsList D1 vs1.toArray := hl1
  have P1 : Paired (WordOf h1) vs1 (wordsOf page) := P1
  have F1 : Fr g L h1 m := F.keeps k1
  have N1 := N.keepsAll k1
  clear F N
  obtain ⟨tups, NT, TT, PT⟩ := tups_of F1 (paired_mono (fun _ _ z => wordOf_iff.mp z) P1)
  obtain ⟨sn, NS, IS, CS⟩ := news_any F1 [D1] (fun b hb => by
    rw [show b = D1 by simpa using hb]
    obtain ⟨o, ho, hc, n, hd⟩ := hl1
    exact ⟨⟨o, ho⟩, obj_ne ho F1.ns.choose_spec.choose_spec.choose_spec.1 (by rw [hd, F1.ns.choose_spec.choose_spec.choose_spec.2.1]; intro e; cases e)⟩)
  have N2 : News g L h1 (sn ++ (tups ++ nw)) := News.append NS (News.append NT N1)
  generalize hnw : sn ++ (tups ++ nw) = nw2 at N2
  clear N1 NT NS
  k_steps
  rename_i Da _ _ Db _ _ l' h2 F2 N2' _
  have hl2 : h2.IsList D1 vs1.toArray := by
    obtain ⟨o, ho, r⟩ := hl1
    rcases CS D1 (by simp) o ho with q | q
    · exact ⟨o, F2.keep _ _ q, r⟩
    · exact ⟨o, (N2' _ (.tail _ (.tail _ (.tail _ (by rw [← hnw]; exact List.mem_append_left _ q))))).1, r⟩
  have len1 := P1.length
  have len2 := words_len page
  refine Stop.go (add_lists (s := ⟨h2, _, _, _, _⟩) (vs := vs1) (ws := [.ref Da, .ref Db]) F2 N2' hl2 (News.isList N2' (.head _)) (fun h' F' N' => ?_) (by rw [sizeLine_eq]; simp only [List.length_cons, List.length_nil]; omega))
  refine go h' _ _ (vs1 ++ [Value.ref Da, Value.ref Db]).toArray ((Db, ({ cls := .type "tuple", data := .seq #[.str (Str.ofString "") (tk1 + 1), .none] } : Obj)) :: (Da, ({ cls := .type "tuple", data := .seq #[.str (Str.ofString "") tk1, .none] } : Obj)) :: tups) F' (fun p hp => N' p ?_) (fun p hp => ?_) ?_ ?_
  · rcases List.mem_cons.mp hp with rfl | hp
    · exact .head _
    · refine .tail _ (.tail _ ?_)
      rcases List.mem_append.mp hp with hp | hp
      · rcases List.mem_cons.mp hp with rfl | hp
        · exact .head _
        · rcases List.mem_cons.mp hp with rfl | hp
          · exact .tail _ (.head _)
          · exact .tail _ (.tail _ (by rw [← hnw]; exact List.mem_append_right _ (List.mem_append_left _ hp)))
      · exact .tail _ (.tail _ (by rw [← hnw]; exact List.mem_append_right _ (List.mem_append_right _ hp)))
  · have : ∃ o, h2.get? p.1 = some o := by
      refine ⟨p.2, (N2' p ?_).1⟩
      refine .tail _ ?_
      rcases List.mem_append.mp hp with hp | hp
      · rcases List.mem_cons.mp hp with rfl | hp
        · exact .head _
        · rcases List.mem_cons.mp hp with rfl | hp
          · exact .tail _ (.head _)
          · exact .tail _ (.tail _ (by rw [← hnw]; exact List.mem_append_right _ (List.mem_append_left _ hp)))
      · exact .tail _ (.tail _ (by rw [← hnw]; exact List.mem_append_right _ (List.mem_append_right _ hp)))
    obtain ⟨o, ho⟩ := this
    exact Nat.ne_of_lt (Heap.lt_size ho)
  · intro q hq
    rcases List.mem_cons.mp hq with rfl | hq
    · exact ⟨rfl, _, _, rfl⟩
    · rcases List.mem_cons.mp hq with rfl | hq
      · exact ⟨rfl, _, _, rfl⟩
      · exact TT q hq
  · have e : (vs1 ++ [Value.ref Da, .ref Db]).toArray.toList = vs1 ++ [Value.ref Da, .ref Db] := rfl
    rw [e]
    refine paired_app (paired_mono (fun _ _ z => z.more fun q h => .tail _ (.tail _ h)) PT) (.cons ⟨_, _, rfl, .inr ⟨_, .tail _ (.head _), rfl, _, rfl⟩, ⟨_, _, rfl, rfl⟩⟩ (.cons ⟨_, _, rfl, .inr ⟨_, .head _, rfl, _, rfl⟩, ⟨_, _, rfl, rfl⟩⟩ .nil))
end
end
end
end
end
end
end
end
end
end
end
theorem join_tick_Wk41_0 : True := by
  w_top off
  first | walk1 | exact trivial
section
local macro_rules | `(tactic| walk_at "eval Name") => `(tactic| k_dflt (first
  | (refine' nameX_L ?F ?v ?_ ?a ?b; (case b => with_reducible first | exact lk_script _ | exact lk_page _ | exact lk_origins _ | exact lk_stream _ | exact lk_taken _ | exact lk_lexer _ | exact lk_token _ | exact lk_behind _ | exact lk_far _ | exact lk_due _ | exact lk_lines _ | exact lk_low _ | exact lk_high _); (case F => k_asm); (case a => exact lk_fn); (case v => first | assumption | rfl); k_whole)
  | (refine' nameX_C ?N ?c ?m ?d ?_ ?a ?b; (case b => with_reducible first | exact lk_pieces _ | exact lk_row _ | exact lk_place _); (case a => exact lk_fn); (case N => k_asm); (case c => rfl); (case m => k_mem); (case d => exact rfl); k_whole)
  | (refine' nameX_K ?F ?X ?T ?e ?_ ?a ?b; (case b => with_reducible first | exact lk_range _ | exact lk_len _ | exact lk_law_stream _ | exact lk_netrclex _ | exact lk_law_words _ | exact lk_bisect_right _ | exact lk_bisect_left _ | exact lk_list _); (case F => k_asm); (case X => k_asm); (case T => k_asm); (case a => exact lk_fn); (case e => first | with_reducible k_is | k_is); k_whole)
  | (refine' nameX_B ?F ?X ?T ?e ?v ?n ?_ ?a ?b; (case b => with_reducible first | exact lk_range _ | exact lk_len _ | exact lk_law_stream _ | exact lk_netrclex _ | exact lk_law_words _ | exact lk_bisect_right _ | exact lk_bisect_left _ | exact lk_list _); (case F => k_asm); (case X => k_asm); (case T => k_asm); (case a => exact lk_fn); (case e => first | with_reducible k_is | k_is); (case v => boot_fast); (case n => decide); k_whole)))
section
local macro_rules | `(tactic| walk_at "eval ListComp") => `(tactic| k_dflt (refine Stop.of ?_))
section
local macro_rules | `(tactic| walk_at "call ref") => `(tactic| k_dflt (refine Stop.of ?_))
section
local macro_rules | `(tactic| walk_at "exec Assign cons ListComp") => `(tactic| k_dflt (refine Stop.of ?_))
section
local macro_rules | `(tactic| walk_at "call builtin:str.join") => `(tactic| k_dflt (refine Stop.of ?_))
section
local macro_rules | `(tactic| walk_at "assign Tuple") => `(tactic| k_dflt (refine Stop.of ?_))
section
local macro_rules | `(tactic| walk_at "call type:52") => `(tactic| k_dflt (refine Stop.of ?_))
section
local macro_rules | `(tactic| k_is) => `(tactic| first | exact kp_152 _ | exact kp_157 _ | exact kp_65 _ | exact kp_74 _ | exact kp_52 _)
section
local macro_rules | `(tactic| walk_at "And") => `(tactic| k_dflt (refine Stop.of ?_))
section
local macro_rules | `(tactic| walk_at "binaryOp Add ref ref") => `(tactic| k_dflt (refine Stop.of ?_))
section
local macro_rules | `(tactic| k_is) => `(tactic| first | exact hd52 _ | exact ng0 _ | exact pg_in _ | exact pg_ln _ | exact pg_ws _ | exact pg_pb _ | exact pg_rc _ | exact pg_gt _ | exact pg_pt _ | exact fi_in _ | exact fi_ln _ | exact fi_ws _ | exact fi_pb _ | exact fi_rc _ | exact fi_gt _ | exact fi_pt _ | exact fn35 _ | exact fn42 _ | exact fn49 _ | exact sa52 _ | exact po52 _ | exact ti_ln _ | exact kp_35 _ | exact kp_42 _ | exact kp_49 _)
section
local macro_rules | `(tactic| walk_at "getAttr ref") => `(tactic| k_dflt (refine' get_own ?k1 ?k2 ?k3 ?k4 ?k5 ?k6 ?k7 ?k8 ?k9 ?_; (case k1 => k_asm); (case k2 => k_asm); (case k3 => k_inst); (case k4 => first | with_reducible k_is | k_is); (case k5 => first | with_reducible k_is | k_is); (case k6 => first | with_reducible k_is | k_is); (case k7 => first | with_reducible k_is | k_is); (case k8 => k_get); (case k9 => k_handed); k_whole))
section
local macro_rules | `(tactic| walk_at "getMethod ref") => `(tactic| k_dflt (refine' method_inst ?k1 ?k2 ?k3 ?k4 ?k5 ?k6 ?k7 ?_; (case k1 => k_asm); (case k2 => k_asm); (case k3 => k_inst); (case k4 => first | with_reducible k_is | k_is); (case k5 => first | with_reducible k_is | k_is); (case k6 => first | with_reducible k_is | k_is); (case k7 => k_get); k_whole))
section
noncomputable def wdB : List Stmt := forB (nth (fBody (stm 14)) 6)
theorem AtLaw.lex {P : Params} {g h : Heap} {L : Addr} {m : Str → Option Value} {a : Ad} {ln n : Nat} {r : Str} {pbs : Array Value} {d : Hid} {rest : List (Addr × Obj)} (S : AtLaw P g a rest) (F : Fr g L h m) (N : News g L h (lexNews a ln n r pbs d ++ rest)) : LexSt P h a ln n r pbs :=
  ⟨S.sa h F.keep fun p hp => (N p (List.mem_append_right _ hp)).1, (N _ (.tail _ (.head _))).1, ⟨_, _, _, _, _, _, _, _, _, _, (N _ (.head _)).1⟩, ⟨_, _, (N _ (.tail _ (.tail _ (.head _)))).1⟩, ⟨_, _, (N _ (.tail _ (.tail _ (.tail _ (.head _))))).1⟩, ⟨_, (N _ (.tail _ (.tail _ (.tail _ (.tail _ (.head _)))))).1⟩, S.off, S.nd⟩
theorem lex_back {P : Params} {g h h' : Heap} {L : Addr} {m : Str → Option Value} {a : Ad} {ln n ln' n' : Nat} {r r' : Str} {pbs pbs' : Array Value} {d : Hid} {rest : List (Addr × Obj)} (F : Fr g L h m) (N : News g L h (lexNews a ln n r pbs d ++ rest)) (dis : ∀ p ∈ rest, p.1 ∉ a.mov)
    (M : Moved a.mov h h') (Z : LexSt P h' a ln' n' r' pbs') : Fr g L h' m ∧ ∃ d', News g L h' (lexNews a ln' n' r' pbs' d' ++ rest) :=
  ⟨fr_moved F M (fun b hb => (mov_of N b hb).2) (fun hm => (mov_of N _ hm).1 rfl), news_of N Z fun p hp => M _ _ (dis p hp) (N p (List.mem_append_right _ hp)).1⟩
end
theorem join_tick_Wk41_1 : True := by
  w_top off
  first | walk1 | exact trivial
section
local macro_rules | `(tactic| walk_at "ite") => `(tactic| k_dflt (refine Stop.of ?_))
section
section
variable {w : World} {A : Around} {s : Shared} {g : Heap} {mg mb : Str → Option Value} {Q : Flow → Shared → Prop} {L : Addr} {m : Str → Option Value} {rest : List (Addr × Obj)} {a : Ad} {σ σ' : Sg} {d : Hid} {k : Nat} {t : Str} {tt : Tok}
set_option maxHeartbeats 4000000 in
theorem wd0 (X : (Kr w.params).In g) (T : TopRead q0 loose0 mg mb g) (hA : A.depth < 897) (hh : A.handled = none) (F : Fr g L s.heap m) (N : News g L s.heap (lexNews a σ.1 σ.2.1 σ.2.2 #[] d ++ rest)) (Z : AtLaw w.params g a rest) (dis : ∀ p ∈ rest, p.1 ∉ a.mov)
    (hx : m "lexer" = some (.ref a.x)) (ht : m "token" = some (.str t tt)) (D : Gt a.text k σ t σ') (o : Ok a.text σ) (hk : k ≤ 100000) (htl : a.text.length ≤ 1000)
    (go : ∀ h' tk' d', Fr g L h' m → News g L h' (lexNews a σ'.1 σ'.2.1 σ'.2.2 #[] d' ++ rest) → Q .next { s with heap := h', toks := tk' }) :
    wpAny (model p0 w) A (exec (nth wdB 0) (lwEnv L)) Q (fun _ _ => False) s := by
  have N0 := N
  dsimp only [lexNews, List.cons_append, List.nil_append] at N
  conv => arg 3; arg 1; whnf
  k_steps
  refine Stop.go (wpAny_call (codeAny_mono (gt_code (s := ⟨s.heap, _, _, _, _⟩) ⟨X.keeps F.keep, T.keeps F.keep⟩ (Z.lex F N0) D o hk hA hh htl) fun r s' h => ?_))
  obtain ⟨v, h', tk', rfl, ⟨t', rfl⟩, rfl, M, Z'⟩ := h
  have M : Moved a.mov s.heap h' := M
  obtain ⟨F', d', N'⟩ := lex_back F N0 dis M Z'
  clear F N N0
  k_steps
  refine Stop.go (ite_no (by simp) ?_)
  k_steps
  exact go _ _ _ F' N'
set_option maxHeartbeats 4000000 in
theorem wd1 (X : (Kr w.params).In g) (T : TopRead q0 loose0 mg mb g) (hA : A.depth < 897) (hh : A.handled = none) (F : Fr g L s.heap m) (N : News g L s.heap (lexNews a σ.1 σ.2.1 σ.2.2 #[] d ++ rest)) (Z : AtLaw w.params g a rest) (dis : ∀ p ∈ rest, p.1 ∉ a.mov)
    (hx : m "lexer" = some (.ref a.x)) (ht : m "token" = some (.str t tt))
    (go : ∀ h' tk' d', Fr g L h' m → News g L h' (lexNews a σ.1 σ.2.1 σ.2.2 #[.str t tt] d' ++ rest) → Q .next { s with heap := h', toks := tk' }) :
    wpAny (model p0 w) A (exec (nth wdB 1) (lwEnv L)) Q (fun _ _ => False) s := by
  have N0 := N
  dsimp only [lexNews, List.cons_append, List.nil_append] at N
  conv => arg 3; arg 1; whnf
  k_steps
  refine Stop.go ⟨X.keeps F.keep, wpAny_call (codeAny_mono (pt_code (s := ⟨s.heap, _, _, _, _⟩) ⟨X.keeps F.keep, T.keeps F.keep⟩ (Z.lex F N0) hA hh) fun r s' h => ?_)⟩
  obtain ⟨v, h', tk', rfl, rfl, rfl, M, Z'⟩ := h
  have M : Moved a.mov s.heap h' := M
  obtain ⟨F', d', N'⟩ := lex_back F N0 dis M Z'
  exact go _ _ _ F' N'
set_option maxHeartbeats 4000000 in
theorem wd2 (X : (Kr w.params).In g) (T : TopRead q0 loose0 mg mb g) (hA : A.depth < 897) (hh : A.handled = none) (F : Fr g L s.heap m) (N : News g L s.heap (lexNews a σ.1 σ.2.1 σ.2.2 #[.str t tt] d ++ rest)) (Z : AtLaw w.params g a rest) (dis : ∀ p ∈ rest, p.1 ∉ a.mov)
    (hx : m "lexer" = some (.ref a.x)) (ht : m "token" = some (.str t tt))
    (go : ∀ h' tk' d', Fr g L h' m → News g L h' (lexNews a σ.1 σ.2.1 σ.2.2 #[] d' ++ rest) → Q .next { s with heap := h', toks := tk' }) :
    wpAny (model p0 w) A (exec (nth wdB 2) (lwEnv L)) Q (fun _ _ => False) s := by
  have N0 := N
  dsimp only [lexNews, List.cons_append, List.nil_append] at N
  conv => arg 3; arg 1; whnf
  k_steps
  refine Stop.go (wpAny_call (codeAny_mono (gt_pop (s := ⟨s.heap, _, _, _, _⟩) ⟨X.keeps F.keep, T.keeps F.keep⟩ (Z.lex F N0) hA hh) fun r s' h => ?_))
  obtain ⟨v, h', tk', rfl, rfl, rfl, M, Z'⟩ := h
  have M : Moved a.mov s.heap h' := M
  obtain ⟨F', d', N'⟩ := lex_back F N0 dis M Z'
  clear F N N0
  k_steps
  refine Stop.go (ite_no (by simp) ?_)
  k_steps
  exact go _ _ _ F' N'
end
end
end
theorem join_tick_Wk42_0 : True := by
  w_top off
  first | walk1 | exact trivial
section
local macro_rules | `(tactic| walk_at "subscriptTail Name BinOp ref int") => `(tactic| k_dflt (refine Stop.of ?_))
section
local macro_rules | `(tactic| walk_at "call builtin:len") => `(tactic| k_dflt (first | (refine len_list (News.isList (by assumption) (by k_mem)) (by omega) ?_) | (refine SBL.len (by omega) ?_)))
section
section
variable {w : World} {A : Around} {s : Shared} {g : Heap} {mg mb : Str → Option Value} {Q : Flow → Shared → Prop} {L O P R' : Addr} {m : Str → Option Value} {more : List (Addr × Obj)} {page : Str} {t : Tok} {its itsR ys : Array Value} {c cR cO : Nat} {o1 o2 : Obj} {rl ol : List Int}
set_option maxHeartbeats 4000000 in
theorem wd3n (X : (Kr w.params).In g) (T : TopRead q0 loose0 mg mb g) (hA : A.depth < 897) (hh : A.handled = none) (F : Fr g L s.heap m) (N : News g L s.heap ((O, PySem.W.listOf ys cO) :: (P, PySem.W.listOf its c) :: (R', PySem.W.listOf itsR cR) :: (L + 2, o2) :: (L + 1, o1) :: more))
    (d2 : o2.data = .cell (some (.ref R'))) (d1 : o1.data = .cell (some (.ref P))) (hpg : m "page" = some (.str page t)) (hbe : m "behind" = some .none) (hp : page.length < 100) (IR : IntsAre itsR.toList rl) (hs : Sorted rl) (hrl : rl.length < 100) (hsz : its.size ≤ 1000)
    (go : ∀ h' tk' r t1 t2 t3, IsBr rl page.length r → Fr g L h' (fun y => if y = Str.ofString "lines" then some (.int (Txt.count page (Str.ofString "\n")) t1) else if y = Str.ofString "due" then some (.int (its.size : Nat) t2) else if y = Str.ofString "far" then some (.int ((r : Int) - 1) t3) else m y) →
      News g L h' ((O, PySem.W.listOf ys cO) :: (P, PySem.W.listOf its c) :: (R', PySem.W.listOf itsR cR) :: (L + 2, o2) :: (L + 1, o1) :: more) → Q .next { s with heap := h', toks := tk' }) :
    wpAny (model p0 w) A (exec (nth wdB 3) (lwEnv L)) Q (fun _ _ => False) s := by
  have C2 : s.heap.IsCell (L + 2) (some (.ref R')) := ⟨o2, (N _ (.tail _ (.tail _ (.tail _ (.head _))))).1, d2⟩
  conv => arg 3; arg 1; whnf
  k_steps
  have hlR : s.heap.IsList R' itsR.toList.toArray := by
    rw [Array.toArray_toList]; exact News.isList N (.tail _ (.tail _ (.head _)))
  refine Stop.go ⟨X.keeps F.keep, wpAny_call (codeAny_mono (br_code (s := ⟨s.heap, s.gens, s.drawn, s.toks + 1 + 1, s.os⟩) ⟨X.keeps F.keep, T.keeps F.keep⟩ hlR IR hs hrl (Nat.lt_trans hA (by decide))) fun r s' h => ?_)⟩
  obtain ⟨n, tk1, rfl, ⟨h1, tk2, rfl, k1⟩, hbr⟩ := h
  have k1 : ∀ b o, s.heap.get? b = some o → h1.get? b = some o := k1
  have F1 : Fr g L h1 m := F.keeps k1
  have N1 := N.keepsAll k1
  clear F N C2 hlR
  have C1 : h1.IsCell (L + 1) (some (.ref P)) := ⟨o1, (N1 _ (.tail _ (.tail _ (.tail _ (.tail _ (.head _)))))).1, d1⟩
  k_steps
  rename_i F' N'
  exact go _ _ _ _ _ _ hbr F' N'
set_option maxHeartbeats 4000000 in
theorem wd3s {b : Nat} {tb : Tok} {due : Int} (X : (Kr w.params).In g) (T : TopRead q0 loose0 mg mb g) (hA : A.depth < 897) (hh : A.handled = none) (F : Fr g L s.heap m) (N : News g L s.heap ((O, PySem.W.listOf ys cO) :: (P, PySem.W.listOf its c) :: (R', PySem.W.listOf itsR cR) :: (L + 2, o2) :: (L + 1, o1) :: more))
    (d2 : o2.data = .cell (some (.ref R'))) (hpg : m "page" = some (.str page t)) (hor : m "origins" = some (.ref O)) (hbe : m "behind" = some (.int (b : Nat) tb)) (hp : page.length < 100) (IR : IntsAre itsR.toList rl) (hs : Sorted rl) (hrl : rl.length < 100)
    (IO : IntsAre ys.toList ol) (hb1 : 1 ≤ b) (hb2 : b ≤ page.length) (hdue : ol[b - 1]? = some due)
    (go : ∀ h' tk' r t1 t2 t3, IsBl rl (b : Nat) r → Fr g L h' (fun y => if y = Str.ofString "lines" then some (.int (Txt.count (Txt.slice page none (some (b : Nat))) (Str.ofString "\n")) t1) else if y = Str.ofString "due" then some (.int (due + 1) t2) else if y = Str.ofString "far" then some (.int (r : Nat) t3) else m y) →
      News g L h' ((O, PySem.W.listOf ys cO) :: (P, PySem.W.listOf its c) :: (R', PySem.W.listOf itsR cR) :: (L + 2, o2) :: (L + 1, o1) :: more) → Q .next { s with heap := h', toks := tk' }) :
    wpAny (model p0 w) A (exec (nth wdB 3) (lwEnv L)) Q (fun _ _ => False) s := by
  have C2 : s.heap.IsCell (L + 2) (some (.ref R')) := ⟨o2, (N _ (.tail _ (.tail _ (.tail _ (.head _))))).1, d2⟩
  conv => arg 3; arg 1; whnf
  k_steps
  have hlR : s.heap.IsList R' itsR.toList.toArray := by
    rw [Array.toArray_toList]; exact News.isList N (.tail _ (.tail _ (.head _)))
  refine Stop.go ⟨X.keeps F.keep, wpAny_call (codeAny_mono (bl_code (s := ⟨s.heap, s.gens, s.drawn, s.toks, s.os⟩) ⟨X.keeps F.keep, T.keeps F.keep⟩ hlR IR hs hrl (Nat.lt_trans hA (by decide))) fun r s' h => ?_)⟩
  obtain ⟨n, tk1, rfl, ⟨h1, tk2, rfl, k1⟩, hbr⟩ := h
  have k1 : ∀ b o, s.heap.get? b = some o → h1.get? b = some o := k1
  have F1 : Fr g L h1 m := F.keeps k1
  have N1 := N.keepsAll k1
  clear F N C2 hlR
  k_steps
  rename_i h2 F2 N2
  obtain ⟨td, hx⟩ := ints_at IO hdue
  have hx' : ys[((b : Int) - 1).toNat]? = some (.int due td) := by
    rw [show ((b : Int) - 1).toNat = b - 1 from by omega, ← Array.getElem?_toList]; exact hx
  refine Stop.go (item_list (News.isList N2 (.head _)) (by omega) (by omega) hx' ?_)
  k_steps
  rename_i F' N'
  exact go _ _ _ _ _ _ hbr F' N'
end
end
end
end
theorem join_tick_Wk43_0 : True := by
  w_top off
  first | walk1 | exact trivial
section
local macro_rules | `(tactic| walk_at "ite") => `(tactic| k_dflt (refine Stop.of ?_))
section
local macro_rules | `(tactic| walk_at "subscriptTail Name Constant ref int") => `(tactic| k_dflt (refine Stop.of ?_))
section
set_option maxHeartbeats 4000000 in
theorem wd4 {w : World} {A : Around} {s : Shared} {g : Heap} {mg mb : Str → Option Value} {Q : Flow → Shared → Prop} {L : Addr} {m : Str → Option Value} {rest : List (Addr × Obj)} {a : Ad} {σ : Sg} {d : Hid} {D l : Int} {t1 t2 t3 : Tok}
    (X : (Kr w.params).In g) (T : TopRead q0 loose0 mg mb g) (F : Fr g L s.heap m) (N : News g L s.heap (lexNews a σ.1 σ.2.1 σ.2.2 #[] d ++ rest))
    (hx : m "lexer" = some (.ref a.x)) (htk : m "taken" = some (.ref a.tk)) (hf : m "far" = some (.int D t1)) (hd : m "due" = some (.int D t2)) (hl : m "lines" = some (.int l t3)) (h1 : ((σ.2.1 : Nat) : Int) = D) (h2 : ((σ.1 : Nat) : Int) = l + 1)
    (go : ∀ h' tk', Fr g L h' m → News g L h' (lexNews a σ.1 σ.2.1 σ.2.2 #[] d ++ rest) → Q .next { s with heap := h', toks := tk' }) :
    wpAny (model p0 w) A (exec (nth wdB 4) (lwEnv L)) Q (fun _ _ => False) s := by
  have N0 := N
  dsimp only [lexNews, List.cons_append, List.nil_append] at N
  conv => arg 3; arg 1; whnf
  k_steps
  refine Stop.go (ite_no (by simp) ?_)
  k_steps
  refine Stop.go (item_list (x := .int (σ.2.1 : Nat) d.t2) (News.isList N (.tail _ (.tail _ (.head _)))) (by decide) (by decide) rfl ?_)
  k_steps
  refine Stop.go (ite_no (by rw [h1]; simp) ?_)
  k_steps
  refine Stop.go (ite_no (by rw [h2]; simp) ?_)
  k_steps
  refine Stop.go (ite_no rfl ?_)
  k_steps
  exact go _ _ F N0
/-- what a turn of the words' loop finds -/
noncomputable def TurnOk (page : Str) (rl ol : List Int) (np : Nat) (σ : Sg) : Option Nat → Prop
  | none => σ.2.1 = np ∧ ((σ.1 : Nat) : Int) = Txt.count page (Str.ofString "\n") + 1 ∧ ∀ r : Nat, IsBr rl page.length r → (r : Int) - 1 = np
  | some b => 1 ≤ b ∧ b ≤ page.length ∧ ∃ due, ol[b - 1]? = some due ∧ ((σ.2.1 : Nat) : Int) = due + 1 ∧ ((σ.1 : Nat) : Int) = Txt.count (Txt.slice page none (some (b : Nat))) (Str.ofString "\n") + 1 ∧ ∀ r : Nat, IsBl rl (b : Nat) r → (r : Int) = due + 1
inductive Runs (text page : Str) (rl ol : List Int) (np : Nat) : List (Str × Option Nat) → Sg → Prop
  | nil {σ} : Runs text page rl ol np [] σ
  | cons {t beh k σ σ' W} : Gt text k σ t σ' → k ≤ 100000 → Ok text σ → TurnOk page rl ol np σ' beh → Runs text page rl ol np W σ' → Runs text page rl ol np ((t, beh) :: W) σ
theorem AtLaw.more {P : Params} {g : Heap} {a : Ad} {l l' : List (Addr × Obj)} (Z : AtLaw P g a l) (k : ∀ q ∈ l, q ∈ l') : AtLaw P g a l' := ⟨Z.off, Z.nd, fun h' kg kl => Z.sa h' kg fun p hp => kl p (k p hp)⟩
theorem wd_body : wdB = [nth wdB 0, nth wdB 1, nth wdB 2, nth wdB 3, nth wdB 4] := by kernel_rfl!
theorem wd_target : ∃ px py k pt, forT (nth (fBody (stm 14)) 6) = .Tuple [.Name (Str.ofString "token") px, .Name (Str.ofString "behind") py] k pt := ⟨_, _, _, _, rfl⟩
theorem paired_cons {α β : Type} {R : α → β → Prop} {l : List α} {b : β} {bs : List β} (h : Paired R l (b :: bs)) : ∃ x xs, l = x :: xs ∧ R x b ∧ Paired R xs bs := by
  cases h with
  | cons h r => exact ⟨_, _, rfl, h, r⟩
theorem paired_nil {α β : Type} {R : α → β → Prop} {l : List α} (h : Paired R l ([] : List β)) : l = [] := by cases h; rfl
set_option maxHeartbeats 4000000 in
theorem words_loop {w : World} {A : Around} {s : Shared} {g : Heap} {mg mb : Str → Option Value} {Q : Flow → Shared → Prop} {L O P R' I D : Addr} {rest tups : List (Addr × Obj)} {page : Str} {t : Tok} {its itsR ys vs : Array Value} {c cR cO : Nat} {o1 o2 : Obj} {rl ol : List Int} {a : Ad}
    (X : (Kr w.params).In g) (T : TopRead q0 loose0 mg mb g) (hA : A.depth < 897) (hh : A.handled = none) (Z : AtLaw w.params g a rest) (dis : ∀ p ∈ rest, p.1 ∉ a.mov) (disI : I ∉ a.mov) (neI : ∀ p ∈ rest, p.1 ≠ I)
    (hD : (D, PySem.W.listOf vs 0) ∈ rest) (hO : (O, PySem.W.listOf ys cO) ∈ rest) (hP : (P, PySem.W.listOf its c) ∈ rest) (hR : (R', PySem.W.listOf itsR cR) ∈ rest) (hL2 : (L + 2, o2) ∈ rest) (hL1 : (L + 1, o1) ∈ rest) (htu : ∀ q ∈ tups, q ∈ rest)
    (d2 : o2.data = .cell (some (.ref R'))) (d1 : o1.data = .cell (some (.ref P))) (hp : page.length < 100) (IR : IntsAre itsR.toList rl) (hs : Sorted rl) (hrl : rl.length < 100) (hsz : its.size ≤ 1000) (IO : IntsAre ys.toList ol) (htl : a.text.length ≤ 1000)
    (fin : ∀ h' tk' m', Fr g L h' m' → News g L h' rest → m' "page" = some (.str page t) → m' "origins" = some (.ref O) → Q .next { s with heap := h', toks := tk' }) :
    ∀ (W : List (Str × Option Nat)) (i : Nat) (σ : Sg) (h : Heap) (tk : Nat) (m : Str → Option Value) (d : Hid) (oI : Obj), Runs a.text page rl ol its.size W σ → Paired (RefIn g WordS tups) (vs.toList.drop i) W → Fr g L h m → News g L h (lexNews a σ.1 σ.2.1 σ.2.2 #[] d ++ (I, oI) :: rest) →
      oI.cls = .type "list_iterator" → oI.data = .fields #[.ref D, .int i 0] → m "page" = some (.str page t) → m "origins" = some (.ref O) → m "taken" = some (.ref a.tk) → m "lexer" = some (.ref a.x) →
      ForRest w A (lwEnv L) (forT (nth (fBody (stm 14)) 6)) (.ref I) wdB Q { s with heap := h, toks := tk } := by
  obtain ⟨px, py, k0, pt, hT⟩ := wd_target
  rw [hT, wd_body]
  intro W
  induction W with
  | nil =>
    intro i σ h tk m d oI RU PW F N hc hd mp mo mt ml
    have hIm := N (I, oI) (List.mem_append_right _ (.head _))
    have hl : h.IsList D vs := News.isList N (List.mem_append_right _ (.tail _ hD))
    have hnone : vs[i]? = none := by
      have := paired_nil PW
      rw [← Array.getElem?_toList]
      rw [List.drop_eq_nil_iff] at this
      exact List.getElem?_eq_none this
    refine for_turn (wpAny_pyNext_list_end hh ⟨oI, hIm.1, hc, hd⟩ hl hnone fun h1 e1 => ?_)
    have gI : ∀ b o, g.get? b = some o → b ≠ I := fun b o e q => by rw [q, hIm.2.2] at e; cases e
    refine fin h1 tk m ⟨F.ns.at' fun o e => e1 _ _ hIm.2.1.symm e, fun b o e => e1 b o (gI b o e) (F.keep b o e), F.above⟩ (fun p hp => ⟨e1 _ _ (neI p hp) (N p (List.mem_append_right _ (.tail _ hp))).1, (N p (List.mem_append_right _ (.tail _ hp))).2⟩) mp mo
  | cons wd W ih =>
    intro i σ h tk m d oI RU PW F N hc hd mp mo mt ml
    obtain ⟨x, xs, hdrop, hx, PW'⟩ := paired_cons PW
    have hIm := N (I, oI) (List.mem_append_right _ (.head _))
    have hl : h.IsList D vs := News.isList N (List.mem_append_right _ (.tail _ hD))
    have hsome : vs[i]? = some x := by
      rw [← Array.getElem?_toList]
      have := congrArg (fun l => l[0]?) hdrop
      simpa using this
    have hdrop' : vs.toList.drop (i + 1) = xs := by
      rw [← List.drop_drop, hdrop]; rfl
    have gI : ∀ b o, g.get? b = some o → b ≠ I := fun b o e q => by rw [q, hIm.2.2] at e; cases e
    refine for_turn (wpAny_pyNext_list_item ⟨oI, hIm.1, hc, hd⟩ hl hsome fun h1 hit1 s1 => ?_)
    dsimp only
    refine no_go hit1 ?_
    have s1 : Heap.SameBut I h h1 := s1
    obtain ⟨oI', eI', hc', hd'⟩ := id hit1
    have nxL : ∀ p ∈ lexNews a σ.1 σ.2.1 σ.2.2 #[] d, p.1 ≠ I := fun p hp e => disI (by
      rw [← e]
      simp only [List.mem_cons, List.not_mem_nil, or_false] at hp
      rcases hp with rfl | rfl | rfl | rfl | rfl <;> simp)
    have F1 : Fr g L h1 m := ⟨F.ns.at' fun o e => s1.extBut _ _ hIm.2.1.symm e, fun b o e => s1.extBut b o (gI b o e) (F.keep b o e), F.above⟩
    have N1 : News g L h1 (lexNews a σ.1 σ.2.1 σ.2.2 #[] d ++ (I, oI') :: rest) := by
      intro p hp
      rcases List.mem_append.mp hp with hp | hp
      · exact ⟨s1.extBut _ _ (nxL p hp) (N p (List.mem_append_left _ hp)).1, (N p (List.mem_append_left _ hp)).2⟩
      · rcases List.mem_cons.mp hp with rfl | hp
        · exact ⟨eI', hIm.2⟩
        · exact ⟨s1.extBut _ _ (neI p hp) (N p (List.mem_append_right _ (.tail _ hp))).1, (N p (List.mem_append_right _ (.tail _ hp))).2⟩
    obtain ⟨ta, titems, rfl, htin, t1, bv, rfl, hbv⟩ := hx
    have htup : IsTup h1 ta #[.str wd.1 t1, bv] := by
      obtain ⟨a', i', e', z', r'⟩ := RefIn.of (G := fun (it : Array Value) (_ : Unit) => it = #[.str wd.1 t1, bv]) (p := ()) ⟨ta, _, rfl, htin, rfl⟩ F1 N1 fun q hq => List.mem_append_right _ (.tail _ (htu q hq))
      cases e'
      rw [← r']
      exact z'
    refine asg2 (s := ⟨h1, _, _, _, _⟩) hh htup F1.ns (by kernel_rfl!) (by kernel_rfl!) (by kernel_rfl!) fun h2 tk2 n2 k2 => ?_
    have k2 : ∀ b o, b ≠ L → h1.get? b = some o → h2.get? b = some o := k2
    have gL : ∀ b o, g.get? b = some o → b ≠ L := fun b o e => Nat.ne_of_lt (Nat.lt_of_lt_of_le (Heap.lt_size e) F.above)
    have F2 : Fr g L h2 _ := ⟨n2, fun b o e => k2 b o (gL b o e) (F1.keep b o e), F.above⟩
    have N2 : News g L h2 (lexNews a σ.1 σ.2.1 σ.2.2 #[] d ++ (I, oI') :: rest) := fun p hp => ⟨k2 _ _ (N1 p hp).2.1 (N1 p hp).1, (N1 p hp).2⟩
    have Z2 : AtLaw w.params g a ((I, oI') :: rest) := Z.more fun q h => .tail _ h
    have dis2 : ∀ p ∈ (I, oI') :: rest, p.1 ∉ a.mov := fun p hp => by
      rcases List.mem_cons.mp hp with rfl | hp
      · exact disI
      · exact dis p hp
    have m2 : ∀ {x : Str} {v : Value}, m x = some v → x ≠ Str.ofString "behind" → x ≠ Str.ofString "token" → (fun z => if z = Str.ofString "behind" then some bv else if z = Str.ofString "token" then some (Value.str wd.1 t1) else m z) x = some v := fun {x v} e n1 n2 => by
      show (if _ then _ else if _ then _ else _) = _
      rw [if_neg n1, if_neg n2]; exact e
    have m2p := m2 mp (by decide) (by decide)
    have m2o := m2 mo (by decide) (by decide)
    have m2t := m2 mt (by decide) (by decide)
    have m2l := m2 ml (by decide) (by decide)
    have m2k : (fun z => if z = Str.ofString "behind" then some bv else if z = Str.ofString "token" then some (Value.str wd.1 t1) else m z) (Str.ofString "token") = some (.str wd.1 t1) := by
      show (if _ then _ else if _ then _ else _) = _
      rw [if_neg (by decide), if_pos rfl]
    have m2b : (fun z => if z = Str.ofString "behind" then some bv else if z = Str.ofString "token" then some (Value.str wd.1 t1) else m z) (Str.ofString "behind") = some bv := by
      show (if _ then _ else if _ then _ else _) = _
      rw [if_pos rfl]
    generalize (fun z => if z = Str.ofString "behind" then some bv else if z = Str.ofString "token" then some (Value.str wd.1 t1) else m z) = mm at F2 m2p m2o m2t m2l m2k m2b n2
    clear m2 N1 F1 N F
    cases RU with
    | @cons tw beh k _ σ' _ hG hk hok hT RU' =>
    dsimp only at m2k hbv
    refine wpAny_execs_cons (wd0 (s := ⟨h2, _, _, _, _⟩) X T hA hh F2 N2 Z2 dis2 m2l m2k hG hok hk htl fun h3 tk3 d3 F3 N3 => ?_)
    refine wpAny_execs_cons (wd1 (s := ⟨h3, _, _, _, _⟩) X T hA hh F3 N3 Z2 dis2 m2l m2k fun h4 tk4 d4 F4 N4 => ?_)
    refine wpAny_execs_cons (wd2 (s := ⟨h4, _, _, _, _⟩) X T hA hh F4 N4 Z2 dis2 m2l m2k fun h5 tk5 d5 F5 N5 => ?_)
    have N5' : News g L h5 ((O, PySem.W.listOf ys cO) :: (P, PySem.W.listOf its c) :: (R', PySem.W.listOf itsR cR) :: (L + 2, o2) :: (L + 1, o1) :: (lexNews a σ'.1 σ'.2.1 σ'.2.2 #[] d5 ++ (I, oI') :: rest)) := by
      have r : ∀ q ∈ rest, q ∈ lexNews a σ'.1 σ'.2.1 σ'.2.2 #[] d5 ++ (I, oI') :: rest := fun q hq => List.mem_append_right _ (.tail _ hq)
      refine fcons ?_ (fcons ?_ (fcons ?_ (fcons ?_ (fcons ?_ ?_))))
      · exact N5 _ (r _ hO)
      · exact N5 _ (r _ hP)
      · exact N5 _ (r _ hR)
      · exact N5 _ (r _ hL2)
      · exact N5 _ (r _ hL1)
      · intro p hp
        exact N5 _ hp
    have next : ∀ (h6 : Heap) (tk6 : Nat) (far due lines : Value) (D0 l0 : Int) (u1 u2 u3 : Tok), far = .int D0 u1 → due = .int D0 u2 → lines = .int l0 u3 → ((σ'.2.1 : Nat) : Int) = D0 → ((σ'.1 : Nat) : Int) = l0 + 1 → Fr g L h6 (fun y => if y = Str.ofString "lines" then some lines else if y = Str.ofString "due" then some due else if y = Str.ofString "far" then some far else mm y) →
        News g L h6 ((O, PySem.W.listOf ys cO) :: (P, PySem.W.listOf its c) :: (R', PySem.W.listOf itsR cR) :: (L + 2, o2) :: (L + 1, o1) :: (lexNews a σ'.1 σ'.2.1 σ'.2.2 #[] d5 ++ (I, oI') :: rest)) →
        wpAny (model p0 w) A (execs [nth wdB 4] (lwEnv L)) (ForPost w A (lwEnv L) (.Tuple [.Name (Str.ofString "token") px, .Name (Str.ofString "behind") py] k0 pt) (.ref I) [nth wdB 0, nth wdB 1, nth wdB 2, nth wdB 3, nth wdB 4] Q) (fun _ _ => False) { s with heap := h6, toks := tk6 } := by
      rintro h6 tk6 far due lines D0 l0 u1 u2 u3 rfl rfl rfl e1 e2 F6 N6
      have m3 : ∀ {x : Str} {v : Value}, mm x = some v → x ≠ Str.ofString "lines" → x ≠ Str.ofString "due" → x ≠ Str.ofString "far" → (fun y => if y = Str.ofString "lines" then some (Value.int l0 u3) else if y = Str.ofString "due" then some (Value.int D0 u2) else if y = Str.ofString "far" then some (Value.int D0 u1) else mm y) x = some v := fun {x v} e n1 n2 n3 => by
        show (if _ then _ else if _ then _ else if _ then _ else _) = _
        rw [if_neg n1, if_neg n2, if_neg n3]; exact e
      have q1 : (fun y => if y = Str.ofString "lines" then some (Value.int l0 u3) else if y = Str.ofString "due" then some (Value.int D0 u2) else if y = Str.ofString "far" then some (Value.int D0 u1) else mm y) (Str.ofString "far") = some (.int D0 u1) := by
        show (if _ then _ else if _ then _ else if _ then _ else _) = _
        rw [if_neg (by decide), if_neg (by decide), if_pos rfl]
      have q2 : (fun y => if y = Str.ofString "lines" then some (Value.int l0 u3) else if y = Str.ofString "due" then some (Value.int D0 u2) else if y = Str.ofString "far" then some (Value.int D0 u1) else mm y) (Str.ofString "due") = some (.int D0 u2) := by
        show (if _ then _ else if _ then _ else if _ then _ else _) = _
        rw [if_neg (by decide), if_pos rfl]
      have q3 : (fun y => if y = Str.ofString "lines" then some (Value.int l0 u3) else if y = Str.ofString "due" then some (Value.int D0 u2) else if y = Str.ofString "far" then some (Value.int D0 u1) else mm y) (Str.ofString "lines") = some (.int l0 u3) := by
        show (if _ then _ else if _ then _ else if _ then _ else _) = _
        rw [if_pos rfl]
      have N6' : News g L h6 (lexNews a σ'.1 σ'.2.1 σ'.2.2 #[] d5 ++ (I, oI') :: rest) := fun p hp => N6 p (.tail _ (.tail _ (.tail _ (.tail _ (.tail _ hp)))))
      refine wpAny_execs_cons (wd4 (s := ⟨h6, _, _, _, _⟩) X T F6 N6' (m3 m2l (by decide) (by decide) (by decide)) (m3 m2t (by decide) (by decide) (by decide)) q1 q2 q3 e1 e2 fun h7 tk7 F7 N7 => ?_)
      refine wpAny_execs_nil ?_
      exact ih (i + 1) σ' h7 tk7 _ d5 oI' RU' (by rw [hdrop']; exact PW') F7 N7 hc' hd' (m3 m2p (by decide) (by decide) (by decide)) (m3 m2o (by decide) (by decide) (by decide)) (m3 m2t (by decide) (by decide) (by decide)) (m3 m2l (by decide) (by decide) (by decide))
    cases beh with
    | none =>
      obtain ⟨e1, e2, e3⟩ := hT
      have hbv : bv = .none := hbv
      subst hbv
      refine wpAny_execs_cons (wd3n (s := ⟨h5, _, _, _, _⟩) X T hA hh F5 N5' d2 d1 m2p m2b hp IR hs hrl hsz fun h6 tk6 r u1 u2 u3 hbr F6 N6 => ?_)
      exact next h6 tk6 _ _ _ ((its.size : Nat) : Int) _ _ _ _ (by rw [e3 r hbr]) rfl rfl (by rw [e1]) e2 F6 N6
    | some b =>
      obtain ⟨b1, b2, due, hdue, e1, e2, e3⟩ := hT
      have hbv : ∃ t, bv = .int (b : Nat) t := hbv
      obtain ⟨tb, rfl⟩ := hbv
      refine wpAny_execs_cons (wd3s (s := ⟨h5, _, _, _, _⟩) X T hA hh F5 N5' d2 m2p m2o m2b hp IR hs hrl IO b1 b2 hdue fun h6 tk6 r u1 u2 u3 hbr F6 N6 => ?_)
      exact next h6 tk6 _ _ _ (due + 1) _ _ _ _ (by rw [e3 r hbr]) rfl rfl e1 e2 F6 N6
end
end
end
theorem join_tick_Wk44_0 : True := by
  w_top off
  first | walk1 | exact trivial
section
section
variable {w : World} {A : Around} {s : Shared} {g : Heap} {mg mb : Str → Option Value} {Q : Flow → Shared → Prop} {L O P R' : Addr} {m : Str → Option Value} {more : List (Addr × Obj)} {place : Nat} {its itsR ys : Array Value} {c cR cO : Nat} {o1 o2 o3 : Obj} {rl ol : List Int} {tp : Tok}
set_option maxHeartbeats 4000000 in
theorem pl0 (X : (Kr w.params).In g) (T : TopRead q0 loose0 mg mb g) (hA : A.depth < 897) (hh : A.handled = none) (F : Fr g L s.heap m) (N : News g L s.heap ((O, PySem.W.listOf ys cO) :: (P, PySem.W.listOf its c) :: (R', PySem.W.listOf itsR cR) :: (L + 2, o2) :: (L + 1, o1) :: (L + 3, o3) :: more))
    (d2 : o2.data = .cell (some (.ref R'))) (d3 : o3.data = .cell (some (.int (place : Nat) tp))) (IR : IntsAre itsR.toList rl) (hs : Sorted rl) (hrl : rl.length < 100)
    (go : ∀ h' tk' r t1, IsBl rl (place : Nat) r → Fr g L h' (fun y => if y = Str.ofString "low" then some (.int (r : Nat) t1) else m y) → News g L h' ((O, PySem.W.listOf ys cO) :: (P, PySem.W.listOf its c) :: (R', PySem.W.listOf itsR cR) :: (L + 2, o2) :: (L + 1, o1) :: (L + 3, o3) :: more) → Q .next { s with heap := h', toks := tk' }) :
    wpAny (model p0 w) A (exec (nth plB 0) (lwEnv L)) Q (fun _ _ => False) s := by
  have C2 : s.heap.IsCell (L + 2) (some (.ref R')) := ⟨o2, (N _ (.tail _ (.tail _ (.tail _ (.head _))))).1, d2⟩
  have C3 : s.heap.IsCell (L + 3) (some (.int (place : Nat) tp)) := ⟨o3, (N _ (.tail _ (.tail _ (.tail _ (.tail _ (.tail _ (.head _))))))).1, d3⟩
  conv => arg 3; arg 1; whnf
  k_steps
  have hlR : s.heap.IsList R' itsR.toList.toArray := by
    rw [Array.toArray_toList]; exact News.isList N (.tail _ (.tail _ (.head _)))
  refine Stop.go ⟨X.keeps F.keep, wpAny_call (codeAny_mono (bl_code (s := ⟨s.heap, s.gens, s.drawn, s.toks, s.os⟩) ⟨X.keeps F.keep, T.keeps F.keep⟩ hlR IR hs hrl (Nat.lt_trans hA (by decide))) fun r s' h => ?_)⟩
  obtain ⟨n, tk1, rfl, ⟨h1, tk2, rfl, k1⟩, hbr⟩ := h
  have k1 : ∀ b o, s.heap.get? b = some o → h1.get? b = some o := k1
  have F1 : Fr g L h1 m := F.keeps k1
  have N1 := N.keepsAll k1
  clear F N C2 C3 hlR
  k_steps
  rename_i F' N'
  exact go _ _ _ _ hbr F' N'
set_option maxHeartbeats 4000000 in
theorem pl1 (X : (Kr w.params).In g) (T : TopRead q0 loose0 mg mb g) (hA : A.depth < 897) (hh : A.handled = none) (F : Fr g L s.heap m) (N : News g L s.heap ((O, PySem.W.listOf ys cO) :: (P, PySem.W.listOf its c) :: (R', PySem.W.listOf itsR cR) :: (L + 2, o2) :: (L + 1, o1) :: (L + 3, o3) :: more))
    (d2 : o2.data = .cell (some (.ref R'))) (d3 : o3.data = .cell (some (.int (place : Nat) tp))) (IR : IntsAre itsR.toList rl) (hs : Sorted rl) (hrl : rl.length < 100)
    (go : ∀ h' tk' r t1, IsBr rl (place : Nat) r → Fr g L h' (fun y => if y = Str.ofString "high" then some (.int ((r : Nat) - 1) t1) else m y) → News g L h' ((O, PySem.W.listOf ys cO) :: (P, PySem.W.listOf its c) :: (R', PySem.W.listOf itsR cR) :: (L + 2, o2) :: (L + 1, o1) :: (L + 3, o3) :: more) → Q .next { s with heap := h', toks := tk' }) :
    wpAny (model p0 w) A (exec (nth plB 1) (lwEnv L)) Q (fun _ _ => False) s := by
  have C2 : s.heap.IsCell (L + 2) (some (.ref R')) := ⟨o2, (N _ (.tail _ (.tail _ (.tail _ (.head _))))).1, d2⟩
  have C3 : s.heap.IsCell (L + 3) (some (.int (place : Nat) tp)) := ⟨o3, (N _ (.tail _ (.tail _ (.tail _ (.tail _ (.tail _ (.head _))))))).1, d3⟩
  conv => arg 3; arg 1; whnf
  k_steps
  have hlR : s.heap.IsList R' itsR.toList.toArray := by
    rw [Array.toArray_toList]; exact News.isList N (.tail _ (.tail _ (.head _)))
  refine Stop.go ⟨X.keeps F.keep, wpAny_call (codeAny_mono (br_code (s := ⟨s.heap, s.gens, s.drawn, s.toks, s.os⟩) ⟨X.keeps F.keep, T.keeps F.keep⟩ hlR IR hs hrl (Nat.lt_trans hA (by decide))) fun r s' h => ?_)⟩
  obtain ⟨n, tk1, rfl, ⟨h1, tk2, rfl, k1⟩, hbr⟩ := h
  have k1 : ∀ b o, s.heap.get? b = some o → h1.get? b = some o := k1
  have F1 : Fr g L h1 m := F.keeps k1
  have N1 := N.keepsAll k1
  clear F N C2 C3 hlR
  k_steps
  rename_i F' N'
  exact go _ _ _ _ hbr F' N'
end
end
theorem join_tick_Wk46_0 : True := by
  w_top off
  first | walk1 | exact trivial
section
local macro_rules | `(tactic| walk_at "call builtin:len") => `(tactic| k_dflt (first | (refine len_list (News.isList (by assumption) (by k_mem)) (by omega) ?_) | (refine SBL.len (by omega) ?_)))
section
local macro_rules | `(tactic| walk_at "ite") => `(tactic| k_dflt (refine Stop.of ?_))
section
local macro_rules | `(tactic| walk_at "call type:list") => `(tactic| k_dflt (refine Stop.of ?_))
section
local macro_rules | `(tactic| walk_at "compareOp NotEq ref ref") => `(tactic| k_dflt (refine Stop.of ?_))
section
section
variable {w : World} {A : Around} {s : Shared} {g : Heap} {mg mb : Str → Option Value} {Q : Flow → Shared → Prop} {L O P R' : Addr} {m : Str → Option Value} {sn : List (Addr × Obj)} {place : Nat} {its itsR ys : Array Value} {c cR cO : Nat} {o1 o2 o3 : Obj} {rl ol : List Int} {tp : Tok} {ps : List (Str × Str)}
set_option maxHeartbeats 4000000 in
theorem pl2 {low : Nat} {high : Int} {t1 t2 : Tok} (X : (Kr w.params).In g) (T : TopRead q0 loose0 mg mb g) (hA : A.depth < 897) (hh : A.handled = none) (hu : A.units + 64 < cLine) (F : Fr g L s.heap m) (N : News g L s.heap ((O, PySem.W.listOf ys cO) :: (P, PySem.W.listOf its c) :: (R', PySem.W.listOf itsR cR) :: (L + 2, o2) :: (L + 1, o1) :: (L + 3, o3) :: sn))
    (d1 : o1.data = .cell (some (.ref P))) (d2 : o2.data = .cell (some (.ref R'))) (d3 : o3.data = .cell (some (.int (place : Nat) tp))) (IR : IntsAre itsR.toList rl) (PT : Paired (RefIn g PairS sn) its.toList ps) (hpl : ps.length ≤ 90) (hrl : ps.length ≤ rl.length)
    (hlo : m "low" = some (.int (low : Nat) t1)) (hhi : m "high" = some (.int high t2)) (b1 : low ≤ 1000) (b2 : -1000 ≤ high) (b3 : high ≤ 1000) (heq : rangeKs (low : Nat) (high - (low : Nat)).toNat = kList ps rl place)
    (go : ∀ h' tk', Fr g L h' m → News g L h' ((O, PySem.W.listOf ys cO) :: (P, PySem.W.listOf its c) :: (R', PySem.W.listOf itsR cR) :: (L + 2, o2) :: (L + 1, o1) :: (L + 3, o3) :: sn) → Q .next { s with heap := h', toks := tk' }) :
    wpAny (model p0 w) A (exec (nth plB 2) (lwEnv L)) Q (fun _ _ => False) s := by
  conv => arg 3; arg 1; whnf
  k_steps
  rename_i h1 tk1 t0 u0 v0 hr F1 N1 k1
  have hn : Builtin.Range.rangeSize (low : Nat) high 1 = (((high - (low : Nat)).toNat : Nat) : Int) := by
    rw [rangeSize_one]; split <;> omega
  refine Stop.go (kll_range (s := ⟨h1, _, _, _, _⟩) hh F1 N1 hr (small_one (by omega) (by omega) (by omega) (by omega)) hn (by omega) fun D us cD h2 tk2 F2 N2 lt2 I2 => ?_)
  k_steps
  refine Stop.go ?_
  have hps2 : Paired (PieceV h2) its.toList ps := paired_mono (fun _ _ z => pieceV_iff.mpr (z.of F2 N2 fun _ h => .tail _ (.tail _ (.tail _ (.tail _ (.tail _ (.tail _ (.tail _ h)))))))) PT
  have C1 : h2.IsCell (L + 1) (some (.ref P)) := ⟨o1, (N2 _ (.tail _ (.tail _ (.tail _ (.tail _ (.tail _ (.head _))))))).1, d1⟩
  have C2 : h2.IsCell (L + 2) (some (.ref R')) := ⟨o2, (N2 _ (.tail _ (.tail _ (.tail _ (.tail _ (.head _)))))).1, d2⟩
  have C3 : h2.IsCell (L + 3) (some (.int (place : Nat) tp)) := ⟨o3, (N2 _ (.tail _ (.tail _ (.tail _ (.tail _ (.tail _ (.tail _ (.head _)))))))).1, d3⟩
  have hP2 : h2.get? P = some (PySem.W.listOf its c) := (N2 _ (.tail _ (.tail _ (.head _)))).1
  have hR2 : h2.IsList R' itsR := News.isList N2 (.tail _ (.tail _ (.tail _ (.head _))))
  have hAd : A.depth < 900 := Nat.lt_trans hA (by decide)
  have hD2 : h2.IsList D us.toArray := News.isList N2 (.head _)
  with_reducible refine ev_as (e' := e7) ?q ?hh2
  case q => kernel_rfl!
  with_reducible refine comp7 (s := ⟨h2, _, _, _, _⟩) X T F2.keep C1 hP2 hps2 hpl C2 hR2 IR C3 hrl hAd hh fun h3 tk3 D3 ys3 pl3 is3 hn3 k3 => ?_
  have k3 : ∀ b o, h2.get? b = some o → h3.get? b = some o := k3
  have F3 := F2.keptAll k3
  have N3 := N2.keepsAll k3
  have hD3 := stays_list k3 hD2
  clear C1 C2 C3 hP2 hR2 hps2 F1 N1
  have hl3 : h3.IsList D3 ys3.toList.toArray := by rw [Array.toArray_toList]; exact pl3.isList
  k_steps
  refine Stop.go (ke_ne_ints (s := ⟨h3, _, _, _, _⟩) hD3 hl3 I2 is3 hu ?_)
  rw [heq, decide_eq_true rfl]
  k_steps
  refine Stop.go (ite_no rfl ?_)
  k_steps
  exact go _ _ F3 fun p hp => N3 p (.tail _ hp)
local macro_rules | `(tactic| walk_at "subscriptTail") => `(tactic| k_dflt (refine Stop.of ?_))
local macro_rules | `(tactic| walk_at "subscriptTail BinOp Name ref int") => `(tactic| k_dflt (refine Stop.of ?_))
set_option maxHeartbeats 4000000 in
theorem pl3 {high : Int} {t2 : Tok} (X : (Kr w.params).In g) (T : TopRead q0 loose0 mg mb g) (hA : A.depth < 897) (hh : A.handled = none) (F : Fr g L s.heap m) (N : News g L s.heap ((O, PySem.W.listOf ys cO) :: (P, PySem.W.listOf its c) :: (R', PySem.W.listOf itsR cR) :: (L + 2, o2) :: (L + 1, o1) :: (L + 3, o3) :: sn))
    (d1 : o1.data = .cell (some (.ref P))) (d3 : o3.data = .cell (some (.int (place : Nat) tp))) (IO : IntsAre ys.toList ol) (hol : ol.length ≤ 1000) (hsz : its.size ≤ 1000) (hor : m "origins" = some (.ref O)) 
    (hhi : m "high" = some (.int high t2)) (heq : (ol ++ [((its.size : Nat) : Int)])[place]? = some high)
    (go : ∀ h' tk', Fr g L h' m → News g L h' ((O, PySem.W.listOf ys cO) :: (P, PySem.W.listOf its c) :: (R', PySem.W.listOf itsR cR) :: (L + 2, o2) :: (L + 1, o1) :: (L + 3, o3) :: sn) → Q .next { s with heap := h', toks := tk' }) :
    wpAny (model p0 w) A (exec (nth plB 3) (lwEnv L)) Q (fun _ _ => False) s := by
  have C1 : s.heap.IsCell (L + 1) (some (.ref P)) := ⟨o1, (N _ (.tail _ (.tail _ (.tail _ (.tail _ (.head _)))))).1, d1⟩
  conv => arg 3; arg 1; whnf
  k_steps
  rename_i l2 h2 F2 N2 lt2
  have hO2 : h2.IsList O ys.toList.toArray := by rw [Array.toArray_toList]; exact News.isList N2 (.tail _ (.head _))
  have hlen : ys.toList.length = ol.length := IntsAre.length IO
  refine Stop.go (add_lists (s := ⟨h2, _, _, _, _⟩) (vs := ys.toList) (ws := [.int (its.size : Nat) (s.toks + 1)]) F2 N2 hO2 (News.isList N2 (.head _)) (fun h3 F3 N3 => ?_) (by rw [sizeLine_eq]; simp only [List.length_cons, List.length_nil]; omega))
  have C3 : h3.IsCell (L + 3) (some (.int (place : Nat) tp)) := ⟨o3, (N3 _ (.tail _ (.tail _ (.tail _ (.tail _ (.tail _ (.tail _ (.tail _ (.head _))))))))).1, d3⟩
  have II : IntsAre (ys.toList ++ [.int (its.size : Nat) (s.toks + 1)]) (ol ++ [((its.size : Nat) : Int)]) := ints_snoc IO
  obtain ⟨tx, hx⟩ := ints_at II heq
  clear F2 N2 hO2 C1
  have hpl : place < 2000 := by
    have := (List.getElem?_eq_some_iff.mp heq).1
    rw [List.length_append, List.length_cons, List.length_nil] at this
    omega
  k_steps
  refine Stop.go (kba_turn (value' := PySem.Expr.Name (PySem.Str.ofString "_") ⟨0, 0, 0, 0⟩) (fun _ => rfl) (item_list (News.isList N3 (.head _)) (Int.natCast_nonneg _) (by omega) (by rw [Int.toNat_natCast, List.getElem?_toArray]; exact hx) ?_))
  k_steps
  refine Stop.go (ite_no (by simp) ?_)
  k_steps
  exact go _ _ F3 fun p hp => N3 p (.tail _ (.tail _ hp))
end
end
end
end
end
theorem join_tick_Wk47_0 : True := by
  w_top off
  first | walk1 | exact trivial
section
local macro_rules | `(tactic| walk_at "Exists") => `(tactic| k_dflt (refine Stop.of ?_))
section
/-- what a place of the page tells -/
noncomputable def PlaceOk (ps : List (Str × Str)) (rl ol : List Int) (place : Nat) : Prop :=
  ∀ r1 r2 : Nat, IsBl rl (place : Nat) r1 → IsBr rl (place : Nat) r2 → rangeKs (r1 : Nat) (((r2 : Int) - 1) - (r1 : Nat)).toNat = kList ps rl place ∧ (ol ++ [((ps.length : Nat) : Int)])[place]? = some ((r2 : Int) - 1)
theorem i7_form : ∃ p1 p2 p3 p4 p5 p6 p7, forI (nth (fBody (stm 14)) 7) = .Call (.Name (Str.ofString "range") p1) [.BinOp (.Call (.Name (Str.ofString "len") p2) [.Name (Str.ofString "page") p3] [] p4) .Add (.Constant (.int 1) 0 p5) p6] [] p7 := ⟨_, _, _, _, _, _, _, rfl⟩
theorem pl_body : plB = [nth plB 0, nth plB 1, nth plB 2, nth plB 3] := by kernel_rfl!
theorem pl_target : ∃ px, forT (nth (fBody (stm 14)) 7) = .Name (Str.ofString "place") px := ⟨_, rfl⟩
theorem s7_form : ∃ pos, nth (fBody (stm 14)) 7 = .For (forT (nth (fBody (stm 14)) 7)) (forI (nth (fBody (stm 14)) 7)) plB [] pos := ⟨_, rfl⟩
section
variable {w : World} {A : Around} {s : Shared} {g : Heap} {mg mb : Str → Option Value} {Q : Flow → Shared → Prop} {L O P R' : Addr} {sn : List (Addr × Obj)} {its itsR ys : Array Value} {c cR cO : Nat} {o1 o2 : Obj} {rl ol : List Int} {ps : List (Str × Str)} {page : Str} {t : Tok}
set_option maxHeartbeats 4000000 in
theorem place_loop {I : Addr} (X : (Kr w.params).In g) (T : TopRead q0 loose0 mg mb g) (hA : A.depth < 897) (hh : A.handled = none) (hu : A.units + 64 < cLine)
    (d1 : o1.data = .cell (some (.ref P))) (d2 : o2.data = .cell (some (.ref R'))) (IR : IntsAre itsR.toList rl) (hs : Sorted rl) (hrl : rl.length < 100) (hps : ps.length ≤ 90) (hpr : ps.length ≤ rl.length) (IO : IntsAre ys.toList ol) (hol : ol.length ≤ 1000) (PT : Paired (RefIn g PairS sn) its.toList ps) (hp : page.length < 100)
    (gI : g.get? I = none) (IL : I ≠ L) (neI : ∀ p ∈ (O, PySem.W.listOf ys cO) :: (P, PySem.W.listOf its c) :: (R', PySem.W.listOf itsR cR) :: (L + 2, o2) :: (L + 1, o1) :: sn, p.1 ≠ I) (nI3 : L + 3 ≠ I)
    (ne3 : ∀ p ∈ (O, PySem.W.listOf ys cO) :: (P, PySem.W.listOf its c) :: (R', PySem.W.listOf itsR cR) :: (L + 2, o2) :: (L + 1, o1) :: sn, p.1 ≠ L + 3) (gL3 : g.get? (L + 3) = none)
    (OK : ∀ place, place ≤ page.length → PlaceOk ps rl ol place)
    (fin : ∀ h' tk' m', Fr g L h' m' → News g L h' sn → Q .next { s with heap := h', toks := tk' }) :
    ∀ (n i : Nat) (h : Heap) (tk : Nat) (m : Str → Option Value) (o3 : Obj), i + n = page.length + 1 → Fr g L h m → News g L h ((O, PySem.W.listOf ys cO) :: (P, PySem.W.listOf its c) :: (R', PySem.W.listOf itsR cR) :: (L + 2, o2) :: (L + 1, o1) :: (L + 3, o3) :: sn) → IsRangeIter h I (i : Nat) (n : Nat) 1 →
      (∃ v, o3.data = .cell v) → m "origins" = some (.ref O) →
      ForRest w A (lwEnv L) (forT (nth (fBody (stm 14)) 7)) (.ref I) plB Q { s with heap := h, toks := tk } := by
  obtain ⟨px, hT⟩ := pl_target
  have hpl' : its.size = ps.length := by rw [← Array.length_toList]; exact PT.length
  rw [hT, pl_body]
  intro n
  induction n with
  | zero =>
    intro i h tk m o3 hi F N hit d3 mo
    refine for_turn (wpAny_pyNext_range_end hh hit (by decide) fun h1 e1 => ?_)
    have gIne : ∀ b o, g.get? b = some o → b ≠ I := fun b o e q => by rw [q, gI] at e; cases e
    exact fin h1 tk m ⟨F.ns.at' fun o e => e1 _ _ IL.symm e, fun b o e => e1 b o (gIne b o e) (F.keep b o e), F.above⟩ fun p hp => ⟨e1 _ _ (neI p (.tail _ (.tail _ (.tail _ (.tail _ (.tail _ hp)))))) (N p (.tail _ (.tail _ (.tail _ (.tail _ (.tail _ (.tail _ hp))))))).1, (N p (.tail _ (.tail _ (.tail _ (.tail _ (.tail _ (.tail _ hp))))))).2⟩
  | succ n ih =>
    intro i h tk m o3 hi F N hit d3 mo
    obtain ⟨v3, d3⟩ := d3
    refine for_turn (wpAny_pyNext_range_item hit (by omega) fun h1 hit1 s1 => ?_)
    dsimp only
    refine wpAny_pure ?_
    have s1 : Heap.SameBut I h h1 := s1
    have gIne : ∀ b o, g.get? b = some o → b ≠ I := fun b o e q => by rw [q, gI] at e; cases e
    have F1 : Fr g L h1 m := ⟨F.ns.at' fun o e => s1.extBut _ _ IL.symm e, fun b o e => s1.extBut b o (gIne b o e) (F.keep b o e), F.above⟩
    have neI' : ∀ p ∈ (O, PySem.W.listOf ys cO) :: (P, PySem.W.listOf its c) :: (R', PySem.W.listOf itsR cR) :: (L + 2, o2) :: (L + 1, o1) :: (L + 3, o3) :: sn, p.1 ≠ I := by
      refine fcons ?_ (fcons ?_ (fcons ?_ (fcons ?_ (fcons ?_ (fcons ?_ ?_)))))
      · exact neI _ (.head _)
      · exact neI _ (.tail _ (.head _))
      · exact neI _ (.tail _ (.tail _ (.head _)))
      · exact neI _ (.tail _ (.tail _ (.tail _ (.head _))))
      · exact neI _ (.tail _ (.tail _ (.tail _ (.tail _ (.head _)))))
      · exact nI3
      · intro p hp
        exact neI _ (.tail _ (.tail _ (.tail _ (.tail _ (.tail _ hp)))))
    have N1 : News g L h1 ((O, PySem.W.listOf ys cO) :: (P, PySem.W.listOf its c) :: (R', PySem.W.listOf itsR cR) :: (L + 2, o2) :: (L + 1, o1) :: (L + 3, o3) :: sn) := fun p hp => ⟨s1.extBut _ _ (neI' p hp) (N p hp).1, (N p hp).2⟩
    have hm3 := N1 (L + 3, o3) (.tail _ (.tail _ (.tail _ (.tail _ (.tail _ (.head _))))))
    refine wpAny_assign_Name (wpAny_storeName_cell (s := ⟨h1, _, _, _, _⟩) (c := L + 3) (by kernel_rfl!) (by kernel_rfl!) (by kernel_rfl!) ⟨o3, hm3.1, d3⟩ fun h2 cp2 s2 => ?_)
    have s2 : Heap.SameBut (L + 3) h1 h2 := s2
    obtain ⟨o3', eo3, d3'⟩ := id cp2
    have eo3 : h2.get? (L + 3) = some o3' := eo3
    have F2 := F1.change s2 hm3.2.1 hm3.2.2
    have hit2 : IsRangeIter h2 I ((i + 1 : Nat) : Int) (n : Nat) 1 := by
      have e1 : ((i : Nat) : Int) + 1 = ((i + 1 : Nat) : Int) := by omega
      have e2 : ((n + 1 : Nat) : Int) - 1 = ((n : Nat) : Int) := by omega
      rw [e1, e2] at hit1
      exact s2.extBut _ _ nI3.symm hit1
    obtain ⟨oI, eI, rI⟩ : ∃ o, h2.get? I = some o ∧ ∀ h', h'.get? I = some o → IsRangeIter h' I ((i + 1 : Nat) : Int) (n : Nat) 1 := ⟨_, hit2, fun _ e => e⟩
    have N2 : News g L h2 ((O, PySem.W.listOf ys cO) :: (P, PySem.W.listOf its c) :: (R', PySem.W.listOf itsR cR) :: (L + 2, o2) :: (L + 1, o1) :: (L + 3, o3') :: (I, oI) :: sn) := by
      have r : ∀ p, p ∈ (O, PySem.W.listOf ys cO) :: (P, PySem.W.listOf its c) :: (R', PySem.W.listOf itsR cR) :: (L + 2, o2) :: (L + 1, o1) :: sn → p ∈ (O, PySem.W.listOf ys cO) :: (P, PySem.W.listOf its c) :: (R', PySem.W.listOf itsR cR) :: (L + 2, o2) :: (L + 1, o1) :: (L + 3, o3) :: sn → h2.get? p.1 = some p.2 ∧ p.1 ≠ L ∧ g.get? p.1 = none := fun p hp hp' => ⟨s2.extBut _ _ (ne3 p hp) (N1 p hp').1, (N1 p hp').2⟩
      refine fcons ?_ (fcons ?_ (fcons ?_ (fcons ?_ (fcons ?_ (fcons ?_ (fcons ?_ ?_))))))
      · exact r _ (.head _) (.head _)
      · exact r _ (.tail _ (.head _)) (.tail _ (.head _))
      · exact r _ (.tail _ (.tail _ (.head _))) (.tail _ (.tail _ (.head _)))
      · exact r _ (.tail _ (.tail _ (.tail _ (.head _)))) (.tail _ (.tail _ (.tail _ (.head _))))
      · exact r _ (.tail _ (.tail _ (.tail _ (.tail _ (.head _))))) (.tail _ (.tail _ (.tail _ (.tail _ (.head _)))))
      · exact ⟨eo3, hm3.2⟩
      · exact ⟨eI, IL, gI⟩
      · intro p hp
        exact r _ (.tail _ (.tail _ (.tail _ (.tail _ (.tail _ hp))))) (.tail _ (.tail _ (.tail _ (.tail _ (.tail _ (.tail _ hp))))))
    clear N1 F1 N F
    refine wpAny_execs_cons (pl0 (s := ⟨h2, _, _, _, _⟩) X T hA hh F2 N2 d2 d3' IR hs hrl fun h3 tk3 r1 u1 hb1 F3 N3 => ?_)
    refine wpAny_execs_cons (pl1 (s := ⟨h3, _, _, _, _⟩) X T hA hh F3 N3 d2 d3' IR hs hrl fun h4 tk4 r2 u2 hb2 F4 N4 => ?_)
    obtain ⟨q1, q2⟩ := OK i (by omega) r1 r2 hb1 hb2
    have hr1 := hb1.1
    have hr2 := hb2.1
    have m4 : ∀ {x : Str} {v : Value}, m x = some v → x ≠ Str.ofString "high" → x ≠ Str.ofString "low" → (fun y => if y = Str.ofString "high" then some (Value.int ((r2 : Int) - 1) u2) else if y = Str.ofString "low" then some (Value.int (r1 : Nat) u1) else m y) x = some v := fun {x v} e n1 n2 => by
      show (if _ then _ else if _ then _ else _) = _
      rw [if_neg n1, if_neg n2]; exact e
    have m4h : (fun y => if y = Str.ofString "high" then some (Value.int ((r2 : Int) - 1) u2) else if y = Str.ofString "low" then some (Value.int (r1 : Nat) u1) else m y) (Str.ofString "high") = some (Value.int ((r2 : Int) - 1) u2) := by
      show (if _ then _ else if _ then _ else _) = _
      rw [if_pos rfl]
    have m4l : (fun y => if y = Str.ofString "high" then some (Value.int ((r2 : Int) - 1) u2) else if y = Str.ofString "low" then some (Value.int (r1 : Nat) u1) else m y) (Str.ofString "low") = some (Value.int (r1 : Nat) u1) := by
      show (if _ then _ else if _ then _ else _) = _
      rw [if_neg (by decide), if_pos rfl]
    have m4o := m4 mo (by decide) (by decide)
    generalize (fun y => if y = Str.ofString "high" then some (Value.int ((r2 : Int) - 1) u2) else if y = Str.ofString "low" then some (Value.int (r1 : Nat) u1) else m y) = mm at F4 m4h m4l m4o
    clear m4
    refine wpAny_execs_cons (pl2 (s := ⟨h4, _, _, _, _⟩) X T hA hh hu F4 N4 d1 d2 d3' IR (tupIn_more PT fun _ h => .tail _ h) hps hpr m4l m4h (by omega) (by omega) (by omega) q1 fun h5 tk5 F5 N5 => ?_)
    refine wpAny_execs_cons (pl3 (s := ⟨h5, _, _, _, _⟩) X T hA hh F5 N5 d1 d3' IO hol (by omega) m4o m4h (by rw [hpl']; exact q2) fun h6 tk6 F6 N6 => ?_)
    refine wpAny_execs_nil ?_
    refine ih (i + 1) h6 tk6 mm o3' (by omega) F6 ?_ (rI _ (N6 (I, oI) (.tail _ (.tail _ (.tail _ (.tail _ (.tail _ (.tail _ (.head _)))))))).1) ⟨_, d3'⟩ m4o
    refine fcons ?_ (fcons ?_ (fcons ?_ (fcons ?_ (fcons ?_ (fcons ?_ ?_)))))
    · exact N6 _ (.head _)
    · exact N6 _ (.tail _ (.head _))
    · exact N6 _ (.tail _ (.tail _ (.head _)))
    · exact N6 _ (.tail _ (.tail _ (.tail _ (.head _))))
    · exact N6 _ (.tail _ (.tail _ (.tail _ (.tail _ (.head _)))))
    · exact N6 _ (.tail _ (.tail _ (.tail _ (.tail _ (.tail _ (.head _))))))
    · intro p hp
      exact N6 _ (.tail _ (.tail _ (.tail _ (.tail _ (.tail _ (.tail _ (.tail _ hp)))))))
set_option maxHeartbeats 4000000 in
theorem exec7 {o3 : Obj} {m : Str → Option Value} (X : (Kr w.params).In g) (T : TopRead q0 loose0 mg mb g) (hA : A.depth < 897) (hh : A.handled = none) (hu : A.units + 64 < cLine) (F : Fr g L s.heap m) (N : News g L s.heap ((O, PySem.W.listOf ys cO) :: (P, PySem.W.listOf its c) :: (R', PySem.W.listOf itsR cR) :: (L + 2, o2) :: (L + 1, o1) :: (L + 3, o3) :: sn))
    (d1 : o1.data = .cell (some (.ref P))) (d2 : o2.data = .cell (some (.ref R'))) (d3 : ∃ v, o3.data = .cell v) (IR : IntsAre itsR.toList rl) (hs : Sorted rl) (hrl : rl.length < 100) (hps : ps.length ≤ 90) (hpr : ps.length ≤ rl.length) (IO : IntsAre ys.toList ol) (hol : ol.length ≤ 1000) (PT : Paired (RefIn g PairS sn) its.toList ps) (hp : page.length < 100)
    (ne3 : ∀ p ∈ (O, PySem.W.listOf ys cO) :: (P, PySem.W.listOf its c) :: (R', PySem.W.listOf itsR cR) :: (L + 2, o2) :: (L + 1, o1) :: sn, p.1 ≠ L + 3) (mp : m "page" = some (.str page t)) (mo : m "origins" = some (.ref O))
    (OK : ∀ place, place ≤ page.length → PlaceOk ps rl ol place)
    (fin : ∀ h' tk' m', Fr g L h' m' → News g L h' sn → Q .next { s with heap := h', toks := tk' }) :
    wpAny (model p0 w) A (exec (nth (fBody (stm 14)) 7) (lwEnv L)) Q (fun _ _ => False) s := by
  obtain ⟨pos, es⟩ := s7_form
  obtain ⟨p1, p2, p3, p4, p5, p6, p7, ei⟩ := i7_form
  rw [es]
  refine for_start ?_ (by intro _; rw [ei]; rfl)
  rw [ei]
  refine range_iter (N := page.length + 1) X T F.keep (by omega) (by kernel_rfl!) (by kernel_rfl!) (by kernel_rfl!) (by kernel_rfl!) rfl ?_
  k_steps
  refine Stop.go ⟨_, by rw [show ((page.length : Int) + 1) = ((page.length + 1 : Nat) : Int) from by omega], ⟨_, _, rfl, fun _ _ e => e⟩, fun h1 tk1 I hI k1 hIn => ?_⟩
  have F1 := F.keptAll k1
  have N1 := N.keepsAll k1
  have hI0 : ∀ b o, s.heap.get? b = some o → b ≠ I := fun b o e q => by rw [q, hIn] at e; cases e
  have gI : g.get? I = none := by
    cases q : g.get? I with
    | none => rfl
    | some o => exact absurd rfl (hI0 _ _ (F.keep _ _ q))
  have IL : I ≠ L := by
    obtain ⟨o, _, _, e, _⟩ := F.ns
    exact (hI0 _ _ e).symm
  refine place_loop X T hA hh hu d1 d2 IR hs hrl hps hpr IO hol PT hp gI IL ?_ (hI0 _ _ (N (L + 3, o3) (.tail _ (.tail _ (.tail _ (.tail _ (.tail _ (.head _))))))).1) ne3 (N (L + 3, o3) (.tail _ (.tail _ (.tail _ (.tail _ (.tail _ (.head _))))))).2.2 OK fin (page.length + 1) 0 h1 tk1 m o3 (by omega) F1 N1 (by simpa using hI) d3 mo
  refine fcons ?_ (fcons ?_ (fcons ?_ (fcons ?_ (fcons ?_ ?_))))
  · exact hI0 _ _ (N _ (.head _)).1
  · exact hI0 _ _ (N _ (.tail _ (.head _))).1
  · exact hI0 _ _ (N _ (.tail _ (.tail _ (.head _)))).1
  · exact hI0 _ _ (N _ (.tail _ (.tail _ (.tail _ (.head _))))).1
  · exact hI0 _ _ (N _ (.tail _ (.tail _ (.tail _ (.tail _ (.head _)))))).1
  · intro p hp
    exact hI0 _ _ (N _ (.tail _ (.tail _ (.tail _ (.tail _ (.tail _ (.tail _ hp))))))).1
theorem s6_form : ∃ pos, nth (fBody (stm 14)) 6 = .For (forT (nth (fBody (stm 14)) 6)) (forI (nth (fBody (stm 14)) 6)) wdB [] pos := ⟨_, rfl⟩
theorem f6 (x : Value) (env : Env) : foldedSetIterable (forI (nth (fBody (stm 14)) 6)) env x = pure x := by rfl
set_option maxHeartbeats 4000000 in
theorem exec6 {o3 : Obj} {m : Str → Option Value} {a : Ad} {d : Hid} {σ : Sg} (X : (Kr w.params).In g) (T : TopRead q0 loose0 mg mb g) (hA : A.depth < 897) (hh : A.handled = none) (F : Fr g L s.heap m)
    (N : News g L s.heap (lexNews a σ.1 σ.2.1 σ.2.2 #[] d ++ (O, PySem.W.listOf ys cO) :: (L + 3, o3) :: (P, PySem.W.listOf its c) :: (R', PySem.W.listOf itsR cR) :: (L + 2, o2) :: (L + 1, o1) :: sn))
    (Z : AtLaw w.params g a sn) (dis : ∀ p ∈ (O, PySem.W.listOf ys cO) :: (L + 3, o3) :: (P, PySem.W.listOf its c) :: (R', PySem.W.listOf itsR cR) :: (L + 2, o2) :: (L + 1, o1) :: sn, p.1 ∉ a.mov)
    (d1 : o1.data = .cell (some (.ref P))) (d2 : o2.data = .cell (some (.ref R'))) (IR : IntsAre itsR.toList rl) (hs : Sorted rl) (hrl : rl.length < 100) (hsz : its.size ≤ 1000) (IO : IntsAre ys.toList ol) (hp : page.length < 100) (htl : a.text.length ≤ 1000)
    (mp : m "page" = some (.str page t)) (mo : m "origins" = some (.ref O)) (mt : m "taken" = some (.ref a.tk)) (ml : m "lexer" = some (.ref a.x)) (RU : Runs a.text page rl ol its.size (lawWs page) σ)
    (fin : ∀ h' tk' m', Fr g L h' m' → News g L h' ((O, PySem.W.listOf ys cO) :: (L + 3, o3) :: (P, PySem.W.listOf its c) :: (R', PySem.W.listOf itsR cR) :: (L + 2, o2) :: (L + 1, o1) :: sn) → m' "page" = some (.str page t) → m' "origins" = some (.ref O) → Q .next { s with heap := h', toks := tk' }) :
    wpAny (model p0 w) A (exec (nth (fBody (stm 14)) 6) (lwEnv L)) Q (fun _ _ => False) s := by
  obtain ⟨pos, es⟩ := s6_form
  rw [es]
  have hAd : A.depth < 900 := Nat.lt_trans hA (by decide)
  refine for_start ?_ (fun x => f6 x _)
  generalize hnw : (O, PySem.W.listOf ys cO) :: (L + 3, o3) :: (P, PySem.W.listOf its c) :: (R', PySem.W.listOf itsR cR) :: (L + 2, o2) :: (L + 1, o1) :: sn = nw at N dis fin
  refine it6 X T hAd hh F N mp hp fun h1 tk1 D vs tups F1 N1 neD TT PW => ?_
  refine wpAny_pyIter_list (s := ⟨h1, _, _, _, _⟩) (News.isList N1 (.head _)) ?_
  dsimp only
  have hlt : ∀ p ∈ (D, PySem.W.listOf vs 0) :: (tups ++ (lexNews a σ.1 σ.2.1 σ.2.2 #[] d ++ nw)), p.1 ≠ h1.objs.size := fun p hp => Nat.ne_of_lt (Heap.lt_size (N1 p hp).1)
  have movI : h1.objs.size ∉ a.mov := fun hm => by
    have e : ∃ o, h1.get? h1.objs.size = some o := by
      have q := fun (p : Addr × Obj) (hp : p ∈ lexNews a σ.1 σ.2.1 σ.2.2 #[] d) => (N1 p (.tail _ (List.mem_append_right _ (List.mem_append_left _ hp)))).1
      simp only [Ad.mov, List.mem_cons, List.not_mem_nil, or_false] at hm
      rcases hm with e | e | e | e | e
      · rw [e]; exact ⟨_, q _ (.tail _ (.head _))⟩
      · rw [e]; exact ⟨_, q _ (.head _)⟩
      · rw [e]; exact ⟨_, q _ (.tail _ (.tail _ (.head _)))⟩
      · rw [e]; exact ⟨_, q _ (.tail _ (.tail _ (.tail _ (.head _))))⟩
      · rw [e]; exact ⟨_, q _ (.tail _ (.tail _ (.tail _ (.tail _ (.head _)))))⟩
    obtain ⟨o, e⟩ := e
    exact absurd (Heap.lt_size e) (Nat.lt_irrefl _)
  have movOf : ∀ b ∈ a.mov, ∃ o, (b, o) ∈ lexNews a σ.1 σ.2.1 σ.2.2 #[] d ∧ o.cls ≠ .type "tuple" := fun b hm => by
    simp only [Ad.mov, List.mem_cons, List.not_mem_nil, or_false] at hm
    rcases hm with e | e | e | e | e
    · rw [e]; exact ⟨_, .tail _ (.head _), by intro q; cases q⟩
    · rw [e]; exact ⟨_, .head _, show (Value.type "dict" : Value) ≠ .type "tuple" from by decide⟩
    · rw [e]; exact ⟨_, .tail _ (.tail _ (.head _)), show (Value.type "list" : Value) ≠ .type "tuple" from by decide⟩
    · rw [e]; exact ⟨_, .tail _ (.tail _ (.tail _ (.head _))), show (Value.type "list" : Value) ≠ .type "tuple" from by decide⟩
    · rw [e]; exact ⟨_, .tail _ (.tail _ (.tail _ (.tail _ (.head _)))), show (Value.type "list" : Value) ≠ .type "tuple" from by decide⟩
  have hIL : h1.objs.size ≠ L := by
    obtain ⟨o, _, _, e, _⟩ := F1.ns
    exact (Nat.ne_of_lt (Heap.lt_size e)).symm
  have gI : g.get? h1.objs.size = none := by
    cases q : g.get? h1.objs.size with
    | none => rfl
    | some o => exact absurd (Heap.lt_size (F1.keep _ _ q)) (Nat.lt_irrefl _)
  have N2 : News g L (h1.push { cls := .type "list_iterator", data := .fields #[.ref D, .int 0 0] }) (lexNews a σ.1 σ.2.1 σ.2.2 #[] d ++ (h1.objs.size, { cls := .type "list_iterator", data := .fields #[.ref D, .int 0 0] }) :: (D, PySem.W.listOf vs 0) :: (tups ++ nw)) := by
    intro p hp
    have old : ∀ p ∈ (D, PySem.W.listOf vs 0) :: (tups ++ (lexNews a σ.1 σ.2.1 σ.2.2 #[] d ++ nw)), (h1.push { cls := .type "list_iterator", data := .fields #[.ref D, .int 0 0] }).get? p.1 = some p.2 ∧ p.1 ≠ L ∧ g.get? p.1 = none := fun p hp => ⟨Heap.get?_push_of_some _ (N1 p hp).1, (N1 p hp).2⟩
    rcases List.mem_append.mp hp with hp | hp
    · exact old p (.tail _ (List.mem_append_right _ (List.mem_append_left _ hp)))
    · rcases List.mem_cons.mp hp with rfl | hp
      · exact ⟨Heap.get?_push_size _ rfl, hIL, gI⟩
      · rcases List.mem_cons.mp hp with rfl | hp
        · exact old _ (.head _)
        · rcases List.mem_append.mp hp with hp | hp
          · exact old p (.tail _ (List.mem_append_left _ hp))
          · exact old p (.tail _ (List.mem_append_right _ (List.mem_append_right _ hp)))
  have inn : ∀ {q : Addr × Obj}, q ∈ nw → q ∈ (D, PySem.W.listOf vs 0) :: (tups ++ nw) := fun h => .tail _ (List.mem_append_right _ h)
  refine words_loop (I := h1.objs.size) (D := D) (rest := (D, PySem.W.listOf vs 0) :: (tups ++ nw)) (tups := tups) X T hA hh (Z.more fun q hq => inn (by rw [← hnw]; exact .tail _ (.tail _ (.tail _ (.tail _ (.tail _ (.tail _ hq))))))) ?_ movI ?_ (.head _) (inn (by rw [← hnw]; exact .head _)) (inn (by rw [← hnw]; exact .tail _ (.tail _ (.head _)))) (inn (by rw [← hnw]; exact .tail _ (.tail _ (.tail _ (.head _))))) (inn (by rw [← hnw]; exact .tail _ (.tail _ (.tail _ (.tail _ (.head _)))))) (inn (by rw [← hnw]; exact .tail _ (.tail _ (.tail _ (.tail _ (.tail _ (.head _))))))) (fun q hq => .tail _ (List.mem_append_left _ hq))
    d2 d1 hp IR hs hrl hsz IO htl (fun h' tk' m' F' N' e1 e2 => fin h' tk' m' F' (fun p hp => N' p (inn hp)) e1 e2) (lawWs page) 0 σ _ _ m d _ RU (by rw [List.drop_zero]; exact PW) (F1.push _) N2 rfl rfl mp mo mt ml
  · intro p hp hm
    obtain ⟨o, ho, hc⟩ := movOf _ hm
    rcases List.mem_cons.mp hp with rfl | hp
    · exact neD _ (List.mem_append_right _ (List.mem_append_left _ ho)) rfl
    · rcases List.mem_append.mp hp with hp | hp
      · have e1 := (N1 p (.tail _ (List.mem_append_left _ hp))).1
        have e2 := (N1 _ (.tail _ (List.mem_append_right _ (List.mem_append_left _ ho)))).1
        rw [e1] at e2
        have e3 := (TT p hp).1
        rw [Option.some.inj e2] at e3
        exact hc e3
      · exact dis p hp hm
  · intro p hp
    refine hlt p ?_
    rcases List.mem_cons.mp hp with rfl | hp
    · exact .head _
    · rcases List.mem_append.mp hp with hp | hp
      · exact .tail _ (List.mem_append_left _ hp)
      · exact .tail _ (List.mem_append_right _ (List.mem_append_right _ hp))
end
end
end
end
theorem join_tick_Wk48_0 : True := by
  w_top off
  first | walk1 | exact trivial
section
/-- the plain law: what the walk asks -/
structure PlainLaw (ns : List Int) : Prop where
  b3 : ∀ p ∈ lawPs ns, p.1.length ≤ 3 ∧ p.2.length ≤ 3
  len : (lawPs ns).length ≤ 90
  page : (pageOf (lawPs ns)).length < 100
  text : (textOf (lawPs ns)).length ≤ 1000
  sorted : Sorted (rowOf (lawPs ns))
  org : (org (lawPs ns) 0 (lawPs ns).length).length ≤ 1000
  runs : Runs (textOf (lawPs ns)) (pageOf (lawPs ns)) (rowOf (lawPs ns)) (Mine.org (lawPs ns) 0 (lawPs ns).length) (lawPs ns).length (lawWs (pageOf (lawPs ns))) (1, 0, "")
  places : ∀ place, place ≤ (pageOf (lawPs ns)).length → PlaceOk (lawPs ns) (rowOf (lawPs ns)) (Mine.org (lawPs ns) 0 (lawPs ns).length) place
theorem units0 (L : Addr) : (callerA.deeper (lwEnv L)).units + 64 < cLine := by
  show _ + 64 < _
  rw [units_deeper, units_caller]
  decide
theorem row_len (ps : List (Str × Str)) : (rowOf ps).length = ps.length + 1 := by unfold rowOf; rw [List.length_map, List.length_range]
set_option maxHeartbeats 4000000 in
theorem ret8 {w : World} {A : Around} {L : Addr} {s : Shared} {Q : Flow → Shared → Prop} (go : Q (.ret (.bool true)) s) : wpAny (model p0 w) A (execs ((fBody (stm 14)).drop 8) (lwEnv L)) Q (fun _ _ => False) s := by
  refine exs_as st8 (wpAny_execs_cons ?_)
  conv => arg 3; arg 1; whnf
  k_steps
  exact go
set_option maxHeartbeats 4000000 in
theorem law_e {w : World} {s : Shared} {mg mb : Str → Option Value} {l : Addr} {vs : List Value} {ns : List Int} {R : Result → Shared → Prop} (Xf : (Kf w.params).In s.heap) (T : TopRead q0 loose0 mg mb s.heap) (hl : s.heap.IsList l vs.toArray) (hn : IntsAre vs ns) (hsz : ns.length ≤ 1000) (PL : PlainLaw ns)
    (fin : ∀ h' tk' us, (∀ b o, b ≠ 147 → s.heap.get? b = some o → h'.get? b = some o) → h'.get? 147 = some ⟨.none, none, .fields us, #[]⟩ → R (.ok (.ret (.bool true))) { s with heap := h', toks := tk' }) :
    codeAny (model p0 w) callerA (.call (.ref 162) ⟨[.ref l], []⟩) R s := by
  refine law_d Xf T hl hn hsz PL.b3 PL.len fun g L h1 tk1 m a d P its c R' itsR cR o1 o2 o3 t O ys cO sn us hg hL ha F N Z dis ne3 PT IR IO mp mo mt ml d3 d2 d1 h147 => ?_
  have hAd : (callerA.deeper (lwEnv L)).depth < 897 := by show callerA.depth + 1 < 897; decide
  have hhd : (callerA.deeper (lwEnv L)).handled = none := rfl
  have off147 : ∀ a ∈ [147], (Kr w.params).lookup a = none := fun a ha => by
    rw [show a = 147 by simpa using ha]; exact no147 _
  have X' : (Kr w.params).In g := by rw [hg]; exact hide_Kl (kr_in Xf) off147
  have T' : TopRead q0 loose0 mg mb g := by rw [hg]; exact top_hide T off147
  have hits : its.size = (lawPs ns).length := by rw [← Array.length_toList]; exact PT.length
  have hlen := PL.len
  have hrl : (rowOf (lawPs ns)).length < 100 := by rw [row_len]; omega
  have RU : Runs a.text (pageOf (lawPs ns)) (rowOf (lawPs ns)) (Mine.org (lawPs ns) 0 (lawPs ns).length) its.size (lawWs (pageOf (lawPs ns))) ((1, 0, "") : Sg) := by rw [ha, hits]; exact PL.runs
  have htl : a.text.length ≤ 1000 := by rw [ha]; exact PL.text
  refine exs_as st6 (wpAny_execs_cons ?_)
  refine exec6 (s := ⟨h1, _, _, _, _⟩) (σ := (1, 0, "")) (d := d) X' T' hAd hhd F N Z dis d1 d2 IR PL.sorted hrl (by omega) IO PL.page htl mp mo mt ml RU fun h2 tk2 m2 F2 N2 mp2 mo2 => ?_
  refine exs_as st7 (wpAny_execs_cons ?_)
  have N2' : News g L h2 ((O, PySem.W.listOf ys cO) :: (P, PySem.W.listOf its c) :: (R', PySem.W.listOf itsR cR) :: (L + 2, o2) :: (L + 1, o1) :: (L + 3, o3) :: sn) := by
    refine fcons ?_ (fcons ?_ (fcons ?_ (fcons ?_ (fcons ?_ (fcons ?_ ?_)))))
    · exact N2 _ (.head _)
    · exact N2 _ (.tail _ (.tail _ (.head _)))
    · exact N2 _ (.tail _ (.tail _ (.tail _ (.head _))))
    · exact N2 _ (.tail _ (.tail _ (.tail _ (.tail _ (.head _)))))
    · exact N2 _ (.tail _ (.tail _ (.tail _ (.tail _ (.tail _ (.head _))))))
    · exact N2 _ (.tail _ (.head _))
    · intro p hp
      exact N2 _ (.tail _ (.tail _ (.tail _ (.tail _ (.tail _ (.tail _ hp))))))
  refine exec7 (s := ⟨h2, _, _, _, _⟩) X' T' hAd hhd (units0 L) F2 N2' d1 d2 ⟨_, d3⟩ IR PL.sorted hrl hlen (by rw [row_len]; omega) IO PL.org PT PL.page ne3 mp2 mo2 PL.places fun h3 tk3 m3 F3 N3 => ?_
  refine ret8 (s := ⟨h3, _, _, _, _⟩) (fin h3 tk3 us (fun b o nb e => F3.keep b o ?_) (N3 _ h147).1)
  rw [hg]
  exact hideAll_get _ e (by simpa using nb)
theorem ints_reads {R : WRecords} {cl : Str → Option Addr} {h : Heap} : ∀ {vs : List Value} {xs : List WData} {as : List Addr}, ReadsAllW R cl h vs xs as → WShape.hasItems R xs .int = true → ∃ ns : List Int, IntsAre vs ns ∧ ns.length = xs.length := by
  intro vs xs as r h
  induction xs generalizing vs as with
  | nil => cases r; exact ⟨[], .nil, rfl⟩
  | cons x xs ih =>
    cases r with
    | cons a r =>
    have h2 := Bool.and_eq_true_iff.mp (show (WShape.has _ _ _ && WShape.hasItems _ _ _) = true from h)
    obtain ⟨n, rfl⟩ := hasW_int h2.1
    obtain ⟨ns, hn, hl⟩ := ih r h2.2
    cases a with
    | int _ t => exact ⟨n :: ns, .cons _ _ hn, by rw [List.length_cons, List.length_cons, hl]⟩
theorem pre_len {xs : List WData} (h : rw0.pre.holds rw0.records { args := [.list xs] } = true) : xs.length ≤ 63 := by
  have h1 := (holds_andW h).1
  revert h1
  show WTm.holds _ (.not (.lt (.lit (.int 63)) (.len (.arg 0)))) _ = true → _
  by_cases q : (63 : Int) < (xs.length : Nat)
  · unfold WTm.holds
    rw [show WTm.value _ (.not (.lt (.lit (.int 63)) (.len (.arg 0)))) _ = some (.bool (!decide ((63 : Int) < (xs.length : Nat)))) from rfl, decide_eq_true q]
    intro h2
    exact Bool.noConfusion h2
  · intro _
    omega
theorem ct147 {P : Params} {h : Heap} (X : (Kf P).In h) : isCodeTable h 147 := ⟨151, _, _, X 151 (q151_13 P) (by kernel_rfl!), rfl, rfl, rfl⟩
theorem old_of {P : Params} {h h' : Heap} {us : Array Value} (X : (Kf P).In h) (k : ∀ b o, b ≠ 147 → h.get? b = some o → h'.get? b = some o) (e : h'.get? 147 = some ⟨.none, none, .fields us, #[]⟩) : OldK h h' := by
  refine ⟨fun b o eb => ?_, fun b o eb => ?_⟩
  · by_cases q : b = 147
    · subst q
      have e2 := kf_147 X
      rw [eb] at e2
      cases e2
      exact .inr (.inl ⟨ct147 X, rfl, #[], us, rfl, by rw [e]; simp [q147_13]⟩)
    · exact .inl (k b o q eb)
  · by_cases q : b = 147
    · subst q; exact ⟨_, e⟩
    · exact ⟨o, k b o q eb⟩
theorem g_law (P : Params) : nsIn (Kr P) mainGlobals (Str.ofString "law") = some (some (.ref 162)) := by kernel_rfl!
set_option maxHeartbeats 4000000 in
theorem head1 (PL : ∀ ns, PlainLaw ns) : PySem.Challenge.rw_re0144_01.Holds := by
  refine head0 fun w s₀ s₁ mg mb G Y a o pm cd doc dV kV ho hd hc hf hmg hgen args vals as hpre hlay hr hw has => ?_
  have X : (Kr w.params).In s₁.heap := kr_in Y
  have T : TopRead q0 loose0 mg mb s₁.heap := (show looseW q0 loose0 = loose0 from by kernel_rfl!) ▸ topRead_of G.T
  have ha : a = 162 := by
    have := mg_of X T.g (g_law _)
    have hmg : mg (Str.ofString "law") = some (.ref a) := hmg
    rw [hmg] at this
    cases this
    rfl
  subst ha
  obtain ⟨h1, h2⟩ := pre_splitW hpre
  obtain ⟨d1, r1, rfl, hd1, hr1⟩ := hasAllW_cons h1
  have := hasAllW_nil hr1
  subst this
  obtain ⟨xs, rfl, hxs⟩ := hasW_list hd1
  cases hr with
  | cons a r =>
  cases r
  cases a with
  | list e1 e2 e3 e4 =>
  obtain ⟨ns, hn, hlen⟩ := ints_reads e4 hxs
  have hl63 := pre_len h2
  refine wpAny_call (codeAny_mono (law_e (vs := _) Y T (by rw [Array.toArray_toList]; exact ⟨_, e1, e2, _, e3⟩) hn (by omega) (PL ns) fun h' tk' us k e147 => ?_) fun r s' z => z)
  exact ⟨.inl ⟨_, _, [], rfl, fun _ => rfl, ReadsW.bool true, by wrow_post, fun _ => ⟨List.nodup_nil, fun _ hm => (nomatch hm)⟩⟩, old_of Y k e147, rfl, by rw [hgen]; exact AllBare.empty⟩
end
section
theorem chr_of {x : Str} {c : Nat} (h : ls x = [c]) : x = chr1 c := by
  obtain ⟨⟨l⟩⟩ := x
  simp only [ls] at h
  subst h
  rfl
theorem ls_chr (c : Nat) : ls (chr1 c) = [c] := rfl
theorem item_at {x : Str} {i : Nat} (h : i < (ls x).length) : Txt.item x (i : Nat) = chr1 ((ls x)[i]) := by
  have := codeAt_eq (text := x) h
  unfold codeAt at this
  unfold Txt.item
  rw [this]
  rfl
theorem cont_one (e : Str) (c : Nat) : Txt.contains e (chr1 c) = decide (c ∈ ls e) := StrLaws.found_one e c
theorem slice_upto {x : Str} {b : Nat} (h : b ≤ (ls x).length) : ls (Txt.slice x none (some (b : Int))) = (ls x).take b := by
  rw [slice_eq, StrLaws.sliceText_to ⟨Int.natCast_nonneg _, by show _ ≤ (((ls x).length : Nat) : Int); omega⟩]
  simp
theorem slice_clip (x : Str) (l : Option Int) (b : Int) (h : (x.length : Int) ≤ b) : StrLaws.sliceText x l (some b) = StrLaws.sliceText x l (some (x.length : Int)) := by
  have e : Builtin.Str.strSliceIndices l (some b) 1 x.length = Builtin.Str.strSliceIndices l (some (x.length : Int)) 1 x.length := by
    have a : ¬ (b < 0) := by omega
    have a2 : ¬ ((x.length : Int) < 0) := by omega
    have a3 : min b (x.length : Int) = (x.length : Int) := by omega
    simp [Builtin.Str.strSliceIndices, a, a2, a3]
  unfold StrLaws.sliceText
  rw [e]
theorem slice_one {x : Str} {a : Nat} (h : a ≤ (ls x).length) : ls (Txt.slice x (some (a : Int)) (some ((a : Int) + 1))) = ((ls x).drop a).take 1 := by
  rw [slice_eq]
  by_cases q : a + 1 ≤ (ls x).length
  · rw [StrLaws.sliceText_plain ⟨Int.natCast_nonneg _, by omega, by show _ ≤ (((ls x).length : Nat) : Int); omega⟩]
    have e1 : ((a : Int) + 1 - (a : Int)).toNat = 1 := by omega
    rw [e1]
    simp
  · have e : a = (ls x).length := by omega
    rw [slice_clip x _ _ (by rw [len_ls]; omega), StrLaws.sliceText_plain ⟨Int.natCast_nonneg _, by rw [len_ls]; omega, by rw [len_ls]; show _ ≤ (((ls x).length : Nat) : Int); omega⟩]
    have e1 : (((x.length : Nat) : Int) - (a : Int)).toNat = 0 := by rw [len_ls]; omega
    rw [e1]
    have e2 : (ls x).drop a = [] := List.drop_eq_nil_of_le (by omega)
    rw [e2]
    simp
theorem join_ls (xs : List Str) : ls (Txt.join "" xs) = (xs.map ls).flatten := by
  show ls (Builtin.Str.glued "" xs) = _
  rw [StrLaws.glued_eq_join]
  induction xs with
  | nil => rfl
  | cons x r ih =>
    cases r with
    | nil => show ls x = _; simp
    | cons y r =>
      have e : Str.join "" (x :: y :: r) = x ++ "" ++ Str.join "" (y :: r) := rfl
      rw [e]
      show ((x.cps ++ (#[] : Array Nat)) ++ (Str.join "" (y :: r)).cps).toList = _
      rw [Array.append_empty, Array.toList_append, List.map_cons, List.flatten_cons, ← ih]
theorem cnt_count (c : Nat) : ∀ l : List Nat, cnt c l = ((l.count c : Nat) : Int)
  | [] => rfl
  | n :: r => by
    rw [cnt_cons, cnt_count c r, List.count_cons]
    by_cases h : n = c
    · rw [if_pos h, if_pos (by rw [h]; exact beq_self_eq_true c)]; omega
    · rw [if_neg h, if_neg (by rw [beq_eq_false_iff_ne.mpr h]; decide)]; omega
theorem count_nl (x : Str) : Txt.count x (Str.ofString "\n") = (((ls x).count 10 : Nat) : Int) := by
  rw [← cnt_count, ← count_cnt]
  rfl
theorem str_ext {x y : Str} (h : ls x = ls y) : x = y := by
  obtain ⟨⟨l⟩⟩ := x
  obtain ⟨⟨l'⟩⟩ := y
  simp only [ls] at h
  subst h
  rfl
theorem ls_app (x y : Str) : ls (x ++ y) = ls x ++ ls y := Array.toList_append
/-- one drawn sign, what it means -/
noncomputable def okP (p : Str × Str) : Bool := match ls p.1 with
  | [c] => prepC c == ls p.2 && decide ((ls p.2).length ≤ 3)
  | _ => false
theorem ok5 : ((List.range 27).all fun i => okP (chrI (hid.getD i 0), "")) = true := by decide +kernel
theorem ok6 : ((List.range 16).all fun i => okP (chrI (nxt.getD i 0), chrI (nxt.getD i 0))) = true := by decide +kernel
theorem ok8 : ((List.range 10).all fun i => okP ((tab8.getD i default).1, (tab8.getD i default).2)) = true := by decide +kernel
theorem ok9 : ((List.range 6).all fun i => okP ((tab9.getD i default).1, (tab9.getD i default).2)) = true := by decide +kernel
theorem ok10 : ((List.range 2).all fun i => okP (Txt.item "\t\r" (i : Nat), Txt.item "\t\r" (i : Nat))) = true := by decide +kernel
theorem ok11 : ((List.range 7).all fun i => okP (Txt.item "abfist#" (i : Nat), Txt.item "abfist#" (i : Nat))) = true := by decide +kernel
theorem okS : (okP (" ", " ") && okP ("\n", "\n") && okP ("\"", "\"") && okP ("\\", "\\") && okP ("ͺ", " ι")) = true := by decide +kernel
noncomputable def ascB : List KV → Bool
  | a :: b :: r => decide (a.1 < b.1) && ascB (b :: r)
  | _ => true
theorem asc8 : ascB kv8 = true := by decide +kernel
theorem kv8all : (kv8.all fun p => decide (181 ≤ p.1)) = true := by decide +kernel
theorem allb : (b1s.all fun x => decide (173 ≤ x) && decide (x ≤ 65279)) = true := by decide +kernel
theorem low7 : ((List.range 26).all fun j => Txt.lower (chr1 (65 + j)) == chr1 (97 + j)) = true := by decide +kernel
noncomputable def rowK (i n : Nat) : Bool := decide ((kv8.drop n).take 26 = (List.range 26).map fun j => (caps.getD i 0 + (j : Nat), chrI (97 + (j : Nat))))
theorem row1 : rowK 1 202 = true := by decide +kernel
theorem row2 : rowK 2 228 = true := by decide +kernel
theorem row3 : rowK 3 254 = true := by decide +kernel
theorem row4 : rowK 4 298 = true := by decide +kernel
theorem row5 : rowK 5 364 = true := by decide +kernel
theorem row6 : rowK 6 390 = true := by decide +kernel
theorem row7 : rowK 7 416 = true := by decide +kernel
theorem row8 : rowK 8 442 = true := by decide +kernel
theorem row9 : rowK 9 468 = true := by decide +kernel
theorem row10 : rowK 10 494 = true := by decide +kernel
theorem caps_hi : ((List.range 11).all fun i => i == 0 || decide (65280 ≤ caps.getD i 0)) = true := by decide +kernel
theorem asc_lt : ∀ {a : KV} {l : List KV}, ascB (a :: l) = true → ∀ q ∈ l, a.1 < q.1
  | a, b :: r, h, q, hq => by
    rw [ascB, Bool.and_eq_true] at h
    have h1 := of_decide_eq_true h.1
    rcases List.mem_cons.mp hq with rfl | hq
    · exact h1
    · exact Int.lt_trans h1 (asc_lt h.2 q hq)
theorem asc_tail {a : KV} {l : List KV} (h : ascB (a :: l) = true) : ascB l = true := by
  cases l with
  | nil => rfl
  | cons b r => rw [ascB, Bool.and_eq_true] at h; exact h.2
theorem asc_look : ∀ {l : List KV} {c : Int} {v : Str}, ascB l = true → (c, v) ∈ l → l.lookup c = some v
  | a :: l, c, v, h, hm => by
    obtain ⟨a1, a2⟩ := a
    rw [List.lookup_cons]
    rcases List.mem_cons.mp hm with e | hm
    · cases e
      rw [beq_self_eq_true]
    · have := asc_lt h _ hm
      rw [beq_eq_false_iff_ne.mpr (fun e => by dsimp only at this; omega)]
      exact asc_look (asc_tail h) hm
theorem look_none : ∀ {l : List KV} {c : Int}, (∀ p ∈ l, c < p.1) → l.lookup c = none
  | [], _, _ => rfl
  | (a1, a2) :: l, c, h => by
    rw [List.lookup_cons, beq_eq_false_iff_ne.mpr (fun e => by have := h _ (.head _); dsimp only at this; omega)]
    exact look_none fun p hp => h p (.tail _ hp)
theorem not_b1 {c : Int} (h : c < 173 ∨ 65279 < c) : b1s.contains c = false := by
  cases q : b1s.contains c with
  | false => rfl
  | true =>
    have := List.all_eq_true.mp allb c (by simpa using q)
    rw [Bool.and_eq_true] at this
    have h1 := of_decide_eq_true this.1
    have h2 := of_decide_eq_true this.2
    omega
theorem okP_of {c d : Nat} (hb : b1s.contains (c : Int) = false) (hl : b3f c = chr1 d) : okP (chr1 c, chr1 d) = true := by
  show (match ls (chr1 c) with | [c] => prepC c == ls (chr1 d) && decide ((ls (chr1 d)).length ≤ 3) | _ => false) = true
  show (prepC c == ls (chr1 d) && decide (1 ≤ 3)) = true
  unfold prepC
  rw [if_neg (by rw [hb]; decide), hl, beq_self_eq_true]
  rfl
theorem rowK_ok {i n j : Nat} (h : rowK i n = true) (hj : j < 26) (hc : 65280 ≤ caps.getD i 0) : okP (chrI (caps.getD i 0 + (j : Nat)), chrI (97 + (j : Nat))) = true := by
  have e := of_decide_eq_true h
  have hm : (caps.getD i 0 + (j : Nat), chrI (97 + (j : Nat))) ∈ kv8 := by
    refine List.mem_of_mem_drop (List.mem_of_mem_take (i := 26) (l := kv8.drop n) ?_)
    rw [e]
    exact List.mem_map.mpr ⟨j, List.mem_range.mpr hj, rfl⟩
  have hl := asc_look asc8 hm
  obtain ⟨c, hc'⟩ := Int.eq_ofNat_of_zero_le (show 0 ≤ caps.getD i 0 + ((j : Nat) : Int) by omega)
  rw [hc'] at hl ⊢
  have e2 : chrI (97 + ((j : Nat) : Int)) = chr1 (97 + j) := by
    unfold chrI chr1
    rw [show (97 + ((j : Nat) : Int)).toNat = 97 + j by omega]
  rw [e2] at hl ⊢
  refine okP_of (c := c) (not_b1 (.inr (by omega))) ?_
  unfold b3f
  rw [hl]
  rfl
theorem ok7 {i j : Nat} (hi : i < 11) (hj : j < 26) : okP (chrI (caps.getD i 0 + (j : Nat)), chrI (97 + (j : Nat))) = true := by
  have hc := List.all_eq_true.mp caps_hi i (List.mem_range.mpr hi)
  have hr : i = 0 ∨ 65280 ≤ caps.getD i 0 := by
    rw [Bool.or_eq_true] at hc
    rcases hc with q | q
    · exact .inl (eq_of_beq q)
    · exact .inr (of_decide_eq_true q)
  match i, hi with
  | 0, _ =>
    have e1 : chrI (caps.getD 0 0 + ((j : Nat) : Int)) = chr1 (65 + j) := by
      unfold chrI chr1
      rw [show (caps.getD 0 0 + ((j : Nat) : Int)).toNat = 65 + j by show ((65 : Int) + _).toNat = _; omega]
    have e2 : chrI (97 + ((j : Nat) : Int)) = chr1 (97 + j) := by
      unfold chrI chr1
      rw [show (97 + ((j : Nat) : Int)).toNat = 97 + j by omega]
    rw [e1, e2]
    refine okP_of (not_b1 (.inl (by omega))) ?_
    unfold b3f
    rw [look_none fun p hp => by
      have := of_decide_eq_true (List.all_eq_true.mp kv8all p hp)
      omega]
    exact eq_of_beq (List.all_eq_true.mp low7 j (List.mem_range.mpr hj))
  | 1, _ => exact rowK_ok row1 hj (hr.resolve_left (by decide))
  | 2, _ => exact rowK_ok row2 hj (hr.resolve_left (by decide))
  | 3, _ => exact rowK_ok row3 hj (hr.resolve_left (by decide))
  | 4, _ => exact rowK_ok row4 hj (hr.resolve_left (by decide))
  | 5, _ => exact rowK_ok row5 hj (hr.resolve_left (by decide))
  | 6, _ => exact rowK_ok row6 hj (hr.resolve_left (by decide))
  | 7, _ => exact rowK_ok row7 hj (hr.resolve_left (by decide))
  | 8, _ => exact rowK_ok row8 hj (hr.resolve_left (by decide))
  | 9, _ => exact rowK_ok row9 hj (hr.resolve_left (by decide))
  | 10, _ => exact rowK_ok row10 hj (hr.resolve_left (by decide))
theorem all_range {n : Nat} {f : Nat → Bool} (h : ((List.range n).all f) = true) {i : Nat} (hi : i < n) : f i = true := List.all_eq_true.mp h i (List.mem_range.mpr hi)
theorem fm (u n : Nat) : (u : Int).fmod (n : Nat) = ((u % n : Nat) : Int) := by rw [Int.fmod_eq_emod_of_nonneg _ (by omega)]; rfl
theorem fd (u n : Nat) : (u : Int).fdiv (n : Nat) = ((u / n : Nat) : Int) := by rw [Int.fdiv_eq_ediv_of_nonneg _ (by omega)]; rfl
theorem pk_ok (k u : Nat) : okP (pk k u) = true := by
  have S := okS
  simp only [Bool.and_eq_true] at S
  obtain ⟨⟨⟨⟨s0, s1⟩, s2⟩, s3⟩, s4⟩ := S
  match k with
  | 0 => exact s0
  | 1 => exact s1
  | 2 => exact s2
  | 3 => exact s3
  | 4 => exact s4
  | 5 =>
    show okP (chrI (hid.getD ((u : Int).fmod (27 : Nat)).toNat 0), "") = true
    rw [fm, Int.toNat_natCast]
    exact all_range ok5 (Nat.mod_lt _ (by decide))
  | 6 =>
    show okP (chrI (nxt.getD ((u : Int).fmod (16 : Nat)).toNat 0), chrI (nxt.getD ((u : Int).fmod (16 : Nat)).toNat 0)) = true
    rw [fm, Int.toNat_natCast]
    exact all_range ok6 (Nat.mod_lt _ (by decide))
  | 7 =>
    show okP (chrI (caps.getD (((u : Int).fdiv (26 : Nat)).fmod (11 : Nat)).toNat 0 + (u : Int).fmod (26 : Nat)), chrI (97 + (u : Int).fmod (26 : Nat))) = true
    rw [fd, fm, fm, Int.toNat_natCast]
    exact ok7 (Nat.mod_lt _ (by decide)) (Nat.mod_lt _ (by decide))
  | 8 =>
    show okP ((tab8.getD ((u : Int).fmod (10 : Nat)).toNat default).1, (tab8.getD ((u : Int).fmod (10 : Nat)).toNat default).2) = true
    rw [fm, Int.toNat_natCast]
    exact all_range ok8 (Nat.mod_lt _ (by decide))
  | 9 =>
    show okP ((tab9.getD ((u : Int).fmod (6 : Nat)).toNat default).1, (tab9.getD ((u : Int).fmod (6 : Nat)).toNat default).2) = true
    rw [fm, Int.toNat_natCast]
    exact all_range ok9 (Nat.mod_lt _ (by decide))
  | 10 =>
    show okP (Txt.item "\t\r" ((u : Int).fmod (2 : Nat)), Txt.item "\t\r" ((u : Int).fmod (2 : Nat))) = true
    rw [fm]
    exact all_range ok10 (Nat.mod_lt _ (by decide))
  | k + 11 =>
    show okP (Txt.item "abfist#" ((u : Int).fmod (7 : Nat)), Txt.item "abfist#" ((u : Int).fmod (7 : Nat))) = true
    rw [fm]
    exact all_range ok11 (Nat.mod_lt _ (by decide))
/-- what a piece is -/
theorem okP_spec {p : Str × Str} (h : okP p = true) : ∃ c, ls p.1 = [c] ∧ prepC c = ls p.2 ∧ (ls p.2).length ≤ 3 := by
  unfold okP at h
  split at h
  · rename_i c e
    rw [Bool.and_eq_true] at h
    exact ⟨c, e, eq_of_beq h.1, of_decide_eq_true h.2⟩
  · cases h
/-- every piece: one drawn sign, prepared as it is meant, of at most three signs -/
noncomputable def Good (ps : List (Str × Str)) : Prop := ∀ p ∈ ps, ∃ c, ls p.1 = [c] ∧ prepC c = ls p.2 ∧ (ls p.2).length ≤ 3
theorem good_law (ns : List Int) : Good (lawPs ns) := fun p hp => by
  obtain ⟨v, _, rfl⟩ := List.mem_map.mp hp
  exact okP_spec (pk_ok _ _)
theorem len_law (ns : List Int) : (lawPs ns).length ≤ 17 := by
  unfold lawPs lawVs
  rw [List.length_map, List.length_map, List.length_append, List.length_take]
  show 9 + _ ≤ 17
  omega
end
section
/-- prepared signs ahead of a drawn place -/
noncomputable def pre (ps : List (Str × Str)) (k : Nat) : Nat := ((ps.take k).map fun p => (ls p.2).length).sum
theorem pre_zero (ps : List (Str × Str)) : pre ps 0 = 0 := rfl
theorem pre_succ {ps : List (Str × Str)} {k : Nat} (h : k < ps.length) : pre ps (k + 1) = pre ps k + (ls (ps.getD k default).2).length := by
  unfold pre
  rw [List.take_add_one, List.getElem?_eq_getElem h, List.map_append, List.sum_append, List.getD_eq_getElem?_getD, List.getElem?_eq_getElem h]
  simp
theorem pre_end {ps : List (Str × Str)} {k : Nat} (h : ps.length ≤ k) : pre ps k = pre ps ps.length := by
  unfold pre
  rw [List.take_of_length_le h, List.take_of_length_le (Nat.le_refl _)]
theorem pre_le (ps : List (Str × Str)) : ∀ {i j : Nat}, i ≤ j → pre ps i ≤ pre ps j
  | i, 0, h => by rw [Nat.le_zero.mp h]; exact Nat.le_refl _
  | i, j + 1, h => by
    rcases Nat.lt_or_ge i (j + 1) with q | q
    · have ih := pre_le ps (i := i) (j := j) (by omega)
      by_cases z : j < ps.length
      · rw [pre_succ z]; omega
      · rw [pre_end (by omega : ps.length ≤ j + 1), ← pre_end (by omega : ps.length ≤ j)]; exact ih
    · have : i = j + 1 := by omega
      rw [this]; exact Nat.le_refl _
theorem row_at {ps : List (Str × Str)} {k : Nat} (h : k ≤ ps.length) : (rowOf ps).getD k 0 = ((pre ps k : Nat) : Int) := by
  unfold rowOf
  rw [List.getD_eq_getElem?_getD, List.getElem?_map, List.getElem?_range (by omega)]
  show ((ps.take k).map fun p => (p.2.length : Int)).sum = _
  unfold pre
  generalize ps.take k = l
  induction l with
  | nil => rfl
  | cons p r ih => rw [List.map_cons, List.sum_cons, List.map_cons, List.sum_cons, ih, len_ls]; omega
theorem row_len' (ps : List (Str × Str)) : (rowOf ps).length = ps.length + 1 := by unfold rowOf; rw [List.length_map, List.length_range]
theorem sorted_row (ps : List (Str × Str)) : Sorted (rowOf ps) := fun i j h1 h2 => by
  rw [row_len'] at h2
  rw [row_at (by omega), row_at (by omega)]
  have := pre_le ps h1
  omega
theorem page_len (ps : List (Str × Str)) : (ls (Txt.join "" (ps.map fun p => p.2))).length = pre ps ps.length := by
  rw [join_ls]
  unfold pre
  rw [List.take_of_length_le (Nat.le_refl _), List.length_flatten, List.map_map, List.map_map]
  rfl
theorem bl_spec {ps : List (Str × Str)} {x r : Nat} (h : IsBl (rowOf ps) (x : Nat) r) : r ≤ ps.length + 1 ∧ (∀ i, i < r → pre ps i < x) ∧ ∀ i, r ≤ i → i ≤ ps.length → x ≤ pre ps i := by
  obtain ⟨h1, h2, h3⟩ := h
  rw [row_len'] at h1 h3
  refine ⟨h1, fun i hi => ?_, fun i hi hj => ?_⟩
  · have := h2 i hi
    rw [row_at (by omega)] at this
    omega
  · have := h3 i hi (by omega)
    rw [row_at hj] at this
    omega
theorem br_spec {ps : List (Str × Str)} {x r : Nat} (h : IsBr (rowOf ps) (x : Nat) r) : r ≤ ps.length + 1 ∧ (∀ i, i < r → pre ps i ≤ x) ∧ ∀ i, r ≤ i → i ≤ ps.length → x < pre ps i := by
  obtain ⟨h1, h2, h3⟩ := h
  rw [row_len'] at h1 h3
  refine ⟨h1, fun i hi => ?_, fun i hi hj => ?_⟩
  · have := h2 i hi
    rw [row_at (by omega)] at this
    omega
  · have := h3 i hi (by omega)
    rw [row_at hj] at this
    omega
theorem org_step (ps : List (Str × Str)) (i : Nat) : org ps 0 (i + 1) = org ps 0 i ++ List.replicate ((ls (ps.getD i default).2).length) ((i : Nat) : Int) := by
  rw [org_succ, len_ls]
theorem org_length (ps : List (Str × Str)) : ∀ n, n ≤ ps.length → (org ps 0 n).length = pre ps n
  | 0, _ => by simp [org, pre]
  | n + 1, h => by rw [org_step, List.length_append, List.length_replicate, org_length ps n (by omega), pre_succ (by omega)]
theorem org_at (ps : List (Str × Str)) : ∀ (n : Nat), n ≤ ps.length → ∀ (k j : Nat), k < n → pre ps k ≤ j → j < pre ps (k + 1) → (org ps 0 n)[j]? = some ((k : Nat) : Int)
  | 0, _, k, j, h, _, _ => absurd h (Nat.not_lt_zero _)
  | n + 1, hn, k, j, h, h1, h2 => by
    rw [org_step]
    have hl := org_length ps n (by omega)
    by_cases q : k < n
    · have := pre_le ps (show k + 1 ≤ n by omega)
      rw [List.getElem?_append_left (by omega)]
      exact org_at ps n (by omega) k j q h1 h2
    · have e : k = n := by omega
      subst e
      rw [pre_succ (by omega)] at h2
      rw [List.getElem?_append_right (by omega), List.getElem?_replicate, if_pos (by omega)]
/-- where a place of the page comes from -/
theorem find_k (ps : List (Str × Str)) (j : Nat) : ∀ n, n ≤ ps.length → j < pre ps n → ∃ k, k < n ∧ pre ps k ≤ j ∧ j < pre ps (k + 1)
  | 0, _, h => absurd h (Nat.not_lt_zero _)
  | n + 1, hn, h => by
    by_cases q : j < pre ps n
    · obtain ⟨k, a, b, c⟩ := find_k ps j n (by omega) q
      exact ⟨k, by omega, b, c⟩
    · exact ⟨n, by omega, by omega, h⟩
theorem filter_none {q : Nat → Bool} : ∀ {l : List Nat}, (∀ k ∈ l, q k = false) → l.filter q = []
  | [], _ => rfl
  | x :: l, h => by
    rw [List.filter_cons_of_neg (by rw [h x (.head _)]; decide)]
    exact filter_none fun k hk => h k (.tail _ hk)
theorem filter_between {n a e : Nat} {q : Nat → Bool} (he : e ≤ n) (hq : ∀ k, k < n → (q k = true ↔ a ≤ k ∧ k < e)) : ((List.range n).filter q).map (fun (k : Nat) => ((k : Nat) : Int)) = rangeKs (a : Nat) (e - a) := by
  by_cases h : a ≤ e
  · have e1 : List.range n = List.range' 0 a ++ (List.range' a (e - a) ++ List.range' e (n - e)) := by
      rw [List.range_eq_range']
      have h1 : List.range' 0 n = List.range' 0 a ++ List.range' a (n - a) := by
        rw [show n = a + (n - a) by omega, ← List.range'_append_1]
        simp
      have h2 : List.range' a (n - a) = List.range' a (e - a) ++ List.range' e (n - e) := by
        rw [show n - a = (e - a) + (n - e) by omega, ← List.range'_append_1, show a + (e - a) = e by omega]
      rw [h1, h2]
    have m : ∀ {k s l : Nat}, k ∈ List.range' s l → s ≤ k ∧ k < s + l := fun {k s l} hk => by
      obtain ⟨i, hi, rfl⟩ := List.mem_range'.mp hk
      omega
    rw [e1, List.filter_append, List.filter_append]
    rw [filter_none (l := List.range' 0 a) fun k hk => by
      have := m hk
      cases z : q k with
      | false => rfl
      | true => have := (hq k (by omega)).mp z; omega]
    rw [filter_none (l := List.range' e (n - e)) fun k hk => by
      have := m hk
      cases z : q k with
      | false => rfl
      | true => have := (hq k (by omega)).mp z; omega]
    rw [List.filter_eq_self.mpr fun k hk => by
      have := m hk
      exact (hq k (by omega)).mpr (by omega)]
    rw [List.nil_append, List.append_nil]
    unfold rangeKs
    rw [List.range'_eq_map_range, List.map_map]
    apply List.map_congr_left
    intro i _
    show ((a + i : Nat) : Int) = _
    omega
  · rw [show e - a = 0 by omega, filter_none fun k hk => by
      have := List.mem_range.mp hk
      cases z : q k with
      | false => rfl
      | true => have := (hq k this).mp z; omega]
    rfl
theorem empty_iff {x : Str} : (x == Str.ofString "") = true ↔ (ls x).length = 0 := by
  rw [show (Str.ofString "" : Str) = "" from rfl, ls_nil, List.length_eq_zero_iff]
/-- for every place of the page -/
theorem places_ok (ps : List (Str × Str)) {place : Nat} (hp : place ≤ pre ps ps.length) : PlaceOk ps (rowOf ps) (org ps 0 ps.length) place := by
  intro r1 r2 h1 h2
  obtain ⟨a1, a2, a3⟩ := bl_spec h1
  obtain ⟨b1, b2, b3⟩ := br_spec h2
  have hr2 : 1 ≤ r2 := by
    rcases Nat.eq_zero_or_pos r2 with z | z
    · have := b3 0 (by omega) (by omega)
      rw [pre_zero] at this
      omega
    · exact z
  constructor
  · unfold kList
    rw [filter_between (a := r1) (e := r2 - 1) (by omega) fun k hk => ?_]
    · congr 1
      omega
    · rw [Bool.and_eq_true, empty_iff, decide_eq_true_iff, row_at (by omega)]
      have hs := pre_succ hk
      constructor
      · rintro ⟨q1, q2⟩
        have q2 : pre ps k = place := by omega
        refine ⟨?_, ?_⟩
        · rcases Nat.lt_or_ge k r1 with z | z
          · have := a2 k z; omega
          · exact z
        · rcases Nat.lt_or_ge (k + 1) r2 with z | z
          · omega
          · have := b3 (k + 1) z (by omega); omega
      · rintro ⟨q1, q2⟩
        have x1 := a3 k q1 (by omega)
        have x2 := b2 (k + 1) (by omega)
        have x3 := b2 k (by omega)
        omega
  · have hl := org_length ps ps.length (Nat.le_refl _)
    by_cases q : place < pre ps ps.length
    · obtain ⟨k, c1, c2, c3⟩ := find_k ps place ps.length (Nat.le_refl _) q
      rw [List.getElem?_append_left (by omega), org_at ps ps.length (Nat.le_refl _) k place c1 c2 c3]
      have : r2 = k + 1 := by
        rcases Nat.lt_trichotomy r2 (k + 1) with z | z | z
        · have := b3 k (by omega) (by omega); omega
        · exact z
        · have := b2 (k + 1) z; omega
      subst this
      congr 1
      omega
    · have e : place = pre ps ps.length := by omega
      rw [List.getElem?_append_right (by omega), hl, e, Nat.sub_self]
      have : r2 = ps.length + 1 := by
        rcases Nat.lt_or_ge r2 (ps.length + 1) with z | z
        · have := b3 ps.length (by omega) (Nat.le_refl _); omega
        · omega
      subst this
      show some _ = some _
      congr 1
      omega
end
section
theorem text_facts : ∀ {ps : List (Str × Str)}, Good ps → ((ps.map fun p => ls p.1).flatten).length = ps.length ∧ ∀ n, (((ps.map fun p => ls p.1).flatten).drop n).flatMap prepC = ((ps.drop n).map fun p => ls p.2).flatten
  | [], _ => ⟨rfl, fun n => by simp⟩
  | p :: ps, G => by
    obtain ⟨c, e1, e2, _⟩ := G p (.head _)
    obtain ⟨h1, h2⟩ := text_facts (ps := ps) fun q hq => G q (.tail _ hq)
    rw [List.map_cons, List.flatten_cons, e1]
    refine ⟨by rw [List.length_append, h1, List.length_cons]; simp; omega, fun n => ?_⟩
    cases n with
    | zero =>
      have := h2 0
      rw [List.drop_zero, List.drop_zero] at this
      rw [List.drop_zero, List.drop_zero, List.map_cons, List.flatten_cons, List.flatMap_append, this, ← e2]
      simp
    | succ n =>
      have := h2 n
      simpa using this
section
variable {ps : List (Str × Str)}
theorem text_len (G : Good ps) : (ls (textOf ps)).length = ps.length := by
  show (ls (Txt.join "" _)).length = _
  rw [join_ls, List.map_map]
  exact (text_facts G).1
theorem pr_at (G : Good ps) (n : Nat) : PR (textOf ps) n = ((ps.drop n).map fun p => ls p.2).flatten := by
  unfold PR
  show ((ls (Txt.join "" _)).drop n).flatMap prepC = _
  rw [join_ls, List.map_map]
  exact (text_facts G).2 n
theorem pr_zero (G : Good ps) : PR (textOf ps) 0 = ls (pageOf ps) := by
  rw [pr_at G, List.drop_zero]
  show _ = ls (Txt.join "" _)
  rw [join_ls, List.map_map]
  rfl
theorem page_n (ps : List (Str × Str)) : (ls (pageOf ps)).length = pre ps ps.length := page_len ps
theorem pr_len (G : Good ps) {n : Nat} (h : n ≤ ps.length) : (PR (textOf ps) n).length + pre ps n = pre ps ps.length := by
  rw [pr_at G, List.length_flatten, List.map_map]
  unfold pre
  rw [List.take_of_length_le (Nat.le_refl ps.length)]
  have e : ps.map (fun p => (ls p.2).length) = (ps.take n).map (fun p => (ls p.2).length) ++ (ps.drop n).map (fun p => (ls p.2).length) := by
    rw [← List.map_append, List.take_append_drop]
  rw [e, List.sum_append, Nat.add_comm]
  rfl
end
/-- i signs of the page are given -/
noncomputable def InvL (text page : Str) (i : Nat) (σ : Sg) : Prop := i ≤ (ls page).length ∧ Inv text i σ.2.1 σ.2.2 ∧ σ.1 = 1 + ((ls page).take i).count 10
noncomputable def FinL (text page : Str) (σ : Sg) : Prop := Fin text σ.2.1 σ.2.2 ∧ σ.1 = 1 + (ls page).count 10
noncomputable def At (text page : Str) (i : Nat) (σ : Sg) : Prop := InvL text page i σ ∨ ((ls page).length ≤ i ∧ FinL text page σ)
section
variable {text page : Str} (hP : PR text 0 = ls page)
include hP
theorem rd_lt {i : Nat} {σ : Sg} (h : InvL text page i σ) (hi : i < (ls page).length) : (rdG text σ).1 = chr1 ((ls page)[i]) ∧ InvL text page (i + 1) (rdG text σ).2 := by
  obtain ⟨h1, h2, h3⟩ := h
  have hd : (PR text 0).drop i = (ls page)[i] :: (ls page).drop (i + 1) := by rw [hP, List.drop_eq_getElem_cons hi]
  obtain ⟨a, b⟩ := rd_some h2 hd
  have e := chr_of a
  refine ⟨e, by omega, b, ?_⟩
  show lnF σ.1 (rdF text σ.2.1 σ.2.2).1 = _
  rw [e, h3, List.take_add_one, List.getElem?_eq_getElem hi, List.count_append]
  unfold lnF
  by_cases q : (ls page)[i] = 10
  · rw [q]
    show (if ((chr1 10 == "\n") = true) then _ else _) = _
    rw [if_pos (by decide)]
    simp
    omega
  · rw [if_neg (fun z => q (by
      have := congrArg ls (eq_of_beq z)
      have : [(ls page)[i]] = [10] := this
      exact (List.cons.inj this).1))]
    have : (some (ls page)[i]).toList.count 10 = 0 := by
      show [(ls page)[i]].count 10 = 0
      rw [List.count_eq_zero]
      intro m
      exact q (List.mem_singleton.mp m).symm
    rw [this]
    omega
theorem rd_end {i : Nat} {σ : Sg} (h : At text page i σ) (hi : (ls page).length ≤ i) : (rdG text σ).1 = "" ∧ FinL text page (rdG text σ).2 := by
  rcases h with ⟨h1, h2, h3⟩ | ⟨_, h2, h3⟩
  · have e : i = (ls page).length := by omega
    obtain ⟨a, b⟩ := rd_none h2 (by rw [hP, e, List.drop_length])
    refine ⟨a, b, ?_⟩
    show lnF σ.1 (rdF text σ.2.1 σ.2.2).1 = _
    rw [a, h3, e, List.take_length]
    rfl
  · obtain ⟨a, b⟩ := rd_fin h2
    refine ⟨a, b, ?_⟩
    show lnF σ.1 (rdF text σ.2.1 σ.2.2).1 = _
    rw [a, h3]
    rfl
omit hP in
theorem at_lt {i : Nat} {σ : Sg} (h : At text page i σ) (hi : i < (ls page).length) : InvL text page i σ := by
  rcases h with h | ⟨h, _⟩
  · exact h
  · omega
/-- the sign behind a backslash -/
theorem rd_esc {i : Nat} {σ : Sg} (h : InvL text page (i + 1) σ) : (rdG text σ).1 = Txt.slice page (some ((i : Nat) + 1 : Int)) (some ((i : Nat) + 2 : Int)) ∧ At text page (i + 2) (rdG text σ).2 := by
  have hs : ls (Txt.slice page (some ((i : Nat) + 1 : Int)) (some ((i : Nat) + 2 : Int))) = ((ls page).drop (i + 1)).take 1 := by
    have := slice_one (x := page) (a := i + 1) h.1
    rw [← this]
    congr 2
  rcases Nat.lt_or_ge (i + 1) (ls page).length with q | q
  · obtain ⟨a, b⟩ := rd_lt hP h q
    refine ⟨?_, .inl b⟩
    rw [a]
    apply str_ext
    rw [hs, List.drop_eq_getElem_cons q]
    rfl
  · obtain ⟨a, b⟩ := rd_end hP (.inl h) q
    refine ⟨?_, .inr ⟨by omega, b⟩⟩
    rw [a]
    apply str_ext
    rw [hs, List.drop_eq_nil_of_le (by omega)]
    rfl
theorem ok_at {i : Nat} {σ : Sg} (h : At text page i σ) (hN : (ls page).length ≤ 1000) : Ok text σ := by
  rcases h with ⟨h1, ⟨i1, i2, i3, i4⟩, h3⟩ | ⟨_, ⟨f1, f2⟩, _⟩
  · refine ⟨by rw [len_ls]; exact i1, ?_⟩
    have := congrArg List.length i2
    rw [List.length_append, List.length_drop, hP] at this
    rw [len_ls]
    omega
  · exact ⟨by rw [len_ls, f1]; exact Nat.le_refl _, by rw [len_ls, f2]; exact Nat.zero_le _⟩
end
theorem chr_ne (c : Nat) : chr1 c ≠ "" := fun e => by
  have := congrArg ls e
  have : [c] = [] := this
  cases this
theorem chr_bs {c : Nat} : (chr1 c == "\\") = decide (c = 92) := by
  by_cases h : c = 92
  · subst h; decide
  · rw [decide_eq_false h, beq_eq_false_iff_ne]
    intro e
    have := congrArg ls e
    have : [c] = [92] := this
    exact h (List.cons.inj this).1
theorem cuts_lt {page : Str} {f i : Nat} (hi : i < (ls page).length) (hf : (ls page).length < i + f) :
    (∃ f0, f = f0 + 1 ∧ (ls page)[i] = 92 ∧ cutsF page f i = (Txt.slice page (some ((i : Nat) + 1 : Int)) (some ((i : Nat) + 2 : Int)), false, i + 2) :: cutsF page f0 (i + 2)) ∨
    (∃ f0, f = f0 + 1 ∧ (ls page)[i] ≠ 92 ∧ cutsF page f i = (chr1 (ls page)[i], true, i + 1) :: cutsF page f0 (i + 1)) := by
  obtain ⟨f0, rfl⟩ : ∃ f0, f = f0 + 1 := ⟨f - 1, by omega⟩
  rw [cutsF, if_pos (by rw [len_ls]; exact hi), item_at hi, chr_bs]
  by_cases q : (ls page)[i] = 92
  · left
    exact ⟨f0, rfl, q, by rw [if_pos (decide_eq_true q)]⟩
  · right
    exact ⟨f0, rfl, q, by rw [if_neg (by rw [decide_eq_false q]; decide)]⟩
theorem cuts_ge {page : Str} {f i : Nat} (hi : (ls page).length ≤ i) : cutsF page f i = [] := cutsF_end (by rw [len_ls]; omega)
theorem drop_cons {α : Type} {l : List α} {n : Nat} {x : α} {r : List α} [Inhabited α] (h : l.drop n = x :: r) : n < l.length ∧ l.getD n default = x ∧ l.drop (n + 1) = r := by
  have hn : n < l.length := by
    rcases Nat.lt_or_ge n l.length with q | q
    · exact q
    · rw [List.drop_eq_nil_of_le q] at h; cases h
  rw [List.drop_eq_getElem_cons hn] at h
  obtain ⟨a, b⟩ := List.cons.inj h
  exact ⟨hn, by rw [List.getD_eq_getElem?_getD, List.getElem?_eq_getElem hn]; exact a, b⟩
theorem app_assoc (x y z : Str) : x ++ y ++ z = x ++ (y ++ z) := by apply str_ext; simp only [ls_app, List.append_assoc]
theorem join_cons (x : Str) (l : List Str) : Txt.join "" (x :: l) = x ++ Txt.join "" l := by
  apply str_ext
  rw [ls_app, join_ls, join_ls, List.map_cons, List.flatten_cons]
theorem join_nil : Txt.join "" [] = "" := rfl
theorem app_nil (x : Str) : x ++ "" = x := by apply str_ext; rw [ls_app]; exact List.append_nil _
theorem nil_app (x : Str) : "" ++ x = x := by apply str_ext; rw [ls_app]; rfl
section
variable {text page : Str} (hP : PR text 0 = ls page) {cs : List (Str × Bool × Nat)} {stop : Str → Bool} {ends : Str}
include hP
/-- the inner part of a word -/
theorem tk_run (hst : ∀ c, stop (chr1 c) = Txt.contains ends (chr1 c)) (hbs : stop (chr1 92) = false) : ∀ (n l i f' : Nat) (σ : Sg) (tok : Str) (F : Nat), cs.length - l = n → cs.drop l = cutsF page f' i → (ls page).length < i + f' → At text page i σ → cs.length - l < F →
    ∃ σ', Tk text stop n σ tok (tok ++ Txt.join "" (((cs.drop l).take (lastF cs ends F l - l)).map (·.1))) σ' ∧ l ≤ lastF cs ends F l ∧
      ((lastF cs ends F l < cs.length ∧ ∃ f'', InvL text page (cs.getD (lastF cs ends F l) default).2.2 σ' ∧ 1 ≤ (cs.getD (lastF cs ends F l) default).2.2 ∧ cs.drop (lastF cs ends F l + 1) = cutsF page f'' (cs.getD (lastF cs ends F l) default).2.2 ∧ (ls page).length < (cs.getD (lastF cs ends F l) default).2.2 + f'') ∨
       (cs.length ≤ lastF cs ends F l ∧ FinL text page σ'))
  | 0, l, i, f', σ, tok, F, hn, hd, hf, ha, hF => by
    have hl : cs.length ≤ l := by omega
    obtain ⟨F, rfl⟩ : ∃ F0, F = F0 + 1 := ⟨F - 1, by omega⟩
    have hi : (ls page).length ≤ i := by
      rcases Nat.lt_or_ge i (ls page).length with q | q
      · rw [List.drop_eq_nil_of_le hl] at hd
        rcases cuts_lt q hf with ⟨_, _, _, e⟩ | ⟨_, _, _, e⟩ <;> rw [e] at hd <;> cases hd
      · exact q
    obtain ⟨a, b⟩ := rd_end hP ha hi
    have e : lastF cs ends (F + 1) l = l := by rw [lastF, if_neg (fun q => by omega)]
    rw [e, Nat.sub_self]
    refine ⟨_, ?_, Nat.le_refl _, .inr ⟨hl, b⟩⟩
    show Tk text stop 0 σ tok (tok ++ Txt.join "" []) _
    rw [join_nil, app_nil]
    exact .fin a
  | n + 1, l, i, f', σ, tok, F, hn, hd, hf, ha, hF => by
    have hl : l < cs.length := by omega
    obtain ⟨F, rfl⟩ : ∃ F0, F = F0 + 1 := ⟨F - 1, by omega⟩
    have hi : i < (ls page).length := by
      rcases Nat.lt_or_ge i (ls page).length with q | q
      · exact q
      · rw [cuts_ge q, List.drop_eq_nil_iff] at hd
        omega
    obtain ⟨a, b⟩ := rd_lt hP (at_lt ha hi) hi
    rcases cuts_lt hi hf with ⟨f0, rfl, hc, e⟩ | ⟨f0, rfl, hc, e⟩
    · rw [e] at hd
      obtain ⟨_, hg, hd'⟩ := drop_cons hd
      have el : lastF cs ends (F + 1) l = lastF cs ends F (l + 1) := by rw [lastF, if_pos ⟨hl, by rw [hg]; rfl⟩]
      obtain ⟨c1, c2⟩ := rd_esc hP b
      obtain ⟨σ', t1, t2, t3⟩ := tk_run hst hbs n (l + 1) (i + 2) f0 _ (tok ++ Txt.slice page (some ((i : Nat) + 1 : Int)) (some ((i : Nat) + 2 : Int))) F (by omega) hd' (by omega) c2 (by omega)
      rw [el]
      refine ⟨σ', ?_, by omega, t3⟩
      rw [hd, show lastF cs ends F (l + 1) - l = (lastF cs ends F (l + 1) - (l + 1)) + 1 by omega, List.take_succ_cons, List.map_cons, join_cons, ← app_assoc, ← hd']
      refine .esc (by rw [a]; exact chr_ne _) (by rw [a, hc]; exact hbs) (by rw [a, hc]; decide) ?_
      rw [c1]
      exact t1
    · rw [e] at hd
      obtain ⟨_, hg, hd'⟩ := drop_cons hd
      by_cases q : stop (chr1 (ls page)[i]) = true
      · have el : lastF cs ends (F + 1) l = l := by
          rw [lastF, if_neg (fun z => by
            have := z.2
            rw [hg] at this
            show False
            rw [← hst, q] at this
            cases this)]
        rw [el, Nat.sub_self]
        refine ⟨(rdG text σ).2, ?_, Nat.le_refl _, .inl ⟨hl, f0, ?_⟩⟩
        · show Tk text stop _ σ tok (tok ++ Txt.join "" []) _
          rw [join_nil, app_nil]
          exact .stp (by rw [a]; exact chr_ne _) (by rw [a]; exact q)
        · rw [hg]
          exact ⟨b, by show 1 ≤ i + 1; omega, hd', by show _ < i + 1 + f0; omega⟩
      · rw [Bool.not_eq_true] at q
        have el : lastF cs ends (F + 1) l = lastF cs ends F (l + 1) := by
          rw [lastF, if_pos ⟨hl, by rw [hg]; show (true && _) = false; rw [← hst, q]; rfl⟩]
        obtain ⟨σ', t1, t2, t3⟩ := tk_run hst hbs n (l + 1) (i + 1) f0 _ (tok ++ chr1 (ls page)[i]) F (by omega) hd' (by omega) (.inl b) (by omega)
        rw [el]
        refine ⟨σ', ?_, by omega, t3⟩
        rw [hd, show lastF cs ends F (l + 1) - l = (lastF cs ends F (l + 1) - (l + 1)) + 1 by omega, List.take_succ_cons, List.map_cons, join_cons, ← app_assoc, ← hd']
        refine .go (by rw [a]; exact chr_ne _) (by rw [a]; exact q) (by rw [a, chr_bs, decide_eq_false hc]) ?_
        rw [a]
        exact t1
end
theorem q_stop (c : Nat) : qStop (chr1 c) = Txt.contains "\"" (chr1 c) := by
  rw [cont_one]
  unfold qStop
  by_cases h : c = 34
  · subst h; decide
  · have e : decide (c ∈ ls ("\"" : Str)) = false := decide_eq_false (fun m => h (by
      have m : c ∈ [34] := m
      simpa using m))
    rw [e, beq_eq_false_iff_ne]
    intro z
    have := congrArg ls z
    have : [c] = [34] := this
    exact h (List.cons.inj this).1
theorem w_stop (c : Nat) : wStop (chr1 c) = Txt.contains "\n\t\r " (chr1 c) := rfl
end
section
theorem w92 : wStop (chr1 92) = false := by rw [w_stop, cont_one]; decide
theorem q92 : qStop (chr1 92) = false := by rw [q_stop, cont_one]; decide
noncomputable def E2 : List (Str × Option Nat) := [(("" : Str), none), (("" : Str), none)]
noncomputable def Runs1 (text page : Str) (rl ol : List Int) (np : Nat) (W : List (Str × Option Nat)) (σ : Sg) (K : Nat) : Prop :=
  ∃ t beh W' k σ', W = (t, beh) :: W' ∧ k ≤ K ∧ Gt text k σ t σ' ∧ Ok text σ ∧ TurnOk page rl ol np σ' beh ∧ Runs text page rl ol np W' σ'
theorem Runs1.runs {text page : Str} {rl ol : List Int} {np : Nat} {W : List (Str × Option Nat)} {σ : Sg} {K : Nat} (h : Runs1 text page rl ol np W σ K) (hK : K ≤ 100000) : Runs text page rl ol np W σ := by
  obtain ⟨t, beh, W', k, σ', rfl, hk, hg, ho, ht, hr⟩ := h
  exact .cons hg (Nat.le_trans hk hK) ho ht hr
section
variable {ps : List (Str × Str)}
theorem turn_none (G : Good ps) {σ : Sg} (h : FinL (textOf ps) (pageOf ps) σ) : TurnOk (pageOf ps) (rowOf ps) (org ps 0 ps.length) ps.length σ none := by
  obtain ⟨⟨h1, _⟩, h2⟩ := h
  refine ⟨by rw [h1, text_len G], by rw [count_nl, h2]; omega, fun r hr => ?_⟩
  rw [len_ls, page_n] at hr
  obtain ⟨b1, b2, b3⟩ := br_spec hr
  have : r = ps.length + 1 := by
    rcases Nat.lt_or_ge r (ps.length + 1) with z | z
    · have := b3 ps.length (by omega) (Nat.le_refl _); omega
    · omega
  omega
theorem turn_some (G : Good ps) {σ : Sg} {b : Nat} (h : InvL (textOf ps) (pageOf ps) b σ) (hb : 1 ≤ b) : TurnOk (pageOf ps) (rowOf ps) (org ps 0 ps.length) ps.length σ (some b) := by
  obtain ⟨h1, ⟨i1, i2, i3, i4⟩, h3⟩ := h
  have hN := page_n ps
  rw [text_len G] at i1
  rcases i4 with ⟨_, q⟩ | ⟨q1, q2⟩
  · omega
  have l1 := pr_len G i1
  have l2 := pr_len G (show σ.2.1 - 1 ≤ ps.length by omega)
  have l0 : (PR (textOf ps) 0).length = pre ps ps.length := by rw [pr_zero G, hN]
  have l3 := congrArg List.length i2
  rw [List.length_append, List.length_drop, l0] at l3
  rw [l0] at q2
  have p1 : b ≤ pre ps σ.2.1 := by omega
  have p2 : pre ps (σ.2.1 - 1) < b := by omega
  refine ⟨hb, by rw [len_ls]; exact h1, ((σ.2.1 - 1 : Nat) : Int), ?_, by omega, ?_, fun r hr => ?_⟩
  · exact org_at ps ps.length (Nat.le_refl _) (σ.2.1 - 1) (b - 1) (by omega) (by omega) (by rw [show σ.2.1 - 1 + 1 = σ.2.1 by omega]; omega)
  · rw [count_nl, slice_upto h1, h3]
    omega
  · obtain ⟨a1, a2, a3⟩ := bl_spec hr
    have : r = σ.2.1 := by
      rcases Nat.lt_trichotomy r σ.2.1 with z | z | z
      · have := a3 (σ.2.1 - 1) (by omega) (by omega); omega
      · exact z
      · have := a2 σ.2.1 z; omega
    omega
theorem end_runs1 (G : Good ps) (hN : (ls (pageOf ps)).length ≤ 1000) {i : Nat} {σ : Sg} (h : At (textOf ps) (pageOf ps) i σ) (hi : (ls (pageOf ps)).length ≤ i) (K : Nat) : Runs1 (textOf ps) (pageOf ps) (rowOf ps) (org ps 0 ps.length) ps.length E2 σ K := by
  have hP := pr_zero G
  obtain ⟨a, b⟩ := rd_end hP h hi
  obtain ⟨c, d⟩ := rd_end hP (.inr ⟨hi, b⟩) hi
  refine ⟨_, _, _, 0, _, rfl, Nat.zero_le _, .fin a, ok_at hP h hN, turn_none G b, ?_⟩
  exact .cons (k := 0) (.fin c) (Nat.zero_le _) (ok_at hP (.inr ⟨hi, b⟩) hN) (turn_none G d) .nil
theorem words_run (G : Good ps) (hN : (ls (pageOf ps)).length ≤ 1000) {cs : List (Str × Bool × Nat)} (hcs : cs.length ≤ 2000) : ∀ (F ci i f' : Nat) (σ : Sg), cs.drop ci = cutsF (pageOf ps) f' i → (ls (pageOf ps)).length < i + f' → At (textOf ps) (pageOf ps) i σ → cs.length - ci < F →
    Runs1 (textOf ps) (pageOf ps) (rowOf ps) (org ps 0 ps.length) ps.length (wordsF cs F ci ++ E2) σ (cs.length - ci + 1)
  | 0, ci, i, f', σ, _, _, _, h => absurd h (Nat.not_lt_zero _)
  | F + 1, ci, i, f', σ, hd, hf, ha, hF => by
    have hP := pr_zero G
    rcases Nat.lt_or_ge i (ls (pageOf ps)).length with hi | hi
    rotate_left
    · rw [cuts_ge hi, List.drop_eq_nil_iff] at hd
      have e : wordsF cs (F + 1) ci = [] := by rw [wordsF, if_neg (by omega)]
      rw [e]
      exact end_runs1 G hN ha hi _
    have hok := ok_at hP ha hN
    obtain ⟨a, b⟩ := rd_lt hP (at_lt ha hi) hi
    -- behind a word
    have after : ∀ {t : Str} {k l : Nat} {σ' : Sg}, ci + 1 ≤ l → k ≤ cs.length - ci + 1 → Gt (textOf ps) k σ t σ' →
        ((l < cs.length ∧ ∃ f'', InvL (textOf ps) (pageOf ps) (cs.getD l default).2.2 σ' ∧ 1 ≤ (cs.getD l default).2.2 ∧ cs.drop (l + 1) = cutsF (pageOf ps) f'' (cs.getD l default).2.2 ∧ (ls (pageOf ps)).length < (cs.getD l default).2.2 + f'') ∨ (cs.length ≤ l ∧ FinL (textOf ps) (pageOf ps) σ')) →
        Runs1 (textOf ps) (pageOf ps) (rowOf ps) (org ps 0 ps.length) ps.length (((t, if l < cs.length then some (cs.getD l default).2.2 else none) :: wordsF cs F (l + 1)) ++ E2) σ (cs.length - ci + 1) := by
      intro t k l σ' hl hk hg hor
      rcases hor with ⟨hlt, f'', hi', h1, h2, h3⟩ | ⟨hge, hfin⟩
      · refine ⟨t, _, _, k, σ', rfl, hk, hg, hok, ?_, ?_⟩
        · rw [if_pos hlt]; exact turn_some G hi' h1
        · exact (words_run G hN hcs F (l + 1) _ f'' σ' h2 h3 (.inl hi') (by omega)).runs (by omega)
      · refine ⟨t, _, _, k, σ', rfl, hk, hg, hok, ?_, ?_⟩
        · rw [if_neg (by omega)]; exact turn_none G hfin
        · have e : wordsF cs F (l + 1) = [] := by
            cases F with
            | zero => rfl
            | succ F => rw [wordsF, if_neg (by omega)]
          show Runs _ _ _ _ _ (wordsF cs F (l + 1) ++ E2) σ'
          rw [e]
          exact (end_runs1 G hN (.inr ⟨Nat.le_refl _, hfin⟩) (Nat.le_refl _) 0).runs (Nat.zero_le _)
    rcases cuts_lt hi hf with ⟨f0, rfl, hc, e⟩ | ⟨f0, rfl, hc, e⟩
    · rw [e] at hd
      obtain ⟨hlt, hg, hd'⟩ := drop_cons hd
      obtain ⟨c1, c2⟩ := rd_esc hP b
      have el : lastF cs "\n\t\r " (cs.length + 1) ci = lastF cs "\n\t\r " cs.length (ci + 1) := by rw [lastF, if_pos ⟨hlt, by rw [hg]; rfl⟩]
      have ew : wordsF cs (F + 1) ci = wordAt cs ci (lastF cs "\n\t\r " cs.length (ci + 1)) :: wordsF cs F (lastF cs "\n\t\r " cs.length (ci + 1) + 1) := by
        rw [wordsF, if_pos hlt]
        dsimp only
        rw [if_neg (by rw [hg]; show ¬ (false && _) = true; rw [Bool.false_and]; decide), if_neg (by rw [hg]; show ¬ (false && _) = true; rw [Bool.false_and]; decide), el]
      obtain ⟨σ', t1, t2, t3⟩ := tk_run hP (stop := wStop) (ends := "\n\t\r ") w_stop w92 (cs.length - (ci + 1)) (ci + 1) (i + 2) f0 _ (("" : Str) ++ Txt.slice (pageOf ps) (some ((i : Nat) + 1 : Int)) (some ((i : Nat) + 2 : Int))) cs.length rfl hd' (by omega) c2 (by omega)
      rw [ew]
      unfold wordAt
      refine after (k := cs.length - (ci + 1) + 1) (σ' := σ') t2 (by omega) ?_ t3
      rw [hd, show lastF cs "\n\t\r " cs.length (ci + 1) - ci = (lastF cs "\n\t\r " cs.length (ci + 1) - (ci + 1)) + 1 by omega, List.take_succ_cons, List.map_cons, join_cons, ← hd']
      rw [nil_app] at t1
      refine .esc (by rw [a]; exact chr_ne _) (by rw [a, hc]; exact w92) (by rw [a, hc]; exact q92) (by rw [a, hc]; decide) ?_
      rw [c1, nil_app]
      exact t1
    · rw [e] at hd
      obtain ⟨hlt, hg, hd'⟩ := drop_cons hd
      by_cases q : wStop (chr1 (ls (pageOf ps))[i]) = true
      · have ew : wordsF cs (F + 1) ci = wordsF cs F (ci + 1) := by
          rw [wordsF, if_pos hlt]
          dsimp only
          rw [if_pos (by rw [hg]; exact q)]
        rw [ew]
        obtain ⟨t, beh, W', k, σ', e1, hk, hgt, ho, ht, hr⟩ := words_run G hN hcs F (ci + 1) (i + 1) f0 _ hd' (by omega) (.inl b) (by omega)
        exact ⟨t, beh, W', k + 1, σ', e1, by omega, .ws (by rw [a]; exact chr_ne _) (by rw [a]; exact q) hgt, hok, ht, hr⟩
      · rw [Bool.not_eq_true] at q
        by_cases q2 : qStop (chr1 (ls (pageOf ps))[i]) = true
        · have ew : wordsF cs (F + 1) ci = wordAt cs (ci + 1) (lastF cs "\"" (cs.length + 1) (ci + 1)) :: wordsF cs F (lastF cs "\"" (cs.length + 1) (ci + 1) + 1) := by
            rw [wordsF, if_pos hlt]
            dsimp only
            rw [if_neg (by rw [hg]; show ¬ (true && Txt.contains _ _) = true; rw [← w_stop, q]; decide), if_pos (by rw [hg]; exact q2)]
          obtain ⟨σ', t1, t2, t3⟩ := tk_run hP (stop := qStop) (ends := "\"") q_stop q92 (cs.length - (ci + 1)) (ci + 1) (i + 1) f0 _ ("" : Str) (cs.length + 1) rfl hd' (by omega) (.inl b) (by omega)
          rw [ew]
          unfold wordAt
          refine after (k := cs.length - (ci + 1) + 1) (σ' := σ') t2 (by omega) ?_ t3
          rw [nil_app] at t1
          exact .quo (by rw [a]; exact chr_ne _) (by rw [a]; exact q) (by rw [a]; exact q2) t1
        · rw [Bool.not_eq_true] at q2
          have el : lastF cs "\n\t\r " (cs.length + 1) ci = lastF cs "\n\t\r " cs.length (ci + 1) := by
            rw [lastF, if_pos ⟨hlt, by rw [hg]; show (true && Txt.contains _ _) = false; rw [← w_stop, q]; rfl⟩]
          have ew : wordsF cs (F + 1) ci = wordAt cs ci (lastF cs "\n\t\r " cs.length (ci + 1)) :: wordsF cs F (lastF cs "\n\t\r " cs.length (ci + 1) + 1) := by
            rw [wordsF, if_pos hlt]
            dsimp only
            rw [if_neg (by rw [hg]; show ¬ (true && Txt.contains _ _) = true; rw [← w_stop, q]; decide), if_neg (by rw [hg]; show ¬ (true && (_ == _)) = true; rw [Bool.true_and]; unfold qStop at q2; rw [q2]; decide), el]
          obtain ⟨σ', t1, t2, t3⟩ := tk_run hP (stop := wStop) (ends := "\n\t\r ") w_stop w92 (cs.length - (ci + 1)) (ci + 1) (i + 1) f0 _ (("" : Str) ++ chr1 (ls (pageOf ps))[i]) cs.length rfl hd' (by omega) (.inl b) (by omega)
          rw [ew]
          unfold wordAt
          refine after (k := cs.length - (ci + 1) + 1) (σ' := σ') t2 (by omega) ?_ t3
          rw [hd, show lastF cs "\n\t\r " cs.length (ci + 1) - ci = (lastF cs "\n\t\r " cs.length (ci + 1) - (ci + 1)) + 1 by omega, List.take_succ_cons, List.map_cons, join_cons, ← hd']
          rw [nil_app] at t1
          refine .go (by rw [a]; exact chr_ne _) (by rw [a]; exact q) (by rw [a]; exact q2) (by rw [a, chr_bs, decide_eq_false hc]) ?_
          rw [a, nil_app]
          exact t1
end
theorem pre_bound {ps : List (Str × Str)} (G : Good ps) : ∀ n, n ≤ ps.length → pre ps n ≤ 3 * n
  | 0, _ => Nat.le_refl _
  | n + 1, h => by
    have := pre_bound G n (by omega)
    rw [pre_succ (by omega)]
    obtain ⟨_, _, _, h3⟩ := G (ps.getD n default) (by
      rw [List.getD_eq_getElem?_getD, List.getElem?_eq_getElem (by omega)]
      exact List.getElem_mem _)
    omega
theorem plain_law (ns : List Int) : PlainLaw ns := by
  have G := good_law ns
  have hl := len_law ns
  generalize hps : lawPs ns = ps at *
  have hN : (ls (pageOf ps)).length ≤ 51 := by
    have := pre_bound G ps.length (Nat.le_refl _)
    rw [page_n]; omega
  have hcut : (cutsOf (pageOf ps)).length ≤ 53 := by
    have := cutsF_len (pageOf ps) ((pageOf ps).length + 1) 0
    rw [len_ls] at this
    have e : cutsOf (pageOf ps) = cutsF (pageOf ps) ((pageOf ps).length + 1) 0 := rfl
    rw [len_ls] at e
    rw [e]
    omega
  refine ⟨?_, ?_, ?_, ?_, ?_, ?_, ?_, ?_⟩ <;> rw [hps]
  · intro p hp
    obtain ⟨c, e1, _, e3⟩ := G p hp
    rw [len_ls, len_ls, e1]
    exact ⟨by show 1 ≤ 3; decide, e3⟩
  · omega
  · rw [len_ls]; omega
  · rw [len_ls, text_len G]; omega
  · exact sorted_row ps
  · rw [org_length ps ps.length (Nat.le_refl _), ← page_n]; omega
  · have hinv : At (textOf ps) (pageOf ps) 0 ((1, 0, "") : Sg) := .inl ⟨Nat.zero_le _, inv_start _, rfl⟩
    have := words_run G (by omega) (cs := cutsOf (pageOf ps)) (by omega) ((cutsOf (pageOf ps)).length + 1) 0 0 ((pageOf ps).length + 1) (1, 0, "") (by rw [List.drop_zero]; rfl) (by rw [len_ls]; omega) hinv (by omega)
    exact this.runs (by omega)
  · intro place hp
    rw [len_ls, page_n] at hp
    exact places_ok ps hp
theorem holds_all : PySem.Challenge.rw_re0144_01.Holds := head1 plain_law
end
end
end
end
end
end
end
end
end
end
end
end
end
end
end
end
end
end
end
end
end Mine
end
theorem PySem.Challenge.cw_re0144_01_holds : PySem.Challenge.rw_re0144_01.Holds :=
  Mine.holds_all
