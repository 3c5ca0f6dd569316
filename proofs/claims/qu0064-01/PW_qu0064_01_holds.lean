import PyProof.Rows.All
import Wide.All
import OpenK.AllK
import Wide.FinOn
import PySem.Challenge.RW_qu0064_01
set_option compiler.extract_closed false
set_option linter.all false
section
open PySem PySem.W PyProof.Rows PySem.Spec PySem.Calls
set_option Elab.async false
set_option maxRecDepth 100000
namespace Mine
noncomputable abbrev d_in_table_b1 : { x : Arguments × List Stmt × Scope // Challenge.pw_qu0064_01.main.body[2]? = some (Stmt.FunctionDef "in_table_b1" x.1 x.2.1 [] none [] x.2.2 none "in_table_b1" ⟨3, 0, 4, 30⟩) } := ⟨(_, _, _), rfl⟩
noncomputable abbrev d_map_table_b3 : { x : Arguments × List Stmt × Scope // Challenge.pw_qu0064_01.main.body[4]? = some (Stmt.FunctionDef "map_table_b3" x.1 x.2.1 [] none [] x.2.2 none "map_table_b3" ⟨6, 0, 10, 23⟩) } := ⟨(_, _, _), rfl⟩
noncomputable abbrev d_rgb_to_hls : { x : Arguments × List Stmt × Scope // Challenge.pw_qu0064_01.main.body[6]? = some (Stmt.FunctionDef "rgb_to_hls" x.1 x.2.1 [] none [] x.2.2 none "rgb_to_hls" ⟨12, 0, 34, 20⟩) } := ⟨(_, _, _), rfl⟩
noncomputable abbrev d_hsv_to_rgb : { x : Arguments × List Stmt × Scope // Challenge.pw_qu0064_01.main.body[7]? = some (Stmt.FunctionDef "hsv_to_rgb" x.1 x.2.1 [] none [] x.2.2 none "hsv_to_rgb" ⟨35, 0, 55, 24⟩) } := ⟨(_, _, _), rfl⟩
noncomputable abbrev d_div2n1n : { x : Arguments × List Stmt × Scope // Challenge.pw_qu0064_01.main.body[10]? = some (Stmt.FunctionDef "_div2n1n" x.1 x.2.1 [] none [] x.2.2 none "_div2n1n" ⟨58, 0, 73, 33⟩) } := ⟨(_, _, _), rfl⟩
noncomputable abbrev d_div3n2n : { x : Arguments × List Stmt × Scope // Challenge.pw_qu0064_01.main.body[11]? = some (Stmt.FunctionDef "_div3n2n" x.1 x.2.1 [] none [] x.2.2 none "_div3n2n" ⟨74, 0, 83, 17⟩) } := ⟨(_, _, _), rfl⟩
noncomputable abbrev d_int2digits : { x : Arguments × List Stmt × Scope // Challenge.pw_qu0064_01.main.body[12]? = some (Stmt.FunctionDef "_int2digits" x.1 x.2.1 [] none [] x.2.2 none "_int2digits" ⟨84, 0, 99, 19⟩) } := ⟨(_, _, _), rfl⟩
noncomputable abbrev d_digits2int : { x : Arguments × List Stmt × Scope // Challenge.pw_qu0064_01.main.body[13]? = some (Stmt.FunctionDef "_digits2int" x.1 x.2.1 [] none [] x.2.2 none "_digits2int" ⟨100, 0, 108, 49⟩) } := ⟨(_, _, _), rfl⟩
noncomputable abbrev d_divmod_pos : { x : Arguments × List Stmt × Scope // Challenge.pw_qu0064_01.main.body[14]? = some (Stmt.FunctionDef "_divmod_pos" x.1 x.2.1 [] none [] x.2.2 none "_divmod_pos" ⟨109, 0, 119, 17⟩) } := ⟨(_, _, _), rfl⟩
noncomputable abbrev d_int_divmod : { x : Arguments × List Stmt × Scope // Challenge.pw_qu0064_01.main.body[15]? = some (Stmt.FunctionDef "int_divmod" x.1 x.2.1 [] none [] x.2.2 none "int_divmod" ⟨120, 0, 130, 32⟩) } := ⟨(_, _, _), rfl⟩
noncomputable abbrev d_law_nothing : { x : Arguments × List Stmt × Scope // Challenge.pw_qu0064_01.main.body[17]? = some (Stmt.FunctionDef "_law_nothing" x.1 x.2.1 [] none [] x.2.2 none "_law_nothing" ⟨132, 0, 134, 63⟩) } := ⟨(_, _, _), rfl⟩
noncomputable abbrev d_law_form : { x : Arguments × List Stmt × Scope // Challenge.pw_qu0064_01.main.body[18]? = some (Stmt.FunctionDef "_law_form" x.1 x.2.1 [] none [] x.2.2 none "_law_form" ⟨135, 0, 141, 60⟩) } := ⟨(_, _, _), rfl⟩
noncomputable abbrev d_law_stock : { x : Arguments × List Stmt × Scope // Challenge.pw_qu0064_01.main.body[19]? = some (Stmt.FunctionDef "_law_stock" x.1 x.2.1 [] none [] x.2.2 none "_law_stock" ⟨142, 0, 146, 50⟩) } := ⟨(_, _, _), rfl⟩
noncomputable abbrev d_law_prepared : { x : Arguments × List Stmt × Scope // Challenge.pw_qu0064_01.main.body[20]? = some (Stmt.FunctionDef "_law_prepared" x.1 x.2.1 [] none [] x.2.2 none "_law_prepared" ⟨147, 0, 152, 15⟩) } := ⟨(_, _, _), rfl⟩
noncomputable abbrev d_law_shelves : { x : Arguments × List Stmt × Scope // Challenge.pw_qu0064_01.main.body[21]? = some (Stmt.FunctionDef "_law_shelves" x.1 x.2.1 [] none [] x.2.2 none "_law_shelves" ⟨153, 0, 158, 18⟩) } := ⟨(_, _, _), rfl⟩
noncomputable abbrev d_law_mixed : { x : Arguments × List Stmt × Scope // Challenge.pw_qu0064_01.main.body[22]? = some (Stmt.FunctionDef "_law_mixed" x.1 x.2.1 [] none [] x.2.2 none "_law_mixed" ⟨159, 0, 164, 78⟩) } := ⟨(_, _, _), rfl⟩
noncomputable abbrev d_law_colours_hold : { x : Arguments × List Stmt × Scope // Challenge.pw_qu0064_01.main.body[23]? = some (Stmt.FunctionDef "_law_colours_hold" x.1 x.2.1 [] none [] x.2.2 none "_law_colours_hold" ⟨165, 0, 173, 15⟩) } := ⟨(_, _, _), rfl⟩
noncomputable abbrev d_law_divisions_hold : { x : Arguments × List Stmt × Scope // Challenge.pw_qu0064_01.main.body[24]? = some (Stmt.FunctionDef "_law_divisions_hold" x.1 x.2.1 [] none [] x.2.2 none "_law_divisions_hold" ⟨174, 0, 179, 15⟩) } := ⟨(_, _, _), rfl⟩
noncomputable abbrev d_law : { x : Arguments × List Stmt × Scope // Challenge.pw_qu0064_01.main.body[25]? = some (Stmt.FunctionDef "law" x.1 x.2.1 [] none [] x.2.2 none "law" ⟨180, 0, 200, 55⟩) } := ⟨(_, _, _), rfl⟩
noncomputable def b3of : Option Stmt → List (Option Expr) × List Expr × Pos × Pos × Pos
  | some (.Assign [.Name _ a] (.Dict ks vs b) c) => (ks, vs, b, c, a)
  | _ => ([], [], ⟨0, 0, 0, 0⟩, ⟨0, 0, 0, 0⟩, ⟨0, 0, 0, 0⟩)
noncomputable abbrev b3at : List (Option Expr) × List Expr × Pos × Pos × Pos := b3of Challenge.pw_qu0064_01.main.body[3]?
noncomputable abbrev d_b3 : { x : List (Option Expr) × List Expr × Pos × Pos // ∃ p0, Challenge.pw_qu0064_01.main.body[3]? = some (Stmt.Assign [Expr.Name "b3_exceptions" p0] (Expr.Dict x.1 x.2.1 x.2.2.1) x.2.2.2) } := ⟨(b3at.1, b3at.2.1, b3at.2.2.1, b3at.2.2.2.1), b3at.2.2.2.2, by kernel_rfl⟩
noncomputable def b3e (i : Nat) : Option Expr → Expr → DictEntry
  | some (.Constant (.int k) _ _), .Constant (.str x) _ _ =>
    match Nat.blt i 646 with
    | true => ⟨k, .int k (256 + 3 * i), .str x (257 + 3 * i)⟩
    | false => ⟨k, .int k (2194 + 2 * (i - 646)), .str x (2195 + 2 * (i - 646))⟩
  | _, _ => ⟨0, .none, .none⟩
noncomputable def b3go : Nat → List (Option Expr) → List Expr → List DictEntry
  | i, k :: ks, v :: vs => b3e i k v :: b3go (i + 1) ks vs
  | _, _, _ => []
noncomputable def b3l : List DictEntry := b3go 0 d_b3.1.1 d_b3.1.2.1
noncomputable def b3es : Array DictEntry := b3l.toArray
noncomputable def b1es : Array (Int × Value) := #[Prod.mk 65024 (Value.int 65024 205), Prod.mk 65025 (Value.int 65025 206), Prod.mk 65026 (Value.int 65026 207), Prod.mk 65027 (Value.int 65027 208), Prod.mk 65028 (Value.int 65028 209), Prod.mk 65029 (Value.int 65029 210), Prod.mk 6150 (Value.int 6150 191), Prod.mk 65030 (Value.int 65030 211), Prod.mk 65031 (Value.int 65031 212), Prod.mk 65032 (Value.int 65032 213), Prod.mk 65033 (Value.int 65033 214), Prod.mk 6155 (Value.int 6155 192), Prod.mk 6156 (Value.int 6156 193), Prod.mk 6157 (Value.int 6157 194), Prod.mk 8203 (Value.int 8203 195), Prod.mk 8204 (Value.int 8204 196), Prod.mk 8205 (Value.int 8205 197), Prod.mk 65034 (Value.int 65034 215), Prod.mk 65035 (Value.int 65035 216), Prod.mk 65036 (Value.int 65036 217), Prod.mk 65037 (Value.int 65037 218), Prod.mk 65038 (Value.int 65038 219), Prod.mk 65039 (Value.int 65039 220), Prod.mk 173 (Value.int 173 189), Prod.mk 847 (Value.int 847 190), Prod.mk 8288 (Value.int 8288 198), Prod.mk 65279 (Value.int 65279 199)]
noncomputable def b1tab (P : Params) : SetTable := SetTable.mk 127 #[0, 1, 2, 3, 4, 5, 6, 7, 8, 9, 10, 11, 12, 13, 14, 15, 16, 17, 18, 19, 20, 21, 22, 45, 79, 96, 127] #[] 0 (Bool.not (Params.followText P "set-order")) 2 Bool.true
set_option maxRecDepth 100000 in
set_option maxHeartbeats 0 in
noncomputable def heapK : Params → Frag := fun P =>
  ((nat_lit 2 : Nat), Obj.mk Value.none (Option.none) (Data.dict #[] 0) #[]) ::
  ((nat_lit 3 : Nat), Obj.mk (Value.type "dict") (Option.none) (Data.dict #[DictEntry.mk (PyData.keyHash P (Str.ofString "__name__")) (Value.str (Str.ofString "__name__") 165) (Value.str (Str.ofString "law_qu0064_01") 2332), DictEntry.mk (PyData.keyHash P (Str.ofString "__doc__")) (Value.str (Str.ofString "__doc__") 166) Value.none, DictEntry.mk (PyData.keyHash P (Str.ofString "__package__")) (Value.str (Str.ofString "__package__") 167) Value.none, DictEntry.mk (PyData.keyHash P (Str.ofString "__loader__")) (Value.str (Str.ofString "__loader__") 168) (Value.builtin "__main__.__loader__#opaque"), DictEntry.mk (PyData.keyHash P (Str.ofString "__spec__")) (Value.str (Str.ofString "__spec__") 169) Value.none, DictEntry.mk (PyData.keyHash P (Str.ofString "__annotations__")) (Value.str (Str.ofString "__annotations__") 170) (Value.ref 6), DictEntry.mk (PyData.keyHash P (Str.ofString "__builtins__")) (Value.str (Str.ofString "__builtins__") 171) (Value.ref 4), DictEntry.mk (PyData.keyHash P (Str.ofString "__file__")) (Value.str (Str.ofString "__file__") 173) (Value.str (Str.ofString "/claim/cut.py") 172), DictEntry.mk (PyData.keyHash P (Str.ofString "__cached__")) (Value.str (Str.ofString "__cached__") 174) Value.none, DictEntry.mk (PyData.keyHash P (Str.ofString "b1_set")) (Value.str (Str.ofString "b1_set") 248) (Value.ref 22), DictEntry.mk (PyData.keyHash P (Str.ofString "in_table_b1")) (Value.str (Str.ofString "in_table_b1") 255) (Value.ref 32), DictEntry.mk (PyData.keyHash P (Str.ofString "b3_exceptions")) (Value.str (Str.ofString "b3_exceptions") 2206) (Value.ref 33), DictEntry.mk (PyData.keyHash P (Str.ofString "map_table_b3")) (Value.str (Str.ofString "map_table_b3") 2214) (Value.ref 78), DictEntry.mk (PyData.keyHash P (Str.ofString "rgb_to_hls")) (Value.str (Str.ofString "rgb_to_hls") 2235) (Value.ref 85), DictEntry.mk (PyData.keyHash P (Str.ofString "hsv_to_rgb")) (Value.str (Str.ofString "hsv_to_rgb") 2249) (Value.ref 92), DictEntry.mk (PyData.keyHash P (Str.ofString "_DIV_LIMIT")) (Value.str (Str.ofString "_DIV_LIMIT") 2253) (Value.int 4000 2252), DictEntry.mk (PyData.keyHash P (Str.ofString "_div2n1n")) (Value.str (Str.ofString "_div2n1n") 2270) (Value.ref 99), DictEntry.mk (PyData.keyHash P (Str.ofString "_div3n2n")) (Value.str (Str.ofString "_div3n2n") 2284) (Value.ref 106), DictEntry.mk (PyData.keyHash P (Str.ofString "_int2digits")) (Value.str (Str.ofString "_int2digits") 2295) (Value.ref 113), DictEntry.mk (PyData.keyHash P (Str.ofString "_digits2int")) (Value.str (Str.ofString "_digits2int") 2306) (Value.ref 120), DictEntry.mk (PyData.keyHash P (Str.ofString "_divmod_pos")) (Value.str (Str.ofString "_divmod_pos") 2321) (Value.ref 127), DictEntry.mk (PyData.keyHash P (Str.ofString "int_divmod")) (Value.str (Str.ofString "int_divmod") 2331) (Value.ref 134), DictEntry.mk (PyData.keyHash P (Str.ofString "_law_nothing")) (Value.str (Str.ofString "_law_nothing") 2341) (Value.ref 141), DictEntry.mk (PyData.keyHash P (Str.ofString "_law_form")) (Value.str (Str.ofString "_law_form") 2350) (Value.ref 148), DictEntry.mk (PyData.keyHash P (Str.ofString "_law_stock")) (Value.str (Str.ofString "_law_stock") 2360) (Value.ref 155), DictEntry.mk (PyData.keyHash P (Str.ofString "_law_prepared")) (Value.str (Str.ofString "_law_prepared") 2369) (Value.ref 162), DictEntry.mk (PyData.keyHash P (Str.ofString "_law_shelves")) (Value.str (Str.ofString "_law_shelves") 2382) (Value.ref 169), DictEntry.mk (PyData.keyHash P (Str.ofString "_law_mixed")) (Value.str (Str.ofString "_law_mixed") 2388) (Value.ref 174), DictEntry.mk (PyData.keyHash P (Str.ofString "_law_colours_hold")) (Value.str (Str.ofString "_law_colours_hold") 2394) (Value.ref 179), DictEntry.mk (PyData.keyHash P (Str.ofString "_law_divisions_hold")) (Value.str (Str.ofString "_law_divisions_hold") 2408) (Value.ref 186), DictEntry.mk (PyData.keyHash P (Str.ofString "law")) (Value.str (Str.ofString "law") 2414) (Value.ref 191)] 31) #[]) ::
  ((nat_lit 22 : Nat), Obj.mk (Value.type "set") (Option.none) (Data.set b1es 29 (b1tab P)) #[]) ::
  ((nat_lit 26 : Nat), Obj.mk (Value.type "tuple") (Option.none) (Data.seq #[] 0) #[]) ::
  ((nat_lit 28 : Nat), Obj.mk (Value.type "tuple") (Option.none) (Data.seq #[Value.str (Str.ofString "code") 252] 0) #[]) ::
  ((nat_lit 29 : Nat), Obj.mk (Value.type "tuple") (Option.none) (Data.seq #[] 0) #[]) ::
  ((nat_lit 31 : Nat), Obj.mk (Value.type "code") (Option.none) (Data.fields #[Value.str (Str.ofString "in_table_b1") 249, Value.str (Str.ofString "in_table_b1") 250, Value.str (Str.ofString "/claim/cut.py") 251, Value.int 3 0, Value.int 1 0, Value.int 0 0, Value.int 0 0, Value.int 3 0, Value.ref 26, Value.bool Bool.true, Value.int 181 0, Value.ref 27, Value.none, Value.ref 28, Value.ref 29, Value.ref 30, Value.int 253 0, Value.int 3 0, Value.str (Str.ofString "/claim/cut.py") 254]) #[]) ::
  ((nat_lit 32 : Nat), Obj.mk (Value.type "function") (Option.none) (Data.func (FuncData.mk (Str.ofString "in_table_b1") (Str.ofString "in_table_b1") d_in_table_b1.1.1 (FuncBody.stmts d_in_table_b1.1.2.1) d_in_table_b1.1.2.2 3 [] Value.none Value.none Value.none (Value.str (Str.ofString "cpy313.stringprep") 187) (Option.none) (Value.ref 31) Value.none 0)) #[]) ::
  ((nat_lit 33 : Nat), Obj.mk (Value.type "dict") (Option.none) (Data.dict b3es 650) #[]) ::
  ((nat_lit 72 : Nat), Obj.mk (Value.type "tuple") (Option.none) (Data.seq #[] 0) #[]) ::
  ((nat_lit 74 : Nat), Obj.mk (Value.type "tuple") (Option.none) (Data.seq #[Value.str (Str.ofString "code") 2210, Value.str (Str.ofString "r") 2211] 0) #[]) ::
  ((nat_lit 75 : Nat), Obj.mk (Value.type "tuple") (Option.none) (Data.seq #[] 0) #[]) ::
  ((nat_lit 77 : Nat), Obj.mk (Value.type "code") (Option.none) (Data.fields #[Value.str (Str.ofString "map_table_b3") 2207, Value.str (Str.ofString "map_table_b3") 2208, Value.str (Str.ofString "/claim/cut.py") 2209, Value.int 6 0, Value.int 1 0, Value.int 0 0, Value.int 0 0, Value.int 3 0, Value.ref 72, Value.bool Bool.true, Value.int 181 0, Value.ref 73, Value.none, Value.ref 74, Value.ref 75, Value.ref 76, Value.int 2212 0, Value.int 6 0, Value.str (Str.ofString "/claim/cut.py") 2213]) #[]) ::
  ((nat_lit 78 : Nat), Obj.mk (Value.type "function") (Option.none) (Data.func (FuncData.mk (Str.ofString "map_table_b3") (Str.ofString "map_table_b3") d_map_table_b3.1.1 (FuncBody.stmts d_map_table_b3.1.2.1) d_map_table_b3.1.2.2 3 [] Value.none Value.none Value.none (Value.str (Str.ofString "cpy313.stringprep") 187) (Option.none) (Value.ref 77) Value.none 0)) #[]) ::
  ((nat_lit 79 : Nat), Obj.mk (Value.type "tuple") (Option.none) (Data.seq #[] 0) #[]) ::
  ((nat_lit 81 : Nat), Obj.mk (Value.type "tuple") (Option.none) (Data.seq #[Value.str (Str.ofString "r") 2220, Value.str (Str.ofString "g") 2221, Value.str (Str.ofString "b") 2222, Value.str (Str.ofString "maxc") 2223, Value.str (Str.ofString "minc") 2224, Value.str (Str.ofString "sumc") 2225, Value.str (Str.ofString "rangec") 2226, Value.str (Str.ofString "l") 2227, Value.str (Str.ofString "s") 2228, Value.str (Str.ofString "rc") 2229, Value.str (Str.ofString "gc") 2230, Value.str (Str.ofString "bc") 2231, Value.str (Str.ofString "h") 2232] 0) #[]) ::
  ((nat_lit 82 : Nat), Obj.mk (Value.type "tuple") (Option.none) (Data.seq #[] 0) #[]) ::
  ((nat_lit 84 : Nat), Obj.mk (Value.type "code") (Option.none) (Data.fields #[Value.str (Str.ofString "rgb_to_hls") 2217, Value.str (Str.ofString "rgb_to_hls") 2218, Value.str (Str.ofString "/claim/cut.py") 2219, Value.int 12 0, Value.int 3 0, Value.int 0 0, Value.int 0 0, Value.int 3 0, Value.ref 79, Value.bool Bool.true, Value.int 181 0, Value.ref 80, Value.none, Value.ref 81, Value.ref 82, Value.ref 83, Value.int 2233 0, Value.int 12 0, Value.str (Str.ofString "/claim/cut.py") 2234]) #[]) ::
  ((nat_lit 85 : Nat), Obj.mk (Value.type "function") (Option.none) (Data.func (FuncData.mk (Str.ofString "rgb_to_hls") (Str.ofString "rgb_to_hls") d_rgb_to_hls.1.1 (FuncBody.stmts d_rgb_to_hls.1.2.1) d_rgb_to_hls.1.2.2 3 [] Value.none Value.none Value.none (Value.str (Str.ofString "cpy313.colorsys") 2215) (Option.none) (Value.ref 84) Value.none 0)) #[]) ::
  ((nat_lit 86 : Nat), Obj.mk (Value.type "tuple") (Option.none) (Data.seq #[] 0) #[]) ::
  ((nat_lit 88 : Nat), Obj.mk (Value.type "tuple") (Option.none) (Data.seq #[Value.str (Str.ofString "h") 2239, Value.str (Str.ofString "s") 2240, Value.str (Str.ofString "v") 2241, Value.str (Str.ofString "i") 2242, Value.str (Str.ofString "f") 2243, Value.str (Str.ofString "p") 2244, Value.str (Str.ofString "q") 2245, Value.str (Str.ofString "t") 2246] 0) #[]) ::
  ((nat_lit 89 : Nat), Obj.mk (Value.type "tuple") (Option.none) (Data.seq #[] 0) #[]) ::
  ((nat_lit 91 : Nat), Obj.mk (Value.type "code") (Option.none) (Data.fields #[Value.str (Str.ofString "hsv_to_rgb") 2236, Value.str (Str.ofString "hsv_to_rgb") 2237, Value.str (Str.ofString "/claim/cut.py") 2238, Value.int 35 0, Value.int 3 0, Value.int 0 0, Value.int 0 0, Value.int 3 0, Value.ref 86, Value.bool Bool.true, Value.int 181 0, Value.ref 87, Value.none, Value.ref 88, Value.ref 89, Value.ref 90, Value.int 2247 0, Value.int 35 0, Value.str (Str.ofString "/claim/cut.py") 2248]) #[]) ::
  ((nat_lit 92 : Nat), Obj.mk (Value.type "function") (Option.none) (Data.func (FuncData.mk (Str.ofString "hsv_to_rgb") (Str.ofString "hsv_to_rgb") d_hsv_to_rgb.1.1 (FuncBody.stmts d_hsv_to_rgb.1.2.1) d_hsv_to_rgb.1.2.2 3 [] Value.none Value.none Value.none (Value.str (Str.ofString "cpy313.colorsys") 2215) (Option.none) (Value.ref 91) Value.none 0)) #[]) ::
  ((nat_lit 93 : Nat), Obj.mk (Value.type "tuple") (Option.none) (Data.seq #[] 0) #[]) ::
  ((nat_lit 95 : Nat), Obj.mk (Value.type "tuple") (Option.none) (Data.seq #[Value.str (Str.ofString "a") 2257, Value.str (Str.ofString "b") 2258, Value.str (Str.ofString "n") 2259, Value.str (Str.ofString "pad") 2260, Value.str (Str.ofString "half_n") 2261, Value.str (Str.ofString "mask") 2262, Value.str (Str.ofString "b1") 2263, Value.str (Str.ofString "b2") 2264, Value.str (Str.ofString "q1") 2265, Value.str (Str.ofString "r") 2266, Value.str (Str.ofString "q2") 2267] 0) #[]) ::
  ((nat_lit 96 : Nat), Obj.mk (Value.type "tuple") (Option.none) (Data.seq #[] 0) #[]) ::
  ((nat_lit 98 : Nat), Obj.mk (Value.type "code") (Option.none) (Data.fields #[Value.str (Str.ofString "_div2n1n") 2254, Value.str (Str.ofString "_div2n1n") 2255, Value.str (Str.ofString "/claim/cut.py") 2256, Value.int 58 0, Value.int 3 0, Value.int 0 0, Value.int 0 0, Value.int 3 0, Value.ref 93, Value.bool Bool.true, Value.int 181 0, Value.ref 94, Value.none, Value.ref 95, Value.ref 96, Value.ref 97, Value.int 2268 0, Value.int 58 0, Value.str (Str.ofString "/claim/cut.py") 2269]) #[]) ::
  ((nat_lit 99 : Nat), Obj.mk (Value.type "function") (Option.none) (Data.func (FuncData.mk (Str.ofString "_div2n1n") (Str.ofString "_div2n1n") d_div2n1n.1.1 (FuncBody.stmts d_div2n1n.1.2.1) d_div2n1n.1.2.2 3 [] Value.none Value.none Value.none (Value.str (Str.ofString "cpy313._pylong") 2250) (Option.none) (Value.ref 98) Value.none 0)) #[]) ::
  ((nat_lit 100 : Nat), Obj.mk (Value.type "tuple") (Option.none) (Data.seq #[] 0) #[]) ::
  ((nat_lit 102 : Nat), Obj.mk (Value.type "tuple") (Option.none) (Data.seq #[Value.str (Str.ofString "a12") 2274, Value.str (Str.ofString "a3") 2275, Value.str (Str.ofString "b") 2276, Value.str (Str.ofString "b1") 2277, Value.str (Str.ofString "b2") 2278, Value.str (Str.ofString "n") 2279, Value.str (Str.ofString "q") 2280, Value.str (Str.ofString "r") 2281] 0) #[]) ::
  ((nat_lit 103 : Nat), Obj.mk (Value.type "tuple") (Option.none) (Data.seq #[] 0) #[]) ::
  ((nat_lit 105 : Nat), Obj.mk (Value.type "code") (Option.none) (Data.fields #[Value.str (Str.ofString "_div3n2n") 2271, Value.str (Str.ofString "_div3n2n") 2272, Value.str (Str.ofString "/claim/cut.py") 2273, Value.int 74 0, Value.int 6 0, Value.int 0 0, Value.int 0 0, Value.int 3 0, Value.ref 100, Value.bool Bool.true, Value.int 181 0, Value.ref 101, Value.none, Value.ref 102, Value.ref 103, Value.ref 104, Value.int 2282 0, Value.int 74 0, Value.str (Str.ofString "/claim/cut.py") 2283]) #[]) ::
  ((nat_lit 106 : Nat), Obj.mk (Value.type "function") (Option.none) (Data.func (FuncData.mk (Str.ofString "_div3n2n") (Str.ofString "_div3n2n") d_div3n2n.1.1 (FuncBody.stmts d_div3n2n.1.2.1) d_div3n2n.1.2.2 3 [] Value.none Value.none Value.none (Value.str (Str.ofString "cpy313._pylong") 2250) (Option.none) (Value.ref 105) Value.none 0)) #[]) ::
  ((nat_lit 107 : Nat), Obj.mk (Value.type "tuple") (Option.none) (Data.seq #[] 0) #[]) ::
  ((nat_lit 109 : Nat), Obj.mk (Value.type "tuple") (Option.none) (Data.seq #[Value.str (Str.ofString "a") 2288, Value.str (Str.ofString "n") 2289] 0) #[]) ::
  ((nat_lit 110 : Nat), Obj.mk (Value.type "tuple") (Option.none) (Data.seq #[Value.str (Str.ofString "n") 2290, Value.str (Str.ofString "a_digits") 2291, Value.str (Str.ofString "inner") 2292] 0) #[]) ::
  ((nat_lit 112 : Nat), Obj.mk (Value.type "code") (Option.none) (Data.fields #[Value.str (Str.ofString "_int2digits") 2285, Value.str (Str.ofString "_int2digits") 2286, Value.str (Str.ofString "/claim/cut.py") 2287, Value.int 84 0, Value.int 2 0, Value.int 0 0, Value.int 0 0, Value.int 3 0, Value.ref 107, Value.bool Bool.true, Value.int 181 0, Value.ref 108, Value.none, Value.ref 109, Value.ref 110, Value.ref 111, Value.int 2293 0, Value.int 84 0, Value.str (Str.ofString "/claim/cut.py") 2294]) #[]) ::
  ((nat_lit 113 : Nat), Obj.mk (Value.type "function") (Option.none) (Data.func (FuncData.mk (Str.ofString "_int2digits") (Str.ofString "_int2digits") d_int2digits.1.1 (FuncBody.stmts d_int2digits.1.2.1) d_int2digits.1.2.2 3 [] Value.none Value.none Value.none (Value.str (Str.ofString "cpy313._pylong") 2250) (Option.none) (Value.ref 112) Value.none 0)) #[]) ::
  ((nat_lit 114 : Nat), Obj.mk (Value.type "tuple") (Option.none) (Data.seq #[] 0) #[]) ::
  ((nat_lit 116 : Nat), Obj.mk (Value.type "tuple") (Option.none) (Data.seq #[Value.str (Str.ofString "digits") 2299, Value.str (Str.ofString "n") 2300] 0) #[]) ::
  ((nat_lit 117 : Nat), Obj.mk (Value.type "tuple") (Option.none) (Data.seq #[Value.str (Str.ofString "digits") 2301, Value.str (Str.ofString "n") 2302, Value.str (Str.ofString "inner") 2303] 0) #[]) ::
  ((nat_lit 119 : Nat), Obj.mk (Value.type "code") (Option.none) (Data.fields #[Value.str (Str.ofString "_digits2int") 2296, Value.str (Str.ofString "_digits2int") 2297, Value.str (Str.ofString "/claim/cut.py") 2298, Value.int 100 0, Value.int 2 0, Value.int 0 0, Value.int 0 0, Value.int 3 0, Value.ref 114, Value.bool Bool.true, Value.int 181 0, Value.ref 115, Value.none, Value.ref 116, Value.ref 117, Value.ref 118, Value.int 2304 0, Value.int 100 0, Value.str (Str.ofString "/claim/cut.py") 2305]) #[]) ::
  ((nat_lit 120 : Nat), Obj.mk (Value.type "function") (Option.none) (Data.func (FuncData.mk (Str.ofString "_digits2int") (Str.ofString "_digits2int") d_digits2int.1.1 (FuncBody.stmts d_digits2int.1.2.1) d_digits2int.1.2.2 3 [] Value.none Value.none Value.none (Value.str (Str.ofString "cpy313._pylong") 2250) (Option.none) (Value.ref 119) Value.none 0)) #[]) ::
  ((nat_lit 121 : Nat), Obj.mk (Value.type "tuple") (Option.none) (Data.seq #[] 0) #[]) ::
  ((nat_lit 123 : Nat), Obj.mk (Value.type "tuple") (Option.none) (Data.seq #[Value.str (Str.ofString "a") 2310, Value.str (Str.ofString "b") 2311, Value.str (Str.ofString "n") 2312, Value.str (Str.ofString "a_digits") 2313, Value.str (Str.ofString "r") 2314, Value.str (Str.ofString "q_digits") 2315, Value.str (Str.ofString "a_digit") 2316, Value.str (Str.ofString "q_digit") 2317, Value.str (Str.ofString "q") 2318] 0) #[]) ::
  ((nat_lit 124 : Nat), Obj.mk (Value.type "tuple") (Option.none) (Data.seq #[] 0) #[]) ::
  ((nat_lit 126 : Nat), Obj.mk (Value.type "code") (Option.none) (Data.fields #[Value.str (Str.ofString "_divmod_pos") 2307, Value.str (Str.ofString "_divmod_pos") 2308, Value.str (Str.ofString "/claim/cut.py") 2309, Value.int 109 0, Value.int 2 0, Value.int 0 0, Value.int 0 0, Value.int 3 0, Value.ref 121, Value.bool Bool.true, Value.int 181 0, Value.ref 122, Value.none, Value.ref 123, Value.ref 124, Value.ref 125, Value.int 2319 0, Value.int 109 0, Value.str (Str.ofString "/claim/cut.py") 2320]) #[]) ::
  ((nat_lit 127 : Nat), Obj.mk (Value.type "function") (Option.none) (Data.func (FuncData.mk (Str.ofString "_divmod_pos") (Str.ofString "_divmod_pos") d_divmod_pos.1.1 (FuncBody.stmts d_divmod_pos.1.2.1) d_divmod_pos.1.2.2 3 [] Value.none Value.none Value.none (Value.str (Str.ofString "cpy313._pylong") 2250) (Option.none) (Value.ref 126) Value.none 0)) #[]) ::
  ((nat_lit 128 : Nat), Obj.mk (Value.type "tuple") (Option.none) (Data.seq #[] 0) #[]) ::
  ((nat_lit 130 : Nat), Obj.mk (Value.type "tuple") (Option.none) (Data.seq #[Value.str (Str.ofString "a") 2325, Value.str (Str.ofString "b") 2326, Value.str (Str.ofString "q") 2327, Value.str (Str.ofString "r") 2328] 0) #[]) ::
  ((nat_lit 131 : Nat), Obj.mk (Value.type "tuple") (Option.none) (Data.seq #[] 0) #[]) ::
  ((nat_lit 133 : Nat), Obj.mk (Value.type "code") (Option.none) (Data.fields #[Value.str (Str.ofString "int_divmod") 2322, Value.str (Str.ofString "int_divmod") 2323, Value.str (Str.ofString "/claim/cut.py") 2324, Value.int 120 0, Value.int 2 0, Value.int 0 0, Value.int 0 0, Value.int 3 0, Value.ref 128, Value.bool Bool.true, Value.int 181 0, Value.ref 129, Value.none, Value.ref 130, Value.ref 131, Value.ref 132, Value.int 2329 0, Value.int 120 0, Value.str (Str.ofString "/claim/cut.py") 2330]) #[]) ::
  ((nat_lit 134 : Nat), Obj.mk (Value.type "function") (Option.none) (Data.func (FuncData.mk (Str.ofString "int_divmod") (Str.ofString "int_divmod") d_int_divmod.1.1 (FuncBody.stmts d_int_divmod.1.2.1) d_int_divmod.1.2.2 3 [] Value.none Value.none Value.none (Value.str (Str.ofString "cpy313._pylong") 2250) (Option.none) (Value.ref 133) Value.none 0)) #[]) ::
  ((nat_lit 135 : Nat), Obj.mk (Value.type "tuple") (Option.none) (Data.seq #[] 0) #[]) ::
  ((nat_lit 137 : Nat), Obj.mk (Value.type "tuple") (Option.none) (Data.seq #[Value.str (Str.ofString "which") 2337, Value.str (Str.ofString "codes") 2338] 0) #[]) ::
  ((nat_lit 138 : Nat), Obj.mk (Value.type "tuple") (Option.none) (Data.seq #[] 0) #[]) ::
  ((nat_lit 140 : Nat), Obj.mk (Value.type "code") (Option.none) (Data.fields #[Value.str (Str.ofString "_law_nothing") 2334, Value.str (Str.ofString "_law_nothing") 2335, Value.str (Str.ofString "/claim/cut.py") 2336, Value.int 132 0, Value.int 1 0, Value.int 0 0, Value.int 0 0, Value.int 3 0, Value.ref 135, Value.bool Bool.true, Value.int 181 0, Value.ref 136, Value.none, Value.ref 137, Value.ref 138, Value.ref 139, Value.int 2339 0, Value.int 132 0, Value.str (Str.ofString "/claim/cut.py") 2340]) #[]) ::
  ((nat_lit 141 : Nat), Obj.mk (Value.type "function") (Option.none) (Data.func (FuncData.mk (Str.ofString "_law_nothing") (Str.ofString "_law_nothing") d_law_nothing.1.1 (FuncBody.stmts d_law_nothing.1.2.1) d_law_nothing.1.2.2 3 [] Value.none Value.none Value.none (Value.str (Str.ofString "law_qu0064_01") 2332) (Option.none) (Value.ref 140) Value.none 0)) #[]) ::
  ((nat_lit 142 : Nat), Obj.mk (Value.type "tuple") (Option.none) (Data.seq #[] 0) #[]) ::
  ((nat_lit 144 : Nat), Obj.mk (Value.type "tuple") (Option.none) (Data.seq #[Value.str (Str.ofString "letter") 2345, Value.str (Str.ofString "which") 2346, Value.str (Str.ofString "alphabets") 2347] 0) #[]) ::
  ((nat_lit 145 : Nat), Obj.mk (Value.type "tuple") (Option.none) (Data.seq #[] 0) #[]) ::
  ((nat_lit 147 : Nat), Obj.mk (Value.type "code") (Option.none) (Data.fields #[Value.str (Str.ofString "_law_form") 2342, Value.str (Str.ofString "_law_form") 2343, Value.str (Str.ofString "/claim/cut.py") 2344, Value.int 135 0, Value.int 2 0, Value.int 0 0, Value.int 0 0, Value.int 3 0, Value.ref 142, Value.bool Bool.true, Value.int 181 0, Value.ref 143, Value.none, Value.ref 144, Value.ref 145, Value.ref 146, Value.int 2348 0, Value.int 135 0, Value.str (Str.ofString "/claim/cut.py") 2349]) #[]) ::
  ((nat_lit 148 : Nat), Obj.mk (Value.type "function") (Option.none) (Data.func (FuncData.mk (Str.ofString "_law_form") (Str.ofString "_law_form") d_law_form.1.1 (FuncBody.stmts d_law_form.1.2.1) d_law_form.1.2.2 3 [] Value.none Value.none Value.none (Value.str (Str.ofString "law_qu0064_01") 2332) (Option.none) (Value.ref 147) Value.none 0)) #[]) ::
  ((nat_lit 149 : Nat), Obj.mk (Value.type "tuple") (Option.none) (Data.seq #[] 0) #[]) ::
  ((nat_lit 151 : Nat), Obj.mk (Value.type "tuple") (Option.none) (Data.seq #[Value.str (Str.ofString "letter") 2354, Value.str (Str.ofString "both") 2355, Value.str (Str.ofString "number") 2356, Value.str (Str.ofString "one") 2357] 0) #[]) ::
  ((nat_lit 152 : Nat), Obj.mk (Value.type "tuple") (Option.none) (Data.seq #[] 0) #[]) ::
  ((nat_lit 154 : Nat), Obj.mk (Value.type "code") (Option.none) (Data.fields #[Value.str (Str.ofString "_law_stock") 2351, Value.str (Str.ofString "_law_stock") 2352, Value.str (Str.ofString "/claim/cut.py") 2353, Value.int 142 0, Value.int 3 0, Value.int 0 0, Value.int 0 0, Value.int 3 0, Value.ref 149, Value.bool Bool.true, Value.int 181 0, Value.ref 150, Value.none, Value.ref 151, Value.ref 152, Value.ref 153, Value.int 2358 0, Value.int 142 0, Value.str (Str.ofString "/claim/cut.py") 2359]) #[]) ::
  ((nat_lit 155 : Nat), Obj.mk (Value.type "function") (Option.none) (Data.func (FuncData.mk (Str.ofString "_law_stock") (Str.ofString "_law_stock") d_law_stock.1.1 (FuncBody.stmts d_law_stock.1.2.1) d_law_stock.1.2.2 3 [] Value.none Value.none Value.none (Value.str (Str.ofString "law_qu0064_01") 2332) (Option.none) (Value.ref 154) Value.none 0)) #[]) ::
  ((nat_lit 156 : Nat), Obj.mk (Value.type "tuple") (Option.none) (Data.seq #[] 0) #[]) ::
  ((nat_lit 158 : Nat), Obj.mk (Value.type "tuple") (Option.none) (Data.seq #[Value.str (Str.ofString "text") 2364, Value.str (Str.ofString "word") 2365, Value.str (Str.ofString "sign") 2366] 0) #[]) ::
  ((nat_lit 159 : Nat), Obj.mk (Value.type "tuple") (Option.none) (Data.seq #[] 0) #[]) ::
  ((nat_lit 161 : Nat), Obj.mk (Value.type "code") (Option.none) (Data.fields #[Value.str (Str.ofString "_law_prepared") 2361, Value.str (Str.ofString "_law_prepared") 2362, Value.str (Str.ofString "/claim/cut.py") 2363, Value.int 147 0, Value.int 1 0, Value.int 0 0, Value.int 0 0, Value.int 3 0, Value.ref 156, Value.bool Bool.true, Value.int 181 0, Value.ref 157, Value.none, Value.ref 158, Value.ref 159, Value.ref 160, Value.int 2367 0, Value.int 147 0, Value.str (Str.ofString "/claim/cut.py") 2368]) #[]) ::
  ((nat_lit 162 : Nat), Obj.mk (Value.type "function") (Option.none) (Data.func (FuncData.mk (Str.ofString "_law_prepared") (Str.ofString "_law_prepared") d_law_prepared.1.1 (FuncBody.stmts d_law_prepared.1.2.1) d_law_prepared.1.2.2 3 [] Value.none Value.none Value.none (Value.str (Str.ofString "law_qu0064_01") 2332) (Option.none) (Value.ref 161) Value.none 0)) #[]) ::
  ((nat_lit 163 : Nat), Obj.mk (Value.type "tuple") (Option.none) (Data.seq #[] 0) #[]) ::
  ((nat_lit 165 : Nat), Obj.mk (Value.type "tuple") (Option.none) (Data.seq #[Value.str (Str.ofString "lamps") 2373, Value.str (Str.ofString "places") 2374, Value.str (Str.ofString "size") 2375, Value.str (Str.ofString "shelves") 2376, Value.str (Str.ofString "lamp") 2377, Value.str (Str.ofString "place") 2378, Value.str (Str.ofString "k") 2379] 0) #[]) ::
  ((nat_lit 166 : Nat), Obj.mk (Value.type "tuple") (Option.none) (Data.seq #[] 0) #[]) ::
  ((nat_lit 168 : Nat), Obj.mk (Value.type "code") (Option.none) (Data.fields #[Value.str (Str.ofString "_law_shelves") 2370, Value.str (Str.ofString "_law_shelves") 2371, Value.str (Str.ofString "/claim/cut.py") 2372, Value.int 153 0, Value.int 3 0, Value.int 0 0, Value.int 0 0, Value.int 3 0, Value.ref 163, Value.bool Bool.true, Value.int 181 0, Value.ref 164, Value.none, Value.ref 165, Value.ref 166, Value.ref 167, Value.int 2380 0, Value.int 153 0, Value.str (Str.ofString "/claim/cut.py") 2381]) #[]) ::
  ((nat_lit 169 : Nat), Obj.mk (Value.type "function") (Option.none) (Data.func (FuncData.mk (Str.ofString "_law_shelves") (Str.ofString "_law_shelves") d_law_shelves.1.1 (FuncBody.stmts d_law_shelves.1.2.1) d_law_shelves.1.2.2 3 [] Value.none Value.none Value.none (Value.str (Str.ofString "law_qu0064_01") 2332) (Option.none) (Value.ref 168) Value.none 0)) #[]) ::
  ((nat_lit 170 : Nat), Obj.mk (Value.type "tuple") (Option.none) (Data.seq #[] 0) #[]) ::
  ((nat_lit 173 : Nat), Obj.mk (Value.type "code") (Option.none) (Data.fields #[Value.str (Str.ofString "_law_mixed") 2383, Value.str (Str.ofString "_law_mixed") 2384, Value.str (Str.ofString "/claim/cut.py") 2385, Value.int 159 0, Value.int 3 0, Value.int 0 0, Value.int 0 0, Value.int 3 0, Value.ref 170, Value.bool Bool.true, Value.int 181 0, Value.ref 171, Value.none, Value.none, Value.none, Value.ref 172, Value.int 2386 0, Value.int 159 0, Value.str (Str.ofString "/claim/cut.py") 2387]) #[]) ::
  ((nat_lit 174 : Nat), Obj.mk (Value.type "function") (Option.none) (Data.func (FuncData.mk (Str.ofString "_law_mixed") (Str.ofString "_law_mixed") d_law_mixed.1.1 (FuncBody.stmts d_law_mixed.1.2.1) d_law_mixed.1.2.2 3 [] Value.none Value.none Value.none (Value.str (Str.ofString "law_qu0064_01") 2332) (Option.none) (Value.ref 173) Value.none 0)) #[]) ::
  ((nat_lit 175 : Nat), Obj.mk (Value.type "tuple") (Option.none) (Data.seq #[] 0) #[]) ::
  ((nat_lit 178 : Nat), Obj.mk (Value.type "code") (Option.none) (Data.fields #[Value.str (Str.ofString "_law_colours_hold") 2389, Value.str (Str.ofString "_law_colours_hold") 2390, Value.str (Str.ofString "/claim/cut.py") 2391, Value.int 165 0, Value.int 4 0, Value.int 0 0, Value.int 0 0, Value.int 3 0, Value.ref 175, Value.bool Bool.true, Value.int 181 0, Value.ref 176, Value.none, Value.none, Value.none, Value.ref 177, Value.int 2392 0, Value.int 165 0, Value.str (Str.ofString "/claim/cut.py") 2393]) #[]) ::
  ((nat_lit 179 : Nat), Obj.mk (Value.type "function") (Option.none) (Data.func (FuncData.mk (Str.ofString "_law_colours_hold") (Str.ofString "_law_colours_hold") d_law_colours_hold.1.1 (FuncBody.stmts d_law_colours_hold.1.2.1) d_law_colours_hold.1.2.2 3 [] Value.none Value.none Value.none (Value.str (Str.ofString "law_qu0064_01") 2332) (Option.none) (Value.ref 178) Value.none 0)) #[]) ::
  ((nat_lit 180 : Nat), Obj.mk (Value.type "tuple") (Option.none) (Data.seq #[] 0) #[]) ::
  ((nat_lit 182 : Nat), Obj.mk (Value.type "tuple") (Option.none) (Data.seq #[Value.str (Str.ofString "wholes") 2398, Value.str (Str.ofString "base") 2399, Value.str (Str.ofString "product") 2400, Value.str (Str.ofString "first") 2401, Value.str (Str.ofString "second") 2402, Value.str (Str.ofString "factor") 2403, Value.str (Str.ofString "quotient") 2404, Value.str (Str.ofString "rest") 2405] 0) #[]) ::
  ((nat_lit 183 : Nat), Obj.mk (Value.type "tuple") (Option.none) (Data.seq #[] 0) #[]) ::
  ((nat_lit 185 : Nat), Obj.mk (Value.type "code") (Option.none) (Data.fields #[Value.str (Str.ofString "_law_divisions_hold") 2395, Value.str (Str.ofString "_law_divisions_hold") 2396, Value.str (Str.ofString "/claim/cut.py") 2397, Value.int 174 0, Value.int 3 0, Value.int 0 0, Value.int 0 0, Value.int 3 0, Value.ref 180, Value.bool Bool.true, Value.int 181 0, Value.ref 181, Value.none, Value.ref 182, Value.ref 183, Value.ref 184, Value.int 2406 0, Value.int 174 0, Value.str (Str.ofString "/claim/cut.py") 2407]) #[]) ::
  ((nat_lit 186 : Nat), Obj.mk (Value.type "function") (Option.none) (Data.func (FuncData.mk (Str.ofString "_law_divisions_hold") (Str.ofString "_law_divisions_hold") d_law_divisions_hold.1.1 (FuncBody.stmts d_law_divisions_hold.1.2.1) d_law_divisions_hold.1.2.2 3 [] Value.none Value.none Value.none (Value.str (Str.ofString "law_qu0064_01") 2332) (Option.none) (Value.ref 185) Value.none 0)) #[]) ::
  ((nat_lit 187 : Nat), Obj.mk (Value.type "tuple") (Option.none) (Data.seq #[] 0) #[]) ::
  ((nat_lit 190 : Nat), Obj.mk (Value.type "code") (Option.none) (Data.fields #[Value.str (Str.ofString "law") 2409, Value.str (Str.ofString "law") 2410, Value.str (Str.ofString "/claim/cut.py") 2411, Value.int 180 0, Value.int 1 0, Value.int 0 0, Value.int 0 0, Value.int 3 0, Value.ref 187, Value.bool Bool.true, Value.int 181 0, Value.ref 188, Value.none, Value.none, Value.none, Value.ref 189, Value.int 2412 0, Value.int 180 0, Value.str (Str.ofString "/claim/cut.py") 2413]) #[]) ::
  ((nat_lit 191 : Nat), Obj.mk (Value.type "function") (Option.none) (Data.func (FuncData.mk (Str.ofString "law") (Str.ofString "law") d_law.1.1 (FuncBody.stmts d_law.1.2.1) d_law.1.2.2 3 [] Value.none Value.none Value.none (Value.str (Str.ofString "law_qu0064_01") 2332) (Option.none) (Value.ref 190) Value.none 0)) #[]) :: []
noncomputable def heapA : List Addr := [nat_lit 2, nat_lit 3, nat_lit 22, nat_lit 26, nat_lit 28, nat_lit 29, nat_lit 31, nat_lit 32, nat_lit 33, nat_lit 72, nat_lit 74, nat_lit 75, nat_lit 77, nat_lit 78, nat_lit 79, nat_lit 81, nat_lit 82, nat_lit 84, nat_lit 85, nat_lit 86, nat_lit 88, nat_lit 89, nat_lit 91, nat_lit 92, nat_lit 93, nat_lit 95, nat_lit 96, nat_lit 98, nat_lit 99, nat_lit 100, nat_lit 102, nat_lit 103, nat_lit 105, nat_lit 106, nat_lit 107, nat_lit 109, nat_lit 110, nat_lit 112, nat_lit 113, nat_lit 114, nat_lit 116, nat_lit 117, nat_lit 119, nat_lit 120, nat_lit 121, nat_lit 123, nat_lit 124, nat_lit 126, nat_lit 127, nat_lit 128, nat_lit 130, nat_lit 131, nat_lit 133, nat_lit 134, nat_lit 135, nat_lit 137, nat_lit 138, nat_lit 140, nat_lit 141, nat_lit 142, nat_lit 144, nat_lit 145, nat_lit 147, nat_lit 148, nat_lit 149, nat_lit 151, nat_lit 152, nat_lit 154, nat_lit 155, nat_lit 156, nat_lit 158, nat_lit 159, nat_lit 161, nat_lit 162, nat_lit 163, nat_lit 165, nat_lit 166, nat_lit 168, nat_lit 169, nat_lit 170, nat_lit 173, nat_lit 174, nat_lit 175, nat_lit 178, nat_lit 179, nat_lit 180, nat_lit 182, nat_lit 183, nat_lit 185, nat_lit 186, nat_lit 187, nat_lit 190, nat_lit 191]
end Mine
end
section
open PySem PySem.W PyProof.Rows PySem.Spec PySem.Calls
set_option Elab.async false
set_option maxRecDepth 100000
namespace Mine
noncomputable def bn (j : Nat) : Nat := match Nat.ble (Nat.mul 17 (Nat.succ j)) 650 with | true => Nat.mul 17 (Nat.succ j) | false => 650
noncomputable def md (j : Nat) : Obj := ⟨.type "dict", none, .dict (b3l.take (bn j)).toArray (bn j), #[]⟩
noncomputable def sd (j : Nat) : Obj := ⟨.type "dict", none, .dict ((b3l.drop (Nat.mul 17 j)).take 17).toArray (match Nat.ble j 37 with | true => 17 | false => 4), #[]⟩
noncomputable def h11 (P : Params) : Obj := Obj.mk (Value.type "tuple") (Option.none) (Data.seq #[] 0) #[]
noncomputable def h13 (P : Params) : Obj := Obj.mk (Value.type "code") (Option.none) (Data.fields #[Value.str (Str.ofString "<module>") 182, Value.str (Str.ofString "<module>") 183, Value.str (Str.ofString "/claim/cut.py") 184, Value.int 1 0, Value.int 0 0, Value.int 0 0, Value.int 0 0, Value.int 0 0, Value.ref 11, Value.bool Bool.false, Value.int 181 0, Value.ref 12, Value.none, Value.none, Value.none, Value.none, Value.int 185 0, Value.int 1 0, Value.str (Str.ofString "/claim/cut.py") 186]) #[]
noncomputable def h14 (P : Params) : Obj := Obj.mk (Value.type "frame") (Option.none) Data.plain #[Option.some (Value.ref 13), Option.some (Value.ref 3), Option.some (Value.ref 3), Option.none, Option.some (Value.str (Str.ofString "__main__") 164), Option.none, Option.some (Value.ref 0)]
noncomputable def h15 (P : Params) : Obj := Obj.mk (Value.type "list") (Option.none) (Data.seq #[Value.int 173 189, Value.int 847 190, Value.int 6150 191, Value.int 6155 192, Value.int 6156 193, Value.int 6157 194, Value.int 8203 195, Value.int 8204 196, Value.int 8205 197, Value.int 8288 198, Value.int 65279 199] 0) #[]
noncomputable def h16 (P : Params) : Obj := Obj.mk (Value.type "range") (Option.none) (Data.fields #[Value.int 65024 200, Value.int 65040 201, Value.int 1 202]) #[]
noncomputable def h17 (P : Params) : Obj := Obj.mk (Value.type "list") (Option.none) (Data.seq #[Value.int 65024 205, Value.int 65025 206, Value.int 65026 207, Value.int 65027 208, Value.int 65028 209, Value.int 65029 210, Value.int 65030 211, Value.int 65031 212, Value.int 65032 213, Value.int 65033 214, Value.int 65034 215, Value.int 65035 216, Value.int 65036 217, Value.int 65037 218, Value.int 65038 219, Value.int 65039 220] 18) #[]
noncomputable def h18 (P : Params) : Obj := Obj.mk (Value.type "range_iterator") (Option.none) (Data.fields #[Value.int 65040 0, Value.int 0 0, Value.int 1 0]) #[]
noncomputable def h19 (P : Params) : Obj := Obj.mk (Value.type "tuple") (Option.none) (Data.seq #[] 0) #[]
noncomputable def h20 (P : Params) : Obj := Obj.mk (Value.type "StopIteration") (Option.none) (Data.fields #[Value.ref 19, Value.none, Value.none, Value.none, Value.bool Bool.false, Value.none]) #[]
noncomputable def h21 (P : Params) : Obj := Obj.mk (Value.type "list") (Option.none) (Data.seq #[Value.int 173 189, Value.int 847 190, Value.int 6150 191, Value.int 6155 192, Value.int 6156 193, Value.int 6157 194, Value.int 8203 195, Value.int 8204 196, Value.int 8205 197, Value.int 8288 198, Value.int 65279 199, Value.int 65024 205, Value.int 65025 206, Value.int 65026 207, Value.int 65027 208, Value.int 65028 209, Value.int 65029 210, Value.int 65030 211, Value.int 65031 212, Value.int 65032 213, Value.int 65033 214, Value.int 65034 215, Value.int 65035 216, Value.int 65036 217, Value.int 65037 218, Value.int 65038 219, Value.int 65039 220] 0) #[]
noncomputable def h22 (P : Params) : Obj := Obj.mk (Value.type "set") (Option.none) (Data.set b1es 29 (b1tab P)) #[]
noncomputable def h23 (P : Params) : Obj := Obj.mk (Value.type "list_iterator") (Option.none) (Data.fields #[Value.none, Value.int 27 0]) #[]
noncomputable def h24 (P : Params) : Obj := Obj.mk (Value.type "tuple") (Option.none) (Data.seq #[] 0) #[]
noncomputable def h25 (P : Params) : Obj := Obj.mk (Value.type "StopIteration") (Option.none) (Data.fields #[Value.ref 24, Value.none, Value.none, Value.none, Value.bool Bool.false, Value.none]) #[]
noncomputable def h26 (P : Params) : Obj := Obj.mk (Value.type "tuple") (Option.none) (Data.seq #[] 0) #[]
noncomputable def h27 (P : Params) : Obj := Obj.mk Value.none (Option.none) (Data.fields #[]) #[]
noncomputable def h28 (P : Params) : Obj := Obj.mk (Value.type "tuple") (Option.none) (Data.seq #[Value.str (Str.ofString "code") 252] 0) #[]
noncomputable def h29 (P : Params) : Obj := Obj.mk (Value.type "tuple") (Option.none) (Data.seq #[] 0) #[]
noncomputable def h30 (P : Params) : Obj := Obj.mk Value.none (Option.none) (Data.func (FuncData.mk (Str.ofString "in_table_b1") (Str.ofString "in_table_b1") d_in_table_b1.1.1 (FuncBody.stmts d_in_table_b1.1.2.1) d_in_table_b1.1.2.2 0 [] Value.none Value.none Value.none Value.none (Option.none) Value.none Value.none 0)) #[]
noncomputable def h31 (P : Params) : Obj := Obj.mk (Value.type "code") (Option.none) (Data.fields #[Value.str (Str.ofString "in_table_b1") 249, Value.str (Str.ofString "in_table_b1") 250, Value.str (Str.ofString "/claim/cut.py") 251, Value.int 3 0, Value.int 1 0, Value.int 0 0, Value.int 0 0, Value.int 3 0, Value.ref 26, Value.bool Bool.true, Value.int 181 0, Value.ref 27, Value.none, Value.ref 28, Value.ref 29, Value.ref 30, Value.int 253 0, Value.int 3 0, Value.str (Str.ofString "/claim/cut.py") 254]) #[]
noncomputable def h32 (P : Params) : Obj := Obj.mk (Value.type "function") (Option.none) (Data.func (FuncData.mk (Str.ofString "in_table_b1") (Str.ofString "in_table_b1") d_in_table_b1.1.1 (FuncBody.stmts d_in_table_b1.1.2.1) d_in_table_b1.1.2.2 3 [] Value.none Value.none Value.none (Value.str (Str.ofString "cpy313.stringprep") 187) (Option.none) (Value.ref 31) Value.none 0)) #[]
noncomputable def h72 (P : Params) : Obj := Obj.mk (Value.type "tuple") (Option.none) (Data.seq #[] 0) #[]
noncomputable def h73 (P : Params) : Obj := Obj.mk Value.none (Option.none) (Data.fields #[]) #[]
noncomputable def h74 (P : Params) : Obj := Obj.mk (Value.type "tuple") (Option.none) (Data.seq #[Value.str (Str.ofString "code") 2210, Value.str (Str.ofString "r") 2211] 0) #[]
noncomputable def h75 (P : Params) : Obj := Obj.mk (Value.type "tuple") (Option.none) (Data.seq #[] 0) #[]
noncomputable def h76 (P : Params) : Obj := Obj.mk Value.none (Option.none) (Data.func (FuncData.mk (Str.ofString "map_table_b3") (Str.ofString "map_table_b3") d_map_table_b3.1.1 (FuncBody.stmts d_map_table_b3.1.2.1) d_map_table_b3.1.2.2 0 [] Value.none Value.none Value.none Value.none (Option.none) Value.none Value.none 0)) #[]
noncomputable def h77 (P : Params) : Obj := Obj.mk (Value.type "code") (Option.none) (Data.fields #[Value.str (Str.ofString "map_table_b3") 2207, Value.str (Str.ofString "map_table_b3") 2208, Value.str (Str.ofString "/claim/cut.py") 2209, Value.int 6 0, Value.int 1 0, Value.int 0 0, Value.int 0 0, Value.int 3 0, Value.ref 72, Value.bool Bool.true, Value.int 181 0, Value.ref 73, Value.none, Value.ref 74, Value.ref 75, Value.ref 76, Value.int 2212 0, Value.int 6 0, Value.str (Str.ofString "/claim/cut.py") 2213]) #[]
noncomputable def h78 (P : Params) : Obj := Obj.mk (Value.type "function") (Option.none) (Data.func (FuncData.mk (Str.ofString "map_table_b3") (Str.ofString "map_table_b3") d_map_table_b3.1.1 (FuncBody.stmts d_map_table_b3.1.2.1) d_map_table_b3.1.2.2 3 [] Value.none Value.none Value.none (Value.str (Str.ofString "cpy313.stringprep") 187) (Option.none) (Value.ref 77) Value.none 0)) #[]
noncomputable def h79 (P : Params) : Obj := Obj.mk (Value.type "tuple") (Option.none) (Data.seq #[] 0) #[]
noncomputable def h80 (P : Params) : Obj := Obj.mk Value.none (Option.none) (Data.fields #[]) #[]
noncomputable def h81 (P : Params) : Obj := Obj.mk (Value.type "tuple") (Option.none) (Data.seq #[Value.str (Str.ofString "r") 2220, Value.str (Str.ofString "g") 2221, Value.str (Str.ofString "b") 2222, Value.str (Str.ofString "maxc") 2223, Value.str (Str.ofString "minc") 2224, Value.str (Str.ofString "sumc") 2225, Value.str (Str.ofString "rangec") 2226, Value.str (Str.ofString "l") 2227, Value.str (Str.ofString "s") 2228, Value.str (Str.ofString "rc") 2229, Value.str (Str.ofString "gc") 2230, Value.str (Str.ofString "bc") 2231, Value.str (Str.ofString "h") 2232] 0) #[]
noncomputable def h82 (P : Params) : Obj := Obj.mk (Value.type "tuple") (Option.none) (Data.seq #[] 0) #[]
noncomputable def h83 (P : Params) : Obj := Obj.mk Value.none (Option.none) (Data.func (FuncData.mk (Str.ofString "rgb_to_hls") (Str.ofString "rgb_to_hls") d_rgb_to_hls.1.1 (FuncBody.stmts d_rgb_to_hls.1.2.1) d_rgb_to_hls.1.2.2 0 [] Value.none Value.none Value.none Value.none (Option.none) Value.none Value.none 0)) #[]
noncomputable def h84 (P : Params) : Obj := Obj.mk (Value.type "code") (Option.none) (Data.fields #[Value.str (Str.ofString "rgb_to_hls") 2217, Value.str (Str.ofString "rgb_to_hls") 2218, Value.str (Str.ofString "/claim/cut.py") 2219, Value.int 12 0, Value.int 3 0, Value.int 0 0, Value.int 0 0, Value.int 3 0, Value.ref 79, Value.bool Bool.true, Value.int 181 0, Value.ref 80, Value.none, Value.ref 81, Value.ref 82, Value.ref 83, Value.int 2233 0, Value.int 12 0, Value.str (Str.ofString "/claim/cut.py") 2234]) #[]
noncomputable def h85 (P : Params) : Obj := Obj.mk (Value.type "function") (Option.none) (Data.func (FuncData.mk (Str.ofString "rgb_to_hls") (Str.ofString "rgb_to_hls") d_rgb_to_hls.1.1 (FuncBody.stmts d_rgb_to_hls.1.2.1) d_rgb_to_hls.1.2.2 3 [] Value.none Value.none Value.none (Value.str (Str.ofString "cpy313.colorsys") 2215) (Option.none) (Value.ref 84) Value.none 0)) #[]
noncomputable def h86 (P : Params) : Obj := Obj.mk (Value.type "tuple") (Option.none) (Data.seq #[] 0) #[]
noncomputable def h87 (P : Params) : Obj := Obj.mk Value.none (Option.none) (Data.fields #[]) #[]
noncomputable def h88 (P : Params) : Obj := Obj.mk (Value.type "tuple") (Option.none) (Data.seq #[Value.str (Str.ofString "h") 2239, Value.str (Str.ofString "s") 2240, Value.str (Str.ofString "v") 2241, Value.str (Str.ofString "i") 2242, Value.str (Str.ofString "f") 2243, Value.str (Str.ofString "p") 2244, Value.str (Str.ofString "q") 2245, Value.str (Str.ofString "t") 2246] 0) #[]
noncomputable def h89 (P : Params) : Obj := Obj.mk (Value.type "tuple") (Option.none) (Data.seq #[] 0) #[]
noncomputable def h90 (P : Params) : Obj := Obj.mk Value.none (Option.none) (Data.func (FuncData.mk (Str.ofString "hsv_to_rgb") (Str.ofString "hsv_to_rgb") d_hsv_to_rgb.1.1 (FuncBody.stmts d_hsv_to_rgb.1.2.1) d_hsv_to_rgb.1.2.2 0 [] Value.none Value.none Value.none Value.none (Option.none) Value.none Value.none 0)) #[]
noncomputable def h91 (P : Params) : Obj := Obj.mk (Value.type "code") (Option.none) (Data.fields #[Value.str (Str.ofString "hsv_to_rgb") 2236, Value.str (Str.ofString "hsv_to_rgb") 2237, Value.str (Str.ofString "/claim/cut.py") 2238, Value.int 35 0, Value.int 3 0, Value.int 0 0, Value.int 0 0, Value.int 3 0, Value.ref 86, Value.bool Bool.true, Value.int 181 0, Value.ref 87, Value.none, Value.ref 88, Value.ref 89, Value.ref 90, Value.int 2247 0, Value.int 35 0, Value.str (Str.ofString "/claim/cut.py") 2248]) #[]
noncomputable def h92 (P : Params) : Obj := Obj.mk (Value.type "function") (Option.none) (Data.func (FuncData.mk (Str.ofString "hsv_to_rgb") (Str.ofString "hsv_to_rgb") d_hsv_to_rgb.1.1 (FuncBody.stmts d_hsv_to_rgb.1.2.1) d_hsv_to_rgb.1.2.2 3 [] Value.none Value.none Value.none (Value.str (Str.ofString "cpy313.colorsys") 2215) (Option.none) (Value.ref 91) Value.none 0)) #[]
noncomputable def h93 (P : Params) : Obj := Obj.mk (Value.type "tuple") (Option.none) (Data.seq #[] 0) #[]
noncomputable def h94 (P : Params) : Obj := Obj.mk Value.none (Option.none) (Data.fields #[]) #[]
noncomputable def h95 (P : Params) : Obj := Obj.mk (Value.type "tuple") (Option.none) (Data.seq #[Value.str (Str.ofString "a") 2257, Value.str (Str.ofString "b") 2258, Value.str (Str.ofString "n") 2259, Value.str (Str.ofString "pad") 2260, Value.str (Str.ofString "half_n") 2261, Value.str (Str.ofString "mask") 2262, Value.str (Str.ofString "b1") 2263, Value.str (Str.ofString "b2") 2264, Value.str (Str.ofString "q1") 2265, Value.str (Str.ofString "r") 2266, Value.str (Str.ofString "q2") 2267] 0) #[]
noncomputable def h96 (P : Params) : Obj := Obj.mk (Value.type "tuple") (Option.none) (Data.seq #[] 0) #[]
noncomputable def h97 (P : Params) : Obj := Obj.mk Value.none (Option.none) (Data.func (FuncData.mk (Str.ofString "_div2n1n") (Str.ofString "_div2n1n") d_div2n1n.1.1 (FuncBody.stmts d_div2n1n.1.2.1) d_div2n1n.1.2.2 0 [] Value.none Value.none Value.none Value.none (Option.none) Value.none Value.none 0)) #[]
noncomputable def h98 (P : Params) : Obj := Obj.mk (Value.type "code") (Option.none) (Data.fields #[Value.str (Str.ofString "_div2n1n") 2254, Value.str (Str.ofString "_div2n1n") 2255, Value.str (Str.ofString "/claim/cut.py") 2256, Value.int 58 0, Value.int 3 0, Value.int 0 0, Value.int 0 0, Value.int 3 0, Value.ref 93, Value.bool Bool.true, Value.int 181 0, Value.ref 94, Value.none, Value.ref 95, Value.ref 96, Value.ref 97, Value.int 2268 0, Value.int 58 0, Value.str (Str.ofString "/claim/cut.py") 2269]) #[]
noncomputable def h99 (P : Params) : Obj := Obj.mk (Value.type "function") (Option.none) (Data.func (FuncData.mk (Str.ofString "_div2n1n") (Str.ofString "_div2n1n") d_div2n1n.1.1 (FuncBody.stmts d_div2n1n.1.2.1) d_div2n1n.1.2.2 3 [] Value.none Value.none Value.none (Value.str (Str.ofString "cpy313._pylong") 2250) (Option.none) (Value.ref 98) Value.none 0)) #[]
noncomputable def h100 (P : Params) : Obj := Obj.mk (Value.type "tuple") (Option.none) (Data.seq #[] 0) #[]
noncomputable def h101 (P : Params) : Obj := Obj.mk Value.none (Option.none) (Data.fields #[]) #[]
noncomputable def h102 (P : Params) : Obj := Obj.mk (Value.type "tuple") (Option.none) (Data.seq #[Value.str (Str.ofString "a12") 2274, Value.str (Str.ofString "a3") 2275, Value.str (Str.ofString "b") 2276, Value.str (Str.ofString "b1") 2277, Value.str (Str.ofString "b2") 2278, Value.str (Str.ofString "n") 2279, Value.str (Str.ofString "q") 2280, Value.str (Str.ofString "r") 2281] 0) #[]
noncomputable def h103 (P : Params) : Obj := Obj.mk (Value.type "tuple") (Option.none) (Data.seq #[] 0) #[]
noncomputable def h104 (P : Params) : Obj := Obj.mk Value.none (Option.none) (Data.func (FuncData.mk (Str.ofString "_div3n2n") (Str.ofString "_div3n2n") d_div3n2n.1.1 (FuncBody.stmts d_div3n2n.1.2.1) d_div3n2n.1.2.2 0 [] Value.none Value.none Value.none Value.none (Option.none) Value.none Value.none 0)) #[]
noncomputable def h105 (P : Params) : Obj := Obj.mk (Value.type "code") (Option.none) (Data.fields #[Value.str (Str.ofString "_div3n2n") 2271, Value.str (Str.ofString "_div3n2n") 2272, Value.str (Str.ofString "/claim/cut.py") 2273, Value.int 74 0, Value.int 6 0, Value.int 0 0, Value.int 0 0, Value.int 3 0, Value.ref 100, Value.bool Bool.true, Value.int 181 0, Value.ref 101, Value.none, Value.ref 102, Value.ref 103, Value.ref 104, Value.int 2282 0, Value.int 74 0, Value.str (Str.ofString "/claim/cut.py") 2283]) #[]
noncomputable def h106 (P : Params) : Obj := Obj.mk (Value.type "function") (Option.none) (Data.func (FuncData.mk (Str.ofString "_div3n2n") (Str.ofString "_div3n2n") d_div3n2n.1.1 (FuncBody.stmts d_div3n2n.1.2.1) d_div3n2n.1.2.2 3 [] Value.none Value.none Value.none (Value.str (Str.ofString "cpy313._pylong") 2250) (Option.none) (Value.ref 105) Value.none 0)) #[]
noncomputable def h107 (P : Params) : Obj := Obj.mk (Value.type "tuple") (Option.none) (Data.seq #[] 0) #[]
noncomputable def h108 (P : Params) : Obj := Obj.mk Value.none (Option.none) (Data.fields #[]) #[]
noncomputable def h109 (P : Params) : Obj := Obj.mk (Value.type "tuple") (Option.none) (Data.seq #[Value.str (Str.ofString "a") 2288, Value.str (Str.ofString "n") 2289] 0) #[]
noncomputable def h110 (P : Params) : Obj := Obj.mk (Value.type "tuple") (Option.none) (Data.seq #[Value.str (Str.ofString "n") 2290, Value.str (Str.ofString "a_digits") 2291, Value.str (Str.ofString "inner") 2292] 0) #[]
noncomputable def h111 (P : Params) : Obj := Obj.mk Value.none (Option.none) (Data.func (FuncData.mk (Str.ofString "_int2digits") (Str.ofString "_int2digits") d_int2digits.1.1 (FuncBody.stmts d_int2digits.1.2.1) d_int2digits.1.2.2 0 [] Value.none Value.none Value.none Value.none (Option.none) Value.none Value.none 0)) #[]
noncomputable def h112 (P : Params) : Obj := Obj.mk (Value.type "code") (Option.none) (Data.fields #[Value.str (Str.ofString "_int2digits") 2285, Value.str (Str.ofString "_int2digits") 2286, Value.str (Str.ofString "/claim/cut.py") 2287, Value.int 84 0, Value.int 2 0, Value.int 0 0, Value.int 0 0, Value.int 3 0, Value.ref 107, Value.bool Bool.true, Value.int 181 0, Value.ref 108, Value.none, Value.ref 109, Value.ref 110, Value.ref 111, Value.int 2293 0, Value.int 84 0, Value.str (Str.ofString "/claim/cut.py") 2294]) #[]
noncomputable def h113 (P : Params) : Obj := Obj.mk (Value.type "function") (Option.none) (Data.func (FuncData.mk (Str.ofString "_int2digits") (Str.ofString "_int2digits") d_int2digits.1.1 (FuncBody.stmts d_int2digits.1.2.1) d_int2digits.1.2.2 3 [] Value.none Value.none Value.none (Value.str (Str.ofString "cpy313._pylong") 2250) (Option.none) (Value.ref 112) Value.none 0)) #[]
noncomputable def h114 (P : Params) : Obj := Obj.mk (Value.type "tuple") (Option.none) (Data.seq #[] 0) #[]
noncomputable def h115 (P : Params) : Obj := Obj.mk Value.none (Option.none) (Data.fields #[]) #[]
noncomputable def h116 (P : Params) : Obj := Obj.mk (Value.type "tuple") (Option.none) (Data.seq #[Value.str (Str.ofString "digits") 2299, Value.str (Str.ofString "n") 2300] 0) #[]
noncomputable def h117 (P : Params) : Obj := Obj.mk (Value.type "tuple") (Option.none) (Data.seq #[Value.str (Str.ofString "digits") 2301, Value.str (Str.ofString "n") 2302, Value.str (Str.ofString "inner") 2303] 0) #[]
noncomputable def h118 (P : Params) : Obj := Obj.mk Value.none (Option.none) (Data.func (FuncData.mk (Str.ofString "_digits2int") (Str.ofString "_digits2int") d_digits2int.1.1 (FuncBody.stmts d_digits2int.1.2.1) d_digits2int.1.2.2 0 [] Value.none Value.none Value.none Value.none (Option.none) Value.none Value.none 0)) #[]
noncomputable def h119 (P : Params) : Obj := Obj.mk (Value.type "code") (Option.none) (Data.fields #[Value.str (Str.ofString "_digits2int") 2296, Value.str (Str.ofString "_digits2int") 2297, Value.str (Str.ofString "/claim/cut.py") 2298, Value.int 100 0, Value.int 2 0, Value.int 0 0, Value.int 0 0, Value.int 3 0, Value.ref 114, Value.bool Bool.true, Value.int 181 0, Value.ref 115, Value.none, Value.ref 116, Value.ref 117, Value.ref 118, Value.int 2304 0, Value.int 100 0, Value.str (Str.ofString "/claim/cut.py") 2305]) #[]
noncomputable def h120 (P : Params) : Obj := Obj.mk (Value.type "function") (Option.none) (Data.func (FuncData.mk (Str.ofString "_digits2int") (Str.ofString "_digits2int") d_digits2int.1.1 (FuncBody.stmts d_digits2int.1.2.1) d_digits2int.1.2.2 3 [] Value.none Value.none Value.none (Value.str (Str.ofString "cpy313._pylong") 2250) (Option.none) (Value.ref 119) Value.none 0)) #[]
noncomputable def h121 (P : Params) : Obj := Obj.mk (Value.type "tuple") (Option.none) (Data.seq #[] 0) #[]
noncomputable def h122 (P : Params) : Obj := Obj.mk Value.none (Option.none) (Data.fields #[]) #[]
noncomputable def h123 (P : Params) : Obj := Obj.mk (Value.type "tuple") (Option.none) (Data.seq #[Value.str (Str.ofString "a") 2310, Value.str (Str.ofString "b") 2311, Value.str (Str.ofString "n") 2312, Value.str (Str.ofString "a_digits") 2313, Value.str (Str.ofString "r") 2314, Value.str (Str.ofString "q_digits") 2315, Value.str (Str.ofString "a_digit") 2316, Value.str (Str.ofString "q_digit") 2317, Value.str (Str.ofString "q") 2318] 0) #[]
noncomputable def h124 (P : Params) : Obj := Obj.mk (Value.type "tuple") (Option.none) (Data.seq #[] 0) #[]
noncomputable def h125 (P : Params) : Obj := Obj.mk Value.none (Option.none) (Data.func (FuncData.mk (Str.ofString "_divmod_pos") (Str.ofString "_divmod_pos") d_divmod_pos.1.1 (FuncBody.stmts d_divmod_pos.1.2.1) d_divmod_pos.1.2.2 0 [] Value.none Value.none Value.none Value.none (Option.none) Value.none Value.none 0)) #[]
noncomputable def h126 (P : Params) : Obj := Obj.mk (Value.type "code") (Option.none) (Data.fields #[Value.str (Str.ofString "_divmod_pos") 2307, Value.str (Str.ofString "_divmod_pos") 2308, Value.str (Str.ofString "/claim/cut.py") 2309, Value.int 109 0, Value.int 2 0, Value.int 0 0, Value.int 0 0, Value.int 3 0, Value.ref 121, Value.bool Bool.true, Value.int 181 0, Value.ref 122, Value.none, Value.ref 123, Value.ref 124, Value.ref 125, Value.int 2319 0, Value.int 109 0, Value.str (Str.ofString "/claim/cut.py") 2320]) #[]
noncomputable def h127 (P : Params) : Obj := Obj.mk (Value.type "function") (Option.none) (Data.func (FuncData.mk (Str.ofString "_divmod_pos") (Str.ofString "_divmod_pos") d_divmod_pos.1.1 (FuncBody.stmts d_divmod_pos.1.2.1) d_divmod_pos.1.2.2 3 [] Value.none Value.none Value.none (Value.str (Str.ofString "cpy313._pylong") 2250) (Option.none) (Value.ref 126) Value.none 0)) #[]
noncomputable def h128 (P : Params) : Obj := Obj.mk (Value.type "tuple") (Option.none) (Data.seq #[] 0) #[]
noncomputable def h129 (P : Params) : Obj := Obj.mk Value.none (Option.none) (Data.fields #[]) #[]
noncomputable def h130 (P : Params) : Obj := Obj.mk (Value.type "tuple") (Option.none) (Data.seq #[Value.str (Str.ofString "a") 2325, Value.str (Str.ofString "b") 2326, Value.str (Str.ofString "q") 2327, Value.str (Str.ofString "r") 2328] 0) #[]
noncomputable def h131 (P : Params) : Obj := Obj.mk (Value.type "tuple") (Option.none) (Data.seq #[] 0) #[]
noncomputable def h132 (P : Params) : Obj := Obj.mk Value.none (Option.none) (Data.func (FuncData.mk (Str.ofString "int_divmod") (Str.ofString "int_divmod") d_int_divmod.1.1 (FuncBody.stmts d_int_divmod.1.2.1) d_int_divmod.1.2.2 0 [] Value.none Value.none Value.none Value.none (Option.none) Value.none Value.none 0)) #[]
noncomputable def h133 (P : Params) : Obj := Obj.mk (Value.type "code") (Option.none) (Data.fields #[Value.str (Str.ofString "int_divmod") 2322, Value.str (Str.ofString "int_divmod") 2323, Value.str (Str.ofString "/claim/cut.py") 2324, Value.int 120 0, Value.int 2 0, Value.int 0 0, Value.int 0 0, Value.int 3 0, Value.ref 128, Value.bool Bool.true, Value.int 181 0, Value.ref 129, Value.none, Value.ref 130, Value.ref 131, Value.ref 132, Value.int 2329 0, Value.int 120 0, Value.str (Str.ofString "/claim/cut.py") 2330]) #[]
noncomputable def h134 (P : Params) : Obj := Obj.mk (Value.type "function") (Option.none) (Data.func (FuncData.mk (Str.ofString "int_divmod") (Str.ofString "int_divmod") d_int_divmod.1.1 (FuncBody.stmts d_int_divmod.1.2.1) d_int_divmod.1.2.2 3 [] Value.none Value.none Value.none (Value.str (Str.ofString "cpy313._pylong") 2250) (Option.none) (Value.ref 133) Value.none 0)) #[]
noncomputable def h135 (P : Params) : Obj := Obj.mk (Value.type "tuple") (Option.none) (Data.seq #[] 0) #[]
noncomputable def h136 (P : Params) : Obj := Obj.mk Value.none (Option.none) (Data.fields #[]) #[]
noncomputable def h137 (P : Params) : Obj := Obj.mk (Value.type "tuple") (Option.none) (Data.seq #[Value.str (Str.ofString "which") 2337, Value.str (Str.ofString "codes") 2338] 0) #[]
noncomputable def h138 (P : Params) : Obj := Obj.mk (Value.type "tuple") (Option.none) (Data.seq #[] 0) #[]
noncomputable def h139 (P : Params) : Obj := Obj.mk Value.none (Option.none) (Data.func (FuncData.mk (Str.ofString "_law_nothing") (Str.ofString "_law_nothing") d_law_nothing.1.1 (FuncBody.stmts d_law_nothing.1.2.1) d_law_nothing.1.2.2 0 [] Value.none Value.none Value.none Value.none (Option.none) Value.none Value.none 0)) #[]
noncomputable def h140 (P : Params) : Obj := Obj.mk (Value.type "code") (Option.none) (Data.fields #[Value.str (Str.ofString "_law_nothing") 2334, Value.str (Str.ofString "_law_nothing") 2335, Value.str (Str.ofString "/claim/cut.py") 2336, Value.int 132 0, Value.int 1 0, Value.int 0 0, Value.int 0 0, Value.int 3 0, Value.ref 135, Value.bool Bool.true, Value.int 181 0, Value.ref 136, Value.none, Value.ref 137, Value.ref 138, Value.ref 139, Value.int 2339 0, Value.int 132 0, Value.str (Str.ofString "/claim/cut.py") 2340]) #[]
noncomputable def h141 (P : Params) : Obj := Obj.mk (Value.type "function") (Option.none) (Data.func (FuncData.mk (Str.ofString "_law_nothing") (Str.ofString "_law_nothing") d_law_nothing.1.1 (FuncBody.stmts d_law_nothing.1.2.1) d_law_nothing.1.2.2 3 [] Value.none Value.none Value.none (Value.str (Str.ofString "law_qu0064_01") 2332) (Option.none) (Value.ref 140) Value.none 0)) #[]
noncomputable def h142 (P : Params) : Obj := Obj.mk (Value.type "tuple") (Option.none) (Data.seq #[] 0) #[]
noncomputable def h143 (P : Params) : Obj := Obj.mk Value.none (Option.none) (Data.fields #[]) #[]
noncomputable def h144 (P : Params) : Obj := Obj.mk (Value.type "tuple") (Option.none) (Data.seq #[Value.str (Str.ofString "letter") 2345, Value.str (Str.ofString "which") 2346, Value.str (Str.ofString "alphabets") 2347] 0) #[]
noncomputable def h145 (P : Params) : Obj := Obj.mk (Value.type "tuple") (Option.none) (Data.seq #[] 0) #[]
noncomputable def h146 (P : Params) : Obj := Obj.mk Value.none (Option.none) (Data.func (FuncData.mk (Str.ofString "_law_form") (Str.ofString "_law_form") d_law_form.1.1 (FuncBody.stmts d_law_form.1.2.1) d_law_form.1.2.2 0 [] Value.none Value.none Value.none Value.none (Option.none) Value.none Value.none 0)) #[]
noncomputable def h147 (P : Params) : Obj := Obj.mk (Value.type "code") (Option.none) (Data.fields #[Value.str (Str.ofString "_law_form") 2342, Value.str (Str.ofString "_law_form") 2343, Value.str (Str.ofString "/claim/cut.py") 2344, Value.int 135 0, Value.int 2 0, Value.int 0 0, Value.int 0 0, Value.int 3 0, Value.ref 142, Value.bool Bool.true, Value.int 181 0, Value.ref 143, Value.none, Value.ref 144, Value.ref 145, Value.ref 146, Value.int 2348 0, Value.int 135 0, Value.str (Str.ofString "/claim/cut.py") 2349]) #[]
noncomputable def h148 (P : Params) : Obj := Obj.mk (Value.type "function") (Option.none) (Data.func (FuncData.mk (Str.ofString "_law_form") (Str.ofString "_law_form") d_law_form.1.1 (FuncBody.stmts d_law_form.1.2.1) d_law_form.1.2.2 3 [] Value.none Value.none Value.none (Value.str (Str.ofString "law_qu0064_01") 2332) (Option.none) (Value.ref 147) Value.none 0)) #[]
noncomputable def h149 (P : Params) : Obj := Obj.mk (Value.type "tuple") (Option.none) (Data.seq #[] 0) #[]
noncomputable def h150 (P : Params) : Obj := Obj.mk Value.none (Option.none) (Data.fields #[]) #[]
noncomputable def h151 (P : Params) : Obj := Obj.mk (Value.type "tuple") (Option.none) (Data.seq #[Value.str (Str.ofString "letter") 2354, Value.str (Str.ofString "both") 2355, Value.str (Str.ofString "number") 2356, Value.str (Str.ofString "one") 2357] 0) #[]
noncomputable def h152 (P : Params) : Obj := Obj.mk (Value.type "tuple") (Option.none) (Data.seq #[] 0) #[]
noncomputable def h153 (P : Params) : Obj := Obj.mk Value.none (Option.none) (Data.func (FuncData.mk (Str.ofString "_law_stock") (Str.ofString "_law_stock") d_law_stock.1.1 (FuncBody.stmts d_law_stock.1.2.1) d_law_stock.1.2.2 0 [] Value.none Value.none Value.none Value.none (Option.none) Value.none Value.none 0)) #[]
noncomputable def h154 (P : Params) : Obj := Obj.mk (Value.type "code") (Option.none) (Data.fields #[Value.str (Str.ofString "_law_stock") 2351, Value.str (Str.ofString "_law_stock") 2352, Value.str (Str.ofString "/claim/cut.py") 2353, Value.int 142 0, Value.int 3 0, Value.int 0 0, Value.int 0 0, Value.int 3 0, Value.ref 149, Value.bool Bool.true, Value.int 181 0, Value.ref 150, Value.none, Value.ref 151, Value.ref 152, Value.ref 153, Value.int 2358 0, Value.int 142 0, Value.str (Str.ofString "/claim/cut.py") 2359]) #[]
noncomputable def h155 (P : Params) : Obj := Obj.mk (Value.type "function") (Option.none) (Data.func (FuncData.mk (Str.ofString "_law_stock") (Str.ofString "_law_stock") d_law_stock.1.1 (FuncBody.stmts d_law_stock.1.2.1) d_law_stock.1.2.2 3 [] Value.none Value.none Value.none (Value.str (Str.ofString "law_qu0064_01") 2332) (Option.none) (Value.ref 154) Value.none 0)) #[]
noncomputable def h156 (P : Params) : Obj := Obj.mk (Value.type "tuple") (Option.none) (Data.seq #[] 0) #[]
noncomputable def h157 (P : Params) : Obj := Obj.mk Value.none (Option.none) (Data.fields #[]) #[]
noncomputable def h158 (P : Params) : Obj := Obj.mk (Value.type "tuple") (Option.none) (Data.seq #[Value.str (Str.ofString "text") 2364, Value.str (Str.ofString "word") 2365, Value.str (Str.ofString "sign") 2366] 0) #[]
noncomputable def h159 (P : Params) : Obj := Obj.mk (Value.type "tuple") (Option.none) (Data.seq #[] 0) #[]
noncomputable def h160 (P : Params) : Obj := Obj.mk Value.none (Option.none) (Data.func (FuncData.mk (Str.ofString "_law_prepared") (Str.ofString "_law_prepared") d_law_prepared.1.1 (FuncBody.stmts d_law_prepared.1.2.1) d_law_prepared.1.2.2 0 [] Value.none Value.none Value.none Value.none (Option.none) Value.none Value.none 0)) #[]
noncomputable def h161 (P : Params) : Obj := Obj.mk (Value.type "code") (Option.none) (Data.fields #[Value.str (Str.ofString "_law_prepared") 2361, Value.str (Str.ofString "_law_prepared") 2362, Value.str (Str.ofString "/claim/cut.py") 2363, Value.int 147 0, Value.int 1 0, Value.int 0 0, Value.int 0 0, Value.int 3 0, Value.ref 156, Value.bool Bool.true, Value.int 181 0, Value.ref 157, Value.none, Value.ref 158, Value.ref 159, Value.ref 160, Value.int 2367 0, Value.int 147 0, Value.str (Str.ofString "/claim/cut.py") 2368]) #[]
noncomputable def h162 (P : Params) : Obj := Obj.mk (Value.type "function") (Option.none) (Data.func (FuncData.mk (Str.ofString "_law_prepared") (Str.ofString "_law_prepared") d_law_prepared.1.1 (FuncBody.stmts d_law_prepared.1.2.1) d_law_prepared.1.2.2 3 [] Value.none Value.none Value.none (Value.str (Str.ofString "law_qu0064_01") 2332) (Option.none) (Value.ref 161) Value.none 0)) #[]
noncomputable def h163 (P : Params) : Obj := Obj.mk (Value.type "tuple") (Option.none) (Data.seq #[] 0) #[]
noncomputable def h164 (P : Params) : Obj := Obj.mk Value.none (Option.none) (Data.fields #[]) #[]
noncomputable def h165 (P : Params) : Obj := Obj.mk (Value.type "tuple") (Option.none) (Data.seq #[Value.str (Str.ofString "lamps") 2373, Value.str (Str.ofString "places") 2374, Value.str (Str.ofString "size") 2375, Value.str (Str.ofString "shelves") 2376, Value.str (Str.ofString "lamp") 2377, Value.str (Str.ofString "place") 2378, Value.str (Str.ofString "k") 2379] 0) #[]
noncomputable def h166 (P : Params) : Obj := Obj.mk (Value.type "tuple") (Option.none) (Data.seq #[] 0) #[]
noncomputable def h167 (P : Params) : Obj := Obj.mk Value.none (Option.none) (Data.func (FuncData.mk (Str.ofString "_law_shelves") (Str.ofString "_law_shelves") d_law_shelves.1.1 (FuncBody.stmts d_law_shelves.1.2.1) d_law_shelves.1.2.2 0 [] Value.none Value.none Value.none Value.none (Option.none) Value.none Value.none 0)) #[]
noncomputable def h168 (P : Params) : Obj := Obj.mk (Value.type "code") (Option.none) (Data.fields #[Value.str (Str.ofString "_law_shelves") 2370, Value.str (Str.ofString "_law_shelves") 2371, Value.str (Str.ofString "/claim/cut.py") 2372, Value.int 153 0, Value.int 3 0, Value.int 0 0, Value.int 0 0, Value.int 3 0, Value.ref 163, Value.bool Bool.true, Value.int 181 0, Value.ref 164, Value.none, Value.ref 165, Value.ref 166, Value.ref 167, Value.int 2380 0, Value.int 153 0, Value.str (Str.ofString "/claim/cut.py") 2381]) #[]
noncomputable def h169 (P : Params) : Obj := Obj.mk (Value.type "function") (Option.none) (Data.func (FuncData.mk (Str.ofString "_law_shelves") (Str.ofString "_law_shelves") d_law_shelves.1.1 (FuncBody.stmts d_law_shelves.1.2.1) d_law_shelves.1.2.2 3 [] Value.none Value.none Value.none (Value.str (Str.ofString "law_qu0064_01") 2332) (Option.none) (Value.ref 168) Value.none 0)) #[]
noncomputable def h170 (P : Params) : Obj := Obj.mk (Value.type "tuple") (Option.none) (Data.seq #[] 0) #[]
noncomputable def h171 (P : Params) : Obj := Obj.mk Value.none (Option.none) (Data.fields #[]) #[]
noncomputable def h172 (P : Params) : Obj := Obj.mk Value.none (Option.none) (Data.func (FuncData.mk (Str.ofString "_law_mixed") (Str.ofString "_law_mixed") d_law_mixed.1.1 (FuncBody.stmts d_law_mixed.1.2.1) d_law_mixed.1.2.2 0 [] Value.none Value.none Value.none Value.none (Option.none) Value.none Value.none 0)) #[]
noncomputable def h173 (P : Params) : Obj := Obj.mk (Value.type "code") (Option.none) (Data.fields #[Value.str (Str.ofString "_law_mixed") 2383, Value.str (Str.ofString "_law_mixed") 2384, Value.str (Str.ofString "/claim/cut.py") 2385, Value.int 159 0, Value.int 3 0, Value.int 0 0, Value.int 0 0, Value.int 3 0, Value.ref 170, Value.bool Bool.true, Value.int 181 0, Value.ref 171, Value.none, Value.none, Value.none, Value.ref 172, Value.int 2386 0, Value.int 159 0, Value.str (Str.ofString "/claim/cut.py") 2387]) #[]
noncomputable def h174 (P : Params) : Obj := Obj.mk (Value.type "function") (Option.none) (Data.func (FuncData.mk (Str.ofString "_law_mixed") (Str.ofString "_law_mixed") d_law_mixed.1.1 (FuncBody.stmts d_law_mixed.1.2.1) d_law_mixed.1.2.2 3 [] Value.none Value.none Value.none (Value.str (Str.ofString "law_qu0064_01") 2332) (Option.none) (Value.ref 173) Value.none 0)) #[]
noncomputable def h175 (P : Params) : Obj := Obj.mk (Value.type "tuple") (Option.none) (Data.seq #[] 0) #[]
noncomputable def h176 (P : Params) : Obj := Obj.mk Value.none (Option.none) (Data.fields #[]) #[]
noncomputable def h177 (P : Params) : Obj := Obj.mk Value.none (Option.none) (Data.func (FuncData.mk (Str.ofString "_law_colours_hold") (Str.ofString "_law_colours_hold") d_law_colours_hold.1.1 (FuncBody.stmts d_law_colours_hold.1.2.1) d_law_colours_hold.1.2.2 0 [] Value.none Value.none Value.none Value.none (Option.none) Value.none Value.none 0)) #[]
noncomputable def h178 (P : Params) : Obj := Obj.mk (Value.type "code") (Option.none) (Data.fields #[Value.str (Str.ofString "_law_colours_hold") 2389, Value.str (Str.ofString "_law_colours_hold") 2390, Value.str (Str.ofString "/claim/cut.py") 2391, Value.int 165 0, Value.int 4 0, Value.int 0 0, Value.int 0 0, Value.int 3 0, Value.ref 175, Value.bool Bool.true, Value.int 181 0, Value.ref 176, Value.none, Value.none, Value.none, Value.ref 177, Value.int 2392 0, Value.int 165 0, Value.str (Str.ofString "/claim/cut.py") 2393]) #[]
noncomputable def h179 (P : Params) : Obj := Obj.mk (Value.type "function") (Option.none) (Data.func (FuncData.mk (Str.ofString "_law_colours_hold") (Str.ofString "_law_colours_hold") d_law_colours_hold.1.1 (FuncBody.stmts d_law_colours_hold.1.2.1) d_law_colours_hold.1.2.2 3 [] Value.none Value.none Value.none (Value.str (Str.ofString "law_qu0064_01") 2332) (Option.none) (Value.ref 178) Value.none 0)) #[]
noncomputable def h180 (P : Params) : Obj := Obj.mk (Value.type "tuple") (Option.none) (Data.seq #[] 0) #[]
noncomputable def h181 (P : Params) : Obj := Obj.mk Value.none (Option.none) (Data.fields #[]) #[]
noncomputable def h182 (P : Params) : Obj := Obj.mk (Value.type "tuple") (Option.none) (Data.seq #[Value.str (Str.ofString "wholes") 2398, Value.str (Str.ofString "base") 2399, Value.str (Str.ofString "product") 2400, Value.str (Str.ofString "first") 2401, Value.str (Str.ofString "second") 2402, Value.str (Str.ofString "factor") 2403, Value.str (Str.ofString "quotient") 2404, Value.str (Str.ofString "rest") 2405] 0) #[]
noncomputable def h183 (P : Params) : Obj := Obj.mk (Value.type "tuple") (Option.none) (Data.seq #[] 0) #[]
noncomputable def h184 (P : Params) : Obj := Obj.mk Value.none (Option.none) (Data.func (FuncData.mk (Str.ofString "_law_divisions_hold") (Str.ofString "_law_divisions_hold") d_law_divisions_hold.1.1 (FuncBody.stmts d_law_divisions_hold.1.2.1) d_law_divisions_hold.1.2.2 0 [] Value.none Value.none Value.none Value.none (Option.none) Value.none Value.none 0)) #[]
noncomputable def h185 (P : Params) : Obj := Obj.mk (Value.type "code") (Option.none) (Data.fields #[Value.str (Str.ofString "_law_divisions_hold") 2395, Value.str (Str.ofString "_law_divisions_hold") 2396, Value.str (Str.ofString "/claim/cut.py") 2397, Value.int 174 0, Value.int 3 0, Value.int 0 0, Value.int 0 0, Value.int 3 0, Value.ref 180, Value.bool Bool.true, Value.int 181 0, Value.ref 181, Value.none, Value.ref 182, Value.ref 183, Value.ref 184, Value.int 2406 0, Value.int 174 0, Value.str (Str.ofString "/claim/cut.py") 2407]) #[]
noncomputable def h186 (P : Params) : Obj := Obj.mk (Value.type "function") (Option.none) (Data.func (FuncData.mk (Str.ofString "_law_divisions_hold") (Str.ofString "_law_divisions_hold") d_law_divisions_hold.1.1 (FuncBody.stmts d_law_divisions_hold.1.2.1) d_law_divisions_hold.1.2.2 3 [] Value.none Value.none Value.none (Value.str (Str.ofString "law_qu0064_01") 2332) (Option.none) (Value.ref 185) Value.none 0)) #[]
noncomputable def h187 (P : Params) : Obj := Obj.mk (Value.type "tuple") (Option.none) (Data.seq #[] 0) #[]
noncomputable def h188 (P : Params) : Obj := Obj.mk Value.none (Option.none) (Data.fields #[]) #[]
noncomputable def h189 (P : Params) : Obj := Obj.mk Value.none (Option.none) (Data.func (FuncData.mk (Str.ofString "law") (Str.ofString "law") d_law.1.1 (FuncBody.stmts d_law.1.2.1) d_law.1.2.2 0 [] Value.none Value.none Value.none Value.none (Option.none) Value.none Value.none 0)) #[]
noncomputable def h190 (P : Params) : Obj := Obj.mk (Value.type "code") (Option.none) (Data.fields #[Value.str (Str.ofString "law") 2409, Value.str (Str.ofString "law") 2410, Value.str (Str.ofString "/claim/cut.py") 2411, Value.int 180 0, Value.int 1 0, Value.int 0 0, Value.int 0 0, Value.int 3 0, Value.ref 187, Value.bool Bool.true, Value.int 181 0, Value.ref 188, Value.none, Value.none, Value.none, Value.ref 189, Value.int 2412 0, Value.int 180 0, Value.str (Str.ofString "/claim/cut.py") 2413]) #[]
noncomputable def h191 (P : Params) : Obj := Obj.mk (Value.type "function") (Option.none) (Data.func (FuncData.mk (Str.ofString "law") (Str.ofString "law") d_law.1.1 (FuncBody.stmts d_law.1.2.1) d_law.1.2.2 3 [] Value.none Value.none Value.none (Value.str (Str.ofString "law_qu0064_01") 2332) (Option.none) (Value.ref 190) Value.none 0)) #[]
noncomputable def n2 (P : Params) : Obj := Obj.mk (Value.type "dict") (Option.none) (Data.dict #[DictEntry.mk (PyData.keyHash P (Str.ofString "__name__")) (Value.str (Str.ofString "__name__") 165) (Value.str (Str.ofString "cpy313.stringprep") 187), DictEntry.mk (PyData.keyHash P (Str.ofString "__doc__")) (Value.str (Str.ofString "__doc__") 166) Value.none, DictEntry.mk (PyData.keyHash P (Str.ofString "__package__")) (Value.str (Str.ofString "__package__") 167) Value.none, DictEntry.mk (PyData.keyHash P (Str.ofString "__loader__")) (Value.str (Str.ofString "__loader__") 168) (Value.builtin "__main__.__loader__#opaque"), DictEntry.mk (PyData.keyHash P (Str.ofString "__spec__")) (Value.str (Str.ofString "__spec__") 169) Value.none, DictEntry.mk (PyData.keyHash P (Str.ofString "__annotations__")) (Value.str (Str.ofString "__annotations__") 170) (Value.ref 6), DictEntry.mk (PyData.keyHash P (Str.ofString "__builtins__")) (Value.str (Str.ofString "__builtins__") 171) (Value.ref 4), DictEntry.mk (PyData.keyHash P (Str.ofString "__file__")) (Value.str (Str.ofString "__file__") 173) (Value.str (Str.ofString "/claim/cut.py") 172), DictEntry.mk (PyData.keyHash P (Str.ofString "__cached__")) (Value.str (Str.ofString "__cached__") 174) Value.none, DictEntry.mk (PyData.keyHash P (Str.ofString "b1_set")) (Value.str (Str.ofString "b1_set") 248) (Value.ref 22)] 10) #[]
noncomputable def n3 (P : Params) : Obj := Obj.mk (Value.type "dict") (Option.none) (Data.dict #[DictEntry.mk (PyData.keyHash P (Str.ofString "__name__")) (Value.str (Str.ofString "__name__") 165) (Value.str (Str.ofString "cpy313.stringprep") 187), DictEntry.mk (PyData.keyHash P (Str.ofString "__doc__")) (Value.str (Str.ofString "__doc__") 166) Value.none, DictEntry.mk (PyData.keyHash P (Str.ofString "__package__")) (Value.str (Str.ofString "__package__") 167) Value.none, DictEntry.mk (PyData.keyHash P (Str.ofString "__loader__")) (Value.str (Str.ofString "__loader__") 168) (Value.builtin "__main__.__loader__#opaque"), DictEntry.mk (PyData.keyHash P (Str.ofString "__spec__")) (Value.str (Str.ofString "__spec__") 169) Value.none, DictEntry.mk (PyData.keyHash P (Str.ofString "__annotations__")) (Value.str (Str.ofString "__annotations__") 170) (Value.ref 6), DictEntry.mk (PyData.keyHash P (Str.ofString "__builtins__")) (Value.str (Str.ofString "__builtins__") 171) (Value.ref 4), DictEntry.mk (PyData.keyHash P (Str.ofString "__file__")) (Value.str (Str.ofString "__file__") 173) (Value.str (Str.ofString "/claim/cut.py") 172), DictEntry.mk (PyData.keyHash P (Str.ofString "__cached__")) (Value.str (Str.ofString "__cached__") 174) Value.none, DictEntry.mk (PyData.keyHash P (Str.ofString "b1_set")) (Value.str (Str.ofString "b1_set") 248) (Value.ref 22), DictEntry.mk (PyData.keyHash P (Str.ofString "in_table_b1")) (Value.str (Str.ofString "in_table_b1") 255) (Value.ref 32)] 11) #[]
noncomputable def n4 (P : Params) : Obj := Obj.mk (Value.type "dict") (Option.none) (Data.dict #[DictEntry.mk (PyData.keyHash P (Str.ofString "__name__")) (Value.str (Str.ofString "__name__") 165) (Value.str (Str.ofString "cpy313.stringprep") 187), DictEntry.mk (PyData.keyHash P (Str.ofString "__doc__")) (Value.str (Str.ofString "__doc__") 166) Value.none, DictEntry.mk (PyData.keyHash P (Str.ofString "__package__")) (Value.str (Str.ofString "__package__") 167) Value.none, DictEntry.mk (PyData.keyHash P (Str.ofString "__loader__")) (Value.str (Str.ofString "__loader__") 168) (Value.builtin "__main__.__loader__#opaque"), DictEntry.mk (PyData.keyHash P (Str.ofString "__spec__")) (Value.str (Str.ofString "__spec__") 169) Value.none, DictEntry.mk (PyData.keyHash P (Str.ofString "__annotations__")) (Value.str (Str.ofString "__annotations__") 170) (Value.ref 6), DictEntry.mk (PyData.keyHash P (Str.ofString "__builtins__")) (Value.str (Str.ofString "__builtins__") 171) (Value.ref 4), DictEntry.mk (PyData.keyHash P (Str.ofString "__file__")) (Value.str (Str.ofString "__file__") 173) (Value.str (Str.ofString "/claim/cut.py") 172), DictEntry.mk (PyData.keyHash P (Str.ofString "__cached__")) (Value.str (Str.ofString "__cached__") 174) Value.none, DictEntry.mk (PyData.keyHash P (Str.ofString "b1_set")) (Value.str (Str.ofString "b1_set") 248) (Value.ref 22), DictEntry.mk (PyData.keyHash P (Str.ofString "in_table_b1")) (Value.str (Str.ofString "in_table_b1") 255) (Value.ref 32), DictEntry.mk (PyData.keyHash P (Str.ofString "b3_exceptions")) (Value.str (Str.ofString "b3_exceptions") 2206) (Value.ref 33)] 12) #[]
noncomputable def n15 (P : Params) : Obj := Obj.mk (Value.type "dict") (Option.none) (Data.dict #[DictEntry.mk (PyData.keyHash P (Str.ofString "__name__")) (Value.str (Str.ofString "__name__") 165) (Value.str (Str.ofString "cpy313._pylong") 2250), DictEntry.mk (PyData.keyHash P (Str.ofString "__doc__")) (Value.str (Str.ofString "__doc__") 166) Value.none, DictEntry.mk (PyData.keyHash P (Str.ofString "__package__")) (Value.str (Str.ofString "__package__") 167) Value.none, DictEntry.mk (PyData.keyHash P (Str.ofString "__loader__")) (Value.str (Str.ofString "__loader__") 168) (Value.builtin "__main__.__loader__#opaque"), DictEntry.mk (PyData.keyHash P (Str.ofString "__spec__")) (Value.str (Str.ofString "__spec__") 169) Value.none, DictEntry.mk (PyData.keyHash P (Str.ofString "__annotations__")) (Value.str (Str.ofString "__annotations__") 170) (Value.ref 6), DictEntry.mk (PyData.keyHash P (Str.ofString "__builtins__")) (Value.str (Str.ofString "__builtins__") 171) (Value.ref 4), DictEntry.mk (PyData.keyHash P (Str.ofString "__file__")) (Value.str (Str.ofString "__file__") 173) (Value.str (Str.ofString "/claim/cut.py") 172), DictEntry.mk (PyData.keyHash P (Str.ofString "__cached__")) (Value.str (Str.ofString "__cached__") 174) Value.none, DictEntry.mk (PyData.keyHash P (Str.ofString "b1_set")) (Value.str (Str.ofString "b1_set") 248) (Value.ref 22), DictEntry.mk (PyData.keyHash P (Str.ofString "in_table_b1")) (Value.str (Str.ofString "in_table_b1") 255) (Value.ref 32), DictEntry.mk (PyData.keyHash P (Str.ofString "b3_exceptions")) (Value.str (Str.ofString "b3_exceptions") 2206) (Value.ref 33), DictEntry.mk (PyData.keyHash P (Str.ofString "map_table_b3")) (Value.str (Str.ofString "map_table_b3") 2214) (Value.ref 78), DictEntry.mk (PyData.keyHash P (Str.ofString "rgb_to_hls")) (Value.str (Str.ofString "rgb_to_hls") 2235) (Value.ref 85), DictEntry.mk (PyData.keyHash P (Str.ofString "hsv_to_rgb")) (Value.str (Str.ofString "hsv_to_rgb") 2249) (Value.ref 92), DictEntry.mk (PyData.keyHash P (Str.ofString "_DIV_LIMIT")) (Value.str (Str.ofString "_DIV_LIMIT") 2253) (Value.int 4000 2252), DictEntry.mk (PyData.keyHash P (Str.ofString "_div2n1n")) (Value.str (Str.ofString "_div2n1n") 2270) (Value.ref 99), DictEntry.mk (PyData.keyHash P (Str.ofString "_div3n2n")) (Value.str (Str.ofString "_div3n2n") 2284) (Value.ref 106), DictEntry.mk (PyData.keyHash P (Str.ofString "_int2digits")) (Value.str (Str.ofString "_int2digits") 2295) (Value.ref 113), DictEntry.mk (PyData.keyHash P (Str.ofString "_digits2int")) (Value.str (Str.ofString "_digits2int") 2306) (Value.ref 120), DictEntry.mk (PyData.keyHash P (Str.ofString "_divmod_pos")) (Value.str (Str.ofString "_divmod_pos") 2321) (Value.ref 127)] 21) #[]
noncomputable def n26 (P : Params) : Obj := Obj.mk (Value.type "dict") (Option.none) (Data.dict #[DictEntry.mk (PyData.keyHash P (Str.ofString "__name__")) (Value.str (Str.ofString "__name__") 165) (Value.str (Str.ofString "law_qu0064_01") 2332), DictEntry.mk (PyData.keyHash P (Str.ofString "__doc__")) (Value.str (Str.ofString "__doc__") 166) Value.none, DictEntry.mk (PyData.keyHash P (Str.ofString "__package__")) (Value.str (Str.ofString "__package__") 167) Value.none, DictEntry.mk (PyData.keyHash P (Str.ofString "__loader__")) (Value.str (Str.ofString "__loader__") 168) (Value.builtin "__main__.__loader__#opaque"), DictEntry.mk (PyData.keyHash P (Str.ofString "__spec__")) (Value.str (Str.ofString "__spec__") 169) Value.none, DictEntry.mk (PyData.keyHash P (Str.ofString "__annotations__")) (Value.str (Str.ofString "__annotations__") 170) (Value.ref 6), DictEntry.mk (PyData.keyHash P (Str.ofString "__builtins__")) (Value.str (Str.ofString "__builtins__") 171) (Value.ref 4), DictEntry.mk (PyData.keyHash P (Str.ofString "__file__")) (Value.str (Str.ofString "__file__") 173) (Value.str (Str.ofString "/claim/cut.py") 172), DictEntry.mk (PyData.keyHash P (Str.ofString "__cached__")) (Value.str (Str.ofString "__cached__") 174) Value.none, DictEntry.mk (PyData.keyHash P (Str.ofString "b1_set")) (Value.str (Str.ofString "b1_set") 248) (Value.ref 22), DictEntry.mk (PyData.keyHash P (Str.ofString "in_table_b1")) (Value.str (Str.ofString "in_table_b1") 255) (Value.ref 32), DictEntry.mk (PyData.keyHash P (Str.ofString "b3_exceptions")) (Value.str (Str.ofString "b3_exceptions") 2206) (Value.ref 33), DictEntry.mk (PyData.keyHash P (Str.ofString "map_table_b3")) (Value.str (Str.ofString "map_table_b3") 2214) (Value.ref 78), DictEntry.mk (PyData.keyHash P (Str.ofString "rgb_to_hls")) (Value.str (Str.ofString "rgb_to_hls") 2235) (Value.ref 85), DictEntry.mk (PyData.keyHash P (Str.ofString "hsv_to_rgb")) (Value.str (Str.ofString "hsv_to_rgb") 2249) (Value.ref 92), DictEntry.mk (PyData.keyHash P (Str.ofString "_DIV_LIMIT")) (Value.str (Str.ofString "_DIV_LIMIT") 2253) (Value.int 4000 2252), DictEntry.mk (PyData.keyHash P (Str.ofString "_div2n1n")) (Value.str (Str.ofString "_div2n1n") 2270) (Value.ref 99), DictEntry.mk (PyData.keyHash P (Str.ofString "_div3n2n")) (Value.str (Str.ofString "_div3n2n") 2284) (Value.ref 106), DictEntry.mk (PyData.keyHash P (Str.ofString "_int2digits")) (Value.str (Str.ofString "_int2digits") 2295) (Value.ref 113), DictEntry.mk (PyData.keyHash P (Str.ofString "_digits2int")) (Value.str (Str.ofString "_digits2int") 2306) (Value.ref 120), DictEntry.mk (PyData.keyHash P (Str.ofString "_divmod_pos")) (Value.str (Str.ofString "_divmod_pos") 2321) (Value.ref 127), DictEntry.mk (PyData.keyHash P (Str.ofString "int_divmod")) (Value.str (Str.ofString "int_divmod") 2331) (Value.ref 134), DictEntry.mk (PyData.keyHash P (Str.ofString "_law_nothing")) (Value.str (Str.ofString "_law_nothing") 2341) (Value.ref 141), DictEntry.mk (PyData.keyHash P (Str.ofString "_law_form")) (Value.str (Str.ofString "_law_form") 2350) (Value.ref 148), DictEntry.mk (PyData.keyHash P (Str.ofString "_law_stock")) (Value.str (Str.ofString "_law_stock") 2360) (Value.ref 155), DictEntry.mk (PyData.keyHash P (Str.ofString "_law_prepared")) (Value.str (Str.ofString "_law_prepared") 2369) (Value.ref 162), DictEntry.mk (PyData.keyHash P (Str.ofString "_law_shelves")) (Value.str (Str.ofString "_law_shelves") 2382) (Value.ref 169), DictEntry.mk (PyData.keyHash P (Str.ofString "_law_mixed")) (Value.str (Str.ofString "_law_mixed") 2388) (Value.ref 174), DictEntry.mk (PyData.keyHash P (Str.ofString "_law_colours_hold")) (Value.str (Str.ofString "_law_colours_hold") 2394) (Value.ref 179), DictEntry.mk (PyData.keyHash P (Str.ofString "_law_divisions_hold")) (Value.str (Str.ofString "_law_divisions_hold") 2408) (Value.ref 186), DictEntry.mk (PyData.keyHash P (Str.ofString "law")) (Value.str (Str.ofString "law") 2414) (Value.ref 191)] 31) #[]
noncomputable def c0 (P : Params) : Obj := Obj.mk Value.none (Option.none) (Data.fields #[]) #[]
noncomputable def c3 (P : Params) : Obj := Obj.mk Value.none (Option.none) (Data.fields #[Value.int 3 0, Value.int 0 0, Value.ref 31]) #[]
noncomputable def c15 (P : Params) : Obj := Obj.mk Value.none (Option.none) (Data.fields #[Value.int 3 0, Value.int 0 0, Value.ref 31, Value.int 6 0, Value.int 0 0, Value.ref 77, Value.int 12 0, Value.int 0 0, Value.ref 84, Value.int 35 0, Value.int 0 0, Value.ref 91, Value.int 58 0, Value.int 0 0, Value.ref 98, Value.int 74 0, Value.int 0 0, Value.ref 105, Value.int 84 0, Value.int 0 0, Value.ref 112, Value.int 100 0, Value.int 0 0, Value.ref 119, Value.int 109 0, Value.int 0 0, Value.ref 126]) #[]
noncomputable def c26 (P : Params) : Obj := Obj.mk Value.none (Option.none) (Data.fields #[Value.int 3 0, Value.int 0 0, Value.ref 31, Value.int 6 0, Value.int 0 0, Value.ref 77, Value.int 12 0, Value.int 0 0, Value.ref 84, Value.int 35 0, Value.int 0 0, Value.ref 91, Value.int 58 0, Value.int 0 0, Value.ref 98, Value.int 74 0, Value.int 0 0, Value.ref 105, Value.int 84 0, Value.int 0 0, Value.ref 112, Value.int 100 0, Value.int 0 0, Value.ref 119, Value.int 109 0, Value.int 0 0, Value.ref 126, Value.int 120 0, Value.int 0 0, Value.ref 133, Value.int 132 0, Value.int 0 0, Value.ref 140, Value.int 135 0, Value.int 0 0, Value.ref 147, Value.int 142 0, Value.int 0 0, Value.ref 154, Value.int 147 0, Value.int 0 0, Value.ref 161, Value.int 153 0, Value.int 0 0, Value.ref 168, Value.int 159 0, Value.int 0 0, Value.ref 173, Value.int 165 0, Value.int 0 0, Value.ref 178, Value.int 174 0, Value.int 0 0, Value.ref 185, Value.int 180 0, Value.int 0 0, Value.ref 190]) #[]
noncomputable def t0 (P : Params) : BT := (.node (boot_o_0 P) (.node (boot_o_1 P) (.node (boot_o_3 P) (.node (boot_o_7 P) .nil .nil) (.node (h11 P) .nil .nil)) (.node (boot_o_5 P) (.node (boot_o_9 P) .nil .nil) (.node (h13 P) .nil .nil))) (.node (boot_o_2 P) (.node (boot_o_4 P) (.node (boot_o_8 P) .nil .nil) (.node (c0 P) .nil .nil)) (.node (boot_o_6 P) (.node (boot_o_10 P) .nil .nil) (.node (h14 P) .nil .nil))))
noncomputable def t2 (P : Params) : BT := (.node (boot_o_0 P) (.node (boot_o_1 P) (.node (n2 P) (.node (boot_o_7 P) (.node (h15 P) .nil .nil) (.node (h23 P) .nil .nil)) (.node (h11 P) (.node (h19 P) .nil .nil) .nil)) (.node (boot_o_5 P) (.node (boot_o_9 P) (.node (h17 P) .nil .nil) (.node (h25 P) .nil .nil)) (.node (h13 P) (.node (h21 P) .nil .nil) .nil))) (.node (boot_o_2 P) (.node (boot_o_4 P) (.node (boot_o_8 P) (.node (h16 P) .nil .nil) (.node (h24 P) .nil .nil)) (.node (c0 P) (.node (h20 P) .nil .nil) .nil)) (.node (boot_o_6 P) (.node (boot_o_10 P) (.node (h18 P) .nil .nil) .nil) (.node (h14 P) (.node (h22 P) .nil .nil) .nil))))
noncomputable def t3 (P : Params) : BT := (.node (boot_o_0 P) (.node (boot_o_1 P) (.node (n3 P) (.node (boot_o_7 P) (.node (h15 P) (.node (h31 P) .nil .nil) .nil) (.node (h23 P) .nil .nil)) (.node (h11 P) (.node (h19 P) .nil .nil) (.node (h27 P) .nil .nil))) (.node (boot_o_5 P) (.node (boot_o_9 P) (.node (h17 P) .nil .nil) (.node (h25 P) .nil .nil)) (.node (h13 P) (.node (h21 P) .nil .nil) (.node (h29 P) .nil .nil)))) (.node (boot_o_2 P) (.node (boot_o_4 P) (.node (boot_o_8 P) (.node (h16 P) (.node (h32 P) .nil .nil) .nil) (.node (h24 P) .nil .nil)) (.node (c3 P) (.node (h20 P) .nil .nil) (.node (h28 P) .nil .nil))) (.node (boot_o_6 P) (.node (boot_o_10 P) (.node (h18 P) .nil .nil) (.node (h26 P) .nil .nil)) (.node (h14 P) (.node (h22 P) .nil .nil) (.node (h30 P) .nil .nil)))))
noncomputable def td0 (P : Params) : BT := (.node (boot_o_0 P) (.node (boot_o_1 P) (.node (n3 P) (.node (boot_o_7 P) (.node (h15 P) (.node (h31 P) .nil .nil) .nil) (.node (h23 P) .nil .nil)) (.node (h11 P) (.node (h19 P) .nil .nil) (.node (h27 P) .nil .nil))) (.node (boot_o_5 P) (.node (boot_o_9 P) (.node (h17 P) (.node (md 0) .nil .nil) .nil) (.node (h25 P) .nil .nil)) (.node (h13 P) (.node (h21 P) .nil .nil) (.node (h29 P) .nil .nil)))) (.node (boot_o_2 P) (.node (boot_o_4 P) (.node (boot_o_8 P) (.node (h16 P) (.node (h32 P) .nil .nil) .nil) (.node (h24 P) .nil .nil)) (.node (c3 P) (.node (h20 P) .nil .nil) (.node (h28 P) .nil .nil))) (.node (boot_o_6 P) (.node (boot_o_10 P) (.node (h18 P) .nil .nil) (.node (h26 P) .nil .nil)) (.node (h14 P) (.node (h22 P) .nil .nil) (.node (h30 P) .nil .nil)))))
noncomputable def td1 (P : Params) : BT := (.node (boot_o_0 P) (.node (boot_o_1 P) (.node (n3 P) (.node (boot_o_7 P) (.node (h15 P) (.node (h31 P) .nil .nil) .nil) (.node (h23 P) .nil .nil)) (.node (h11 P) (.node (h19 P) .nil .nil) (.node (h27 P) .nil .nil))) (.node (boot_o_5 P) (.node (boot_o_9 P) (.node (h17 P) (.node (md 1) .nil .nil) .nil) (.node (h25 P) .nil .nil)) (.node (h13 P) (.node (h21 P) .nil .nil) (.node (h29 P) .nil .nil)))) (.node (boot_o_2 P) (.node (boot_o_4 P) (.node (boot_o_8 P) (.node (h16 P) (.node (h32 P) .nil .nil) .nil) (.node (h24 P) .nil .nil)) (.node (c3 P) (.node (h20 P) .nil .nil) (.node (h28 P) .nil .nil))) (.node (boot_o_6 P) (.node (boot_o_10 P) (.node (h18 P) (.node (sd 1) .nil .nil) .nil) (.node (h26 P) .nil .nil)) (.node (h14 P) (.node (h22 P) .nil .nil) (.node (h30 P) .nil .nil)))))
noncomputable def td2 (P : Params) : BT := (.node (boot_o_0 P) (.node (boot_o_1 P) (.node (n3 P) (.node (boot_o_7 P) (.node (h15 P) (.node (h31 P) .nil .nil) .nil) (.node (h23 P) .nil .nil)) (.node (h11 P) (.node (h19 P) (.node (sd 2) .nil .nil) .nil) (.node (h27 P) .nil .nil))) (.node (boot_o_5 P) (.node (boot_o_9 P) (.node (h17 P) (.node (md 2) .nil .nil) .nil) (.node (h25 P) .nil .nil)) (.node (h13 P) (.node (h21 P) .nil .nil) (.node (h29 P) .nil .nil)))) (.node (boot_o_2 P) (.node (boot_o_4 P) (.node (boot_o_8 P) (.node (h16 P) (.node (h32 P) .nil .nil) .nil) (.node (h24 P) .nil .nil)) (.node (c3 P) (.node (h20 P) .nil .nil) (.node (h28 P) .nil .nil))) (.node (boot_o_6 P) (.node (boot_o_10 P) (.node (h18 P) (.node (sd 1) .nil .nil) .nil) (.node (h26 P) .nil .nil)) (.node (h14 P) (.node (h22 P) .nil .nil) (.node (h30 P) .nil .nil)))))
noncomputable def td3 (P : Params) : BT := (.node (boot_o_0 P) (.node (boot_o_1 P) (.node (n3 P) (.node (boot_o_7 P) (.node (h15 P) (.node (h31 P) .nil .nil) .nil) (.node (h23 P) .nil .nil)) (.node (h11 P) (.node (h19 P) (.node (sd 2) .nil .nil) .nil) (.node (h27 P) .nil .nil))) (.node (boot_o_5 P) (.node (boot_o_9 P) (.node (h17 P) (.node (md 3) .nil .nil) .nil) (.node (h25 P) .nil .nil)) (.node (h13 P) (.node (h21 P) .nil .nil) (.node (h29 P) .nil .nil)))) (.node (boot_o_2 P) (.node (boot_o_4 P) (.node (boot_o_8 P) (.node (h16 P) (.node (h32 P) .nil .nil) .nil) (.node (h24 P) .nil .nil)) (.node (c3 P) (.node (h20 P) (.node (sd 3) .nil .nil) .nil) (.node (h28 P) .nil .nil))) (.node (boot_o_6 P) (.node (boot_o_10 P) (.node (h18 P) (.node (sd 1) .nil .nil) .nil) (.node (h26 P) .nil .nil)) (.node (h14 P) (.node (h22 P) .nil .nil) (.node (h30 P) .nil .nil)))))
noncomputable def td4 (P : Params) : BT := (.node (boot_o_0 P) (.node (boot_o_1 P) (.node (n3 P) (.node (boot_o_7 P) (.node (h15 P) (.node (h31 P) .nil .nil) .nil) (.node (h23 P) .nil .nil)) (.node (h11 P) (.node (h19 P) (.node (sd 2) .nil .nil) .nil) (.node (h27 P) .nil .nil))) (.node (boot_o_5 P) (.node (boot_o_9 P) (.node (h17 P) (.node (md 4) .nil .nil) .nil) (.node (h25 P) .nil .nil)) (.node (h13 P) (.node (h21 P) (.node (sd 4) .nil .nil) .nil) (.node (h29 P) .nil .nil)))) (.node (boot_o_2 P) (.node (boot_o_4 P) (.node (boot_o_8 P) (.node (h16 P) (.node (h32 P) .nil .nil) .nil) (.node (h24 P) .nil .nil)) (.node (c3 P) (.node (h20 P) (.node (sd 3) .nil .nil) .nil) (.node (h28 P) .nil .nil))) (.node (boot_o_6 P) (.node (boot_o_10 P) (.node (h18 P) (.node (sd 1) .nil .nil) .nil) (.node (h26 P) .nil .nil)) (.node (h14 P) (.node (h22 P) .nil .nil) (.node (h30 P) .nil .nil)))))
noncomputable def td5 (P : Params) : BT := (.node (boot_o_0 P) (.node (boot_o_1 P) (.node (n3 P) (.node (boot_o_7 P) (.node (h15 P) (.node (h31 P) .nil .nil) .nil) (.node (h23 P) .nil .nil)) (.node (h11 P) (.node (h19 P) (.node (sd 2) .nil .nil) .nil) (.node (h27 P) .nil .nil))) (.node (boot_o_5 P) (.node (boot_o_9 P) (.node (h17 P) (.node (md 5) .nil .nil) .nil) (.node (h25 P) .nil .nil)) (.node (h13 P) (.node (h21 P) (.node (sd 4) .nil .nil) .nil) (.node (h29 P) .nil .nil)))) (.node (boot_o_2 P) (.node (boot_o_4 P) (.node (boot_o_8 P) (.node (h16 P) (.node (h32 P) .nil .nil) .nil) (.node (h24 P) .nil .nil)) (.node (c3 P) (.node (h20 P) (.node (sd 3) .nil .nil) .nil) (.node (h28 P) .nil .nil))) (.node (boot_o_6 P) (.node (boot_o_10 P) (.node (h18 P) (.node (sd 1) .nil .nil) .nil) (.node (h26 P) .nil .nil)) (.node (h14 P) (.node (h22 P) (.node (sd 5) .nil .nil) .nil) (.node (h30 P) .nil .nil)))))
noncomputable def td6 (P : Params) : BT := (.node (boot_o_0 P) (.node (boot_o_1 P) (.node (n3 P) (.node (boot_o_7 P) (.node (h15 P) (.node (h31 P) .nil .nil) .nil) (.node (h23 P) (.node (sd 6) .nil .nil) .nil)) (.node (h11 P) (.node (h19 P) (.node (sd 2) .nil .nil) .nil) (.node (h27 P) .nil .nil))) (.node (boot_o_5 P) (.node (boot_o_9 P) (.node (h17 P) (.node (md 6) .nil .nil) .nil) (.node (h25 P) .nil .nil)) (.node (h13 P) (.node (h21 P) (.node (sd 4) .nil .nil) .nil) (.node (h29 P) .nil .nil)))) (.node (boot_o_2 P) (.node (boot_o_4 P) (.node (boot_o_8 P) (.node (h16 P) (.node (h32 P) .nil .nil) .nil) (.node (h24 P) .nil .nil)) (.node (c3 P) (.node (h20 P) (.node (sd 3) .nil .nil) .nil) (.node (h28 P) .nil .nil))) (.node (boot_o_6 P) (.node (boot_o_10 P) (.node (h18 P) (.node (sd 1) .nil .nil) .nil) (.node (h26 P) .nil .nil)) (.node (h14 P) (.node (h22 P) (.node (sd 5) .nil .nil) .nil) (.node (h30 P) .nil .nil)))))
noncomputable def td7 (P : Params) : BT := (.node (boot_o_0 P) (.node (boot_o_1 P) (.node (n3 P) (.node (boot_o_7 P) (.node (h15 P) (.node (h31 P) .nil .nil) .nil) (.node (h23 P) (.node (sd 6) .nil .nil) .nil)) (.node (h11 P) (.node (h19 P) (.node (sd 2) .nil .nil) .nil) (.node (h27 P) .nil .nil))) (.node (boot_o_5 P) (.node (boot_o_9 P) (.node (h17 P) (.node (md 7) .nil .nil) .nil) (.node (h25 P) .nil .nil)) (.node (h13 P) (.node (h21 P) (.node (sd 4) .nil .nil) .nil) (.node (h29 P) .nil .nil)))) (.node (boot_o_2 P) (.node (boot_o_4 P) (.node (boot_o_8 P) (.node (h16 P) (.node (h32 P) .nil .nil) .nil) (.node (h24 P) (.node (sd 7) .nil .nil) .nil)) (.node (c3 P) (.node (h20 P) (.node (sd 3) .nil .nil) .nil) (.node (h28 P) .nil .nil))) (.node (boot_o_6 P) (.node (boot_o_10 P) (.node (h18 P) (.node (sd 1) .nil .nil) .nil) (.node (h26 P) .nil .nil)) (.node (h14 P) (.node (h22 P) (.node (sd 5) .nil .nil) .nil) (.node (h30 P) .nil .nil)))))
noncomputable def td8 (P : Params) : BT := (.node (boot_o_0 P) (.node (boot_o_1 P) (.node (n3 P) (.node (boot_o_7 P) (.node (h15 P) (.node (h31 P) .nil .nil) .nil) (.node (h23 P) (.node (sd 6) .nil .nil) .nil)) (.node (h11 P) (.node (h19 P) (.node (sd 2) .nil .nil) .nil) (.node (h27 P) .nil .nil))) (.node (boot_o_5 P) (.node (boot_o_9 P) (.node (h17 P) (.node (md 8) .nil .nil) .nil) (.node (h25 P) (.node (sd 8) .nil .nil) .nil)) (.node (h13 P) (.node (h21 P) (.node (sd 4) .nil .nil) .nil) (.node (h29 P) .nil .nil)))) (.node (boot_o_2 P) (.node (boot_o_4 P) (.node (boot_o_8 P) (.node (h16 P) (.node (h32 P) .nil .nil) .nil) (.node (h24 P) (.node (sd 7) .nil .nil) .nil)) (.node (c3 P) (.node (h20 P) (.node (sd 3) .nil .nil) .nil) (.node (h28 P) .nil .nil))) (.node (boot_o_6 P) (.node (boot_o_10 P) (.node (h18 P) (.node (sd 1) .nil .nil) .nil) (.node (h26 P) .nil .nil)) (.node (h14 P) (.node (h22 P) (.node (sd 5) .nil .nil) .nil) (.node (h30 P) .nil .nil)))))
noncomputable def td9 (P : Params) : BT := (.node (boot_o_0 P) (.node (boot_o_1 P) (.node (n3 P) (.node (boot_o_7 P) (.node (h15 P) (.node (h31 P) .nil .nil) .nil) (.node (h23 P) (.node (sd 6) .nil .nil) .nil)) (.node (h11 P) (.node (h19 P) (.node (sd 2) .nil .nil) .nil) (.node (h27 P) .nil .nil))) (.node (boot_o_5 P) (.node (boot_o_9 P) (.node (h17 P) (.node (md 9) .nil .nil) .nil) (.node (h25 P) (.node (sd 8) .nil .nil) .nil)) (.node (h13 P) (.node (h21 P) (.node (sd 4) .nil .nil) .nil) (.node (h29 P) .nil .nil)))) (.node (boot_o_2 P) (.node (boot_o_4 P) (.node (boot_o_8 P) (.node (h16 P) (.node (h32 P) .nil .nil) .nil) (.node (h24 P) (.node (sd 7) .nil .nil) .nil)) (.node (c3 P) (.node (h20 P) (.node (sd 3) .nil .nil) .nil) (.node (h28 P) .nil .nil))) (.node (boot_o_6 P) (.node (boot_o_10 P) (.node (h18 P) (.node (sd 1) .nil .nil) .nil) (.node (h26 P) (.node (sd 9) .nil .nil) .nil)) (.node (h14 P) (.node (h22 P) (.node (sd 5) .nil .nil) .nil) (.node (h30 P) .nil .nil)))))
noncomputable def td10 (P : Params) : BT := (.node (boot_o_0 P) (.node (boot_o_1 P) (.node (n3 P) (.node (boot_o_7 P) (.node (h15 P) (.node (h31 P) .nil .nil) .nil) (.node (h23 P) (.node (sd 6) .nil .nil) .nil)) (.node (h11 P) (.node (h19 P) (.node (sd 2) .nil .nil) .nil) (.node (h27 P) (.node (sd 10) .nil .nil) .nil))) (.node (boot_o_5 P) (.node (boot_o_9 P) (.node (h17 P) (.node (md 10) .nil .nil) .nil) (.node (h25 P) (.node (sd 8) .nil .nil) .nil)) (.node (h13 P) (.node (h21 P) (.node (sd 4) .nil .nil) .nil) (.node (h29 P) .nil .nil)))) (.node (boot_o_2 P) (.node (boot_o_4 P) (.node (boot_o_8 P) (.node (h16 P) (.node (h32 P) .nil .nil) .nil) (.node (h24 P) (.node (sd 7) .nil .nil) .nil)) (.node (c3 P) (.node (h20 P) (.node (sd 3) .nil .nil) .nil) (.node (h28 P) .nil .nil))) (.node (boot_o_6 P) (.node (boot_o_10 P) (.node (h18 P) (.node (sd 1) .nil .nil) .nil) (.node (h26 P) (.node (sd 9) .nil .nil) .nil)) (.node (h14 P) (.node (h22 P) (.node (sd 5) .nil .nil) .nil) (.node (h30 P) .nil .nil)))))
noncomputable def td11 (P : Params) : BT := (.node (boot_o_0 P) (.node (boot_o_1 P) (.node (n3 P) (.node (boot_o_7 P) (.node (h15 P) (.node (h31 P) .nil .nil) .nil) (.node (h23 P) (.node (sd 6) .nil .nil) .nil)) (.node (h11 P) (.node (h19 P) (.node (sd 2) .nil .nil) .nil) (.node (h27 P) (.node (sd 10) .nil .nil) .nil))) (.node (boot_o_5 P) (.node (boot_o_9 P) (.node (h17 P) (.node (md 11) .nil .nil) .nil) (.node (h25 P) (.node (sd 8) .nil .nil) .nil)) (.node (h13 P) (.node (h21 P) (.node (sd 4) .nil .nil) .nil) (.node (h29 P) .nil .nil)))) (.node (boot_o_2 P) (.node (boot_o_4 P) (.node (boot_o_8 P) (.node (h16 P) (.node (h32 P) .nil .nil) .nil) (.node (h24 P) (.node (sd 7) .nil .nil) .nil)) (.node (c3 P) (.node (h20 P) (.node (sd 3) .nil .nil) .nil) (.node (h28 P) (.node (sd 11) .nil .nil) .nil))) (.node (boot_o_6 P) (.node (boot_o_10 P) (.node (h18 P) (.node (sd 1) .nil .nil) .nil) (.node (h26 P) (.node (sd 9) .nil .nil) .nil)) (.node (h14 P) (.node (h22 P) (.node (sd 5) .nil .nil) .nil) (.node (h30 P) .nil .nil)))))
noncomputable def td12 (P : Params) : BT := (.node (boot_o_0 P) (.node (boot_o_1 P) (.node (n3 P) (.node (boot_o_7 P) (.node (h15 P) (.node (h31 P) .nil .nil) .nil) (.node (h23 P) (.node (sd 6) .nil .nil) .nil)) (.node (h11 P) (.node (h19 P) (.node (sd 2) .nil .nil) .nil) (.node (h27 P) (.node (sd 10) .nil .nil) .nil))) (.node (boot_o_5 P) (.node (boot_o_9 P) (.node (h17 P) (.node (md 12) .nil .nil) .nil) (.node (h25 P) (.node (sd 8) .nil .nil) .nil)) (.node (h13 P) (.node (h21 P) (.node (sd 4) .nil .nil) .nil) (.node (h29 P) (.node (sd 12) .nil .nil) .nil)))) (.node (boot_o_2 P) (.node (boot_o_4 P) (.node (boot_o_8 P) (.node (h16 P) (.node (h32 P) .nil .nil) .nil) (.node (h24 P) (.node (sd 7) .nil .nil) .nil)) (.node (c3 P) (.node (h20 P) (.node (sd 3) .nil .nil) .nil) (.node (h28 P) (.node (sd 11) .nil .nil) .nil))) (.node (boot_o_6 P) (.node (boot_o_10 P) (.node (h18 P) (.node (sd 1) .nil .nil) .nil) (.node (h26 P) (.node (sd 9) .nil .nil) .nil)) (.node (h14 P) (.node (h22 P) (.node (sd 5) .nil .nil) .nil) (.node (h30 P) .nil .nil)))))
noncomputable def td13 (P : Params) : BT := (.node (boot_o_0 P) (.node (boot_o_1 P) (.node (n3 P) (.node (boot_o_7 P) (.node (h15 P) (.node (h31 P) .nil .nil) .nil) (.node (h23 P) (.node (sd 6) .nil .nil) .nil)) (.node (h11 P) (.node (h19 P) (.node (sd 2) .nil .nil) .nil) (.node (h27 P) (.node (sd 10) .nil .nil) .nil))) (.node (boot_o_5 P) (.node (boot_o_9 P) (.node (h17 P) (.node (md 13) .nil .nil) .nil) (.node (h25 P) (.node (sd 8) .nil .nil) .nil)) (.node (h13 P) (.node (h21 P) (.node (sd 4) .nil .nil) .nil) (.node (h29 P) (.node (sd 12) .nil .nil) .nil)))) (.node (boot_o_2 P) (.node (boot_o_4 P) (.node (boot_o_8 P) (.node (h16 P) (.node (h32 P) .nil .nil) .nil) (.node (h24 P) (.node (sd 7) .nil .nil) .nil)) (.node (c3 P) (.node (h20 P) (.node (sd 3) .nil .nil) .nil) (.node (h28 P) (.node (sd 11) .nil .nil) .nil))) (.node (boot_o_6 P) (.node (boot_o_10 P) (.node (h18 P) (.node (sd 1) .nil .nil) .nil) (.node (h26 P) (.node (sd 9) .nil .nil) .nil)) (.node (h14 P) (.node (h22 P) (.node (sd 5) .nil .nil) .nil) (.node (h30 P) (.node (sd 13) .nil .nil) .nil)))))
noncomputable def td14 (P : Params) : BT := (.node (boot_o_0 P) (.node (boot_o_1 P) (.node (n3 P) (.node (boot_o_7 P) (.node (h15 P) (.node (h31 P) .nil .nil) (.node (sd 14) .nil .nil)) (.node (h23 P) (.node (sd 6) .nil .nil) .nil)) (.node (h11 P) (.node (h19 P) (.node (sd 2) .nil .nil) .nil) (.node (h27 P) (.node (sd 10) .nil .nil) .nil))) (.node (boot_o_5 P) (.node (boot_o_9 P) (.node (h17 P) (.node (md 14) .nil .nil) .nil) (.node (h25 P) (.node (sd 8) .nil .nil) .nil)) (.node (h13 P) (.node (h21 P) (.node (sd 4) .nil .nil) .nil) (.node (h29 P) (.node (sd 12) .nil .nil) .nil)))) (.node (boot_o_2 P) (.node (boot_o_4 P) (.node (boot_o_8 P) (.node (h16 P) (.node (h32 P) .nil .nil) .nil) (.node (h24 P) (.node (sd 7) .nil .nil) .nil)) (.node (c3 P) (.node (h20 P) (.node (sd 3) .nil .nil) .nil) (.node (h28 P) (.node (sd 11) .nil .nil) .nil))) (.node (boot_o_6 P) (.node (boot_o_10 P) (.node (h18 P) (.node (sd 1) .nil .nil) .nil) (.node (h26 P) (.node (sd 9) .nil .nil) .nil)) (.node (h14 P) (.node (h22 P) (.node (sd 5) .nil .nil) .nil) (.node (h30 P) (.node (sd 13) .nil .nil) .nil)))))
noncomputable def td15 (P : Params) : BT := (.node (boot_o_0 P) (.node (boot_o_1 P) (.node (n3 P) (.node (boot_o_7 P) (.node (h15 P) (.node (h31 P) .nil .nil) (.node (sd 14) .nil .nil)) (.node (h23 P) (.node (sd 6) .nil .nil) .nil)) (.node (h11 P) (.node (h19 P) (.node (sd 2) .nil .nil) .nil) (.node (h27 P) (.node (sd 10) .nil .nil) .nil))) (.node (boot_o_5 P) (.node (boot_o_9 P) (.node (h17 P) (.node (md 15) .nil .nil) .nil) (.node (h25 P) (.node (sd 8) .nil .nil) .nil)) (.node (h13 P) (.node (h21 P) (.node (sd 4) .nil .nil) .nil) (.node (h29 P) (.node (sd 12) .nil .nil) .nil)))) (.node (boot_o_2 P) (.node (boot_o_4 P) (.node (boot_o_8 P) (.node (h16 P) (.node (h32 P) .nil .nil) (.node (sd 15) .nil .nil)) (.node (h24 P) (.node (sd 7) .nil .nil) .nil)) (.node (c3 P) (.node (h20 P) (.node (sd 3) .nil .nil) .nil) (.node (h28 P) (.node (sd 11) .nil .nil) .nil))) (.node (boot_o_6 P) (.node (boot_o_10 P) (.node (h18 P) (.node (sd 1) .nil .nil) .nil) (.node (h26 P) (.node (sd 9) .nil .nil) .nil)) (.node (h14 P) (.node (h22 P) (.node (sd 5) .nil .nil) .nil) (.node (h30 P) (.node (sd 13) .nil .nil) .nil)))))
noncomputable def td16 (P : Params) : BT := (.node (boot_o_0 P) (.node (boot_o_1 P) (.node (n3 P) (.node (boot_o_7 P) (.node (h15 P) (.node (h31 P) .nil .nil) (.node (sd 14) .nil .nil)) (.node (h23 P) (.node (sd 6) .nil .nil) .nil)) (.node (h11 P) (.node (h19 P) (.node (sd 2) .nil .nil) .nil) (.node (h27 P) (.node (sd 10) .nil .nil) .nil))) (.node (boot_o_5 P) (.node (boot_o_9 P) (.node (h17 P) (.node (md 16) .nil .nil) (.node (sd 16) .nil .nil)) (.node (h25 P) (.node (sd 8) .nil .nil) .nil)) (.node (h13 P) (.node (h21 P) (.node (sd 4) .nil .nil) .nil) (.node (h29 P) (.node (sd 12) .nil .nil) .nil)))) (.node (boot_o_2 P) (.node (boot_o_4 P) (.node (boot_o_8 P) (.node (h16 P) (.node (h32 P) .nil .nil) (.node (sd 15) .nil .nil)) (.node (h24 P) (.node (sd 7) .nil .nil) .nil)) (.node (c3 P) (.node (h20 P) (.node (sd 3) .nil .nil) .nil) (.node (h28 P) (.node (sd 11) .nil .nil) .nil))) (.node (boot_o_6 P) (.node (boot_o_10 P) (.node (h18 P) (.node (sd 1) .nil .nil) .nil) (.node (h26 P) (.node (sd 9) .nil .nil) .nil)) (.node (h14 P) (.node (h22 P) (.node (sd 5) .nil .nil) .nil) (.node (h30 P) (.node (sd 13) .nil .nil) .nil)))))
noncomputable def td17 (P : Params) : BT := (.node (boot_o_0 P) (.node (boot_o_1 P) (.node (n3 P) (.node (boot_o_7 P) (.node (h15 P) (.node (h31 P) .nil .nil) (.node (sd 14) .nil .nil)) (.node (h23 P) (.node (sd 6) .nil .nil) .nil)) (.node (h11 P) (.node (h19 P) (.node (sd 2) .nil .nil) .nil) (.node (h27 P) (.node (sd 10) .nil .nil) .nil))) (.node (boot_o_5 P) (.node (boot_o_9 P) (.node (h17 P) (.node (md 17) .nil .nil) (.node (sd 16) .nil .nil)) (.node (h25 P) (.node (sd 8) .nil .nil) .nil)) (.node (h13 P) (.node (h21 P) (.node (sd 4) .nil .nil) .nil) (.node (h29 P) (.node (sd 12) .nil .nil) .nil)))) (.node (boot_o_2 P) (.node (boot_o_4 P) (.node (boot_o_8 P) (.node (h16 P) (.node (h32 P) .nil .nil) (.node (sd 15) .nil .nil)) (.node (h24 P) (.node (sd 7) .nil .nil) .nil)) (.node (c3 P) (.node (h20 P) (.node (sd 3) .nil .nil) .nil) (.node (h28 P) (.node (sd 11) .nil .nil) .nil))) (.node (boot_o_6 P) (.node (boot_o_10 P) (.node (h18 P) (.node (sd 1) .nil .nil) (.node (sd 17) .nil .nil)) (.node (h26 P) (.node (sd 9) .nil .nil) .nil)) (.node (h14 P) (.node (h22 P) (.node (sd 5) .nil .nil) .nil) (.node (h30 P) (.node (sd 13) .nil .nil) .nil)))))
noncomputable def td18 (P : Params) : BT := (.node (boot_o_0 P) (.node (boot_o_1 P) (.node (n3 P) (.node (boot_o_7 P) (.node (h15 P) (.node (h31 P) .nil .nil) (.node (sd 14) .nil .nil)) (.node (h23 P) (.node (sd 6) .nil .nil) .nil)) (.node (h11 P) (.node (h19 P) (.node (sd 2) .nil .nil) (.node (sd 18) .nil .nil)) (.node (h27 P) (.node (sd 10) .nil .nil) .nil))) (.node (boot_o_5 P) (.node (boot_o_9 P) (.node (h17 P) (.node (md 18) .nil .nil) (.node (sd 16) .nil .nil)) (.node (h25 P) (.node (sd 8) .nil .nil) .nil)) (.node (h13 P) (.node (h21 P) (.node (sd 4) .nil .nil) .nil) (.node (h29 P) (.node (sd 12) .nil .nil) .nil)))) (.node (boot_o_2 P) (.node (boot_o_4 P) (.node (boot_o_8 P) (.node (h16 P) (.node (h32 P) .nil .nil) (.node (sd 15) .nil .nil)) (.node (h24 P) (.node (sd 7) .nil .nil) .nil)) (.node (c3 P) (.node (h20 P) (.node (sd 3) .nil .nil) .nil) (.node (h28 P) (.node (sd 11) .nil .nil) .nil))) (.node (boot_o_6 P) (.node (boot_o_10 P) (.node (h18 P) (.node (sd 1) .nil .nil) (.node (sd 17) .nil .nil)) (.node (h26 P) (.node (sd 9) .nil .nil) .nil)) (.node (h14 P) (.node (h22 P) (.node (sd 5) .nil .nil) .nil) (.node (h30 P) (.node (sd 13) .nil .nil) .nil)))))
noncomputable def td19 (P : Params) : BT := (.node (boot_o_0 P) (.node (boot_o_1 P) (.node (n3 P) (.node (boot_o_7 P) (.node (h15 P) (.node (h31 P) .nil .nil) (.node (sd 14) .nil .nil)) (.node (h23 P) (.node (sd 6) .nil .nil) .nil)) (.node (h11 P) (.node (h19 P) (.node (sd 2) .nil .nil) (.node (sd 18) .nil .nil)) (.node (h27 P) (.node (sd 10) .nil .nil) .nil))) (.node (boot_o_5 P) (.node (boot_o_9 P) (.node (h17 P) (.node (md 19) .nil .nil) (.node (sd 16) .nil .nil)) (.node (h25 P) (.node (sd 8) .nil .nil) .nil)) (.node (h13 P) (.node (h21 P) (.node (sd 4) .nil .nil) .nil) (.node (h29 P) (.node (sd 12) .nil .nil) .nil)))) (.node (boot_o_2 P) (.node (boot_o_4 P) (.node (boot_o_8 P) (.node (h16 P) (.node (h32 P) .nil .nil) (.node (sd 15) .nil .nil)) (.node (h24 P) (.node (sd 7) .nil .nil) .nil)) (.node (c3 P) (.node (h20 P) (.node (sd 3) .nil .nil) (.node (sd 19) .nil .nil)) (.node (h28 P) (.node (sd 11) .nil .nil) .nil))) (.node (boot_o_6 P) (.node (boot_o_10 P) (.node (h18 P) (.node (sd 1) .nil .nil) (.node (sd 17) .nil .nil)) (.node (h26 P) (.node (sd 9) .nil .nil) .nil)) (.node (h14 P) (.node (h22 P) (.node (sd 5) .nil .nil) .nil) (.node (h30 P) (.node (sd 13) .nil .nil) .nil)))))
noncomputable def td20 (P : Params) : BT := (.node (boot_o_0 P) (.node (boot_o_1 P) (.node (n3 P) (.node (boot_o_7 P) (.node (h15 P) (.node (h31 P) .nil .nil) (.node (sd 14) .nil .nil)) (.node (h23 P) (.node (sd 6) .nil .nil) .nil)) (.node (h11 P) (.node (h19 P) (.node (sd 2) .nil .nil) (.node (sd 18) .nil .nil)) (.node (h27 P) (.node (sd 10) .nil .nil) .nil))) (.node (boot_o_5 P) (.node (boot_o_9 P) (.node (h17 P) (.node (md 20) .nil .nil) (.node (sd 16) .nil .nil)) (.node (h25 P) (.node (sd 8) .nil .nil) .nil)) (.node (h13 P) (.node (h21 P) (.node (sd 4) .nil .nil) (.node (sd 20) .nil .nil)) (.node (h29 P) (.node (sd 12) .nil .nil) .nil)))) (.node (boot_o_2 P) (.node (boot_o_4 P) (.node (boot_o_8 P) (.node (h16 P) (.node (h32 P) .nil .nil) (.node (sd 15) .nil .nil)) (.node (h24 P) (.node (sd 7) .nil .nil) .nil)) (.node (c3 P) (.node (h20 P) (.node (sd 3) .nil .nil) (.node (sd 19) .nil .nil)) (.node (h28 P) (.node (sd 11) .nil .nil) .nil))) (.node (boot_o_6 P) (.node (boot_o_10 P) (.node (h18 P) (.node (sd 1) .nil .nil) (.node (sd 17) .nil .nil)) (.node (h26 P) (.node (sd 9) .nil .nil) .nil)) (.node (h14 P) (.node (h22 P) (.node (sd 5) .nil .nil) .nil) (.node (h30 P) (.node (sd 13) .nil .nil) .nil)))))
noncomputable def td21 (P : Params) : BT := (.node (boot_o_0 P) (.node (boot_o_1 P) (.node (n3 P) (.node (boot_o_7 P) (.node (h15 P) (.node (h31 P) .nil .nil) (.node (sd 14) .nil .nil)) (.node (h23 P) (.node (sd 6) .nil .nil) .nil)) (.node (h11 P) (.node (h19 P) (.node (sd 2) .nil .nil) (.node (sd 18) .nil .nil)) (.node (h27 P) (.node (sd 10) .nil .nil) .nil))) (.node (boot_o_5 P) (.node (boot_o_9 P) (.node (h17 P) (.node (md 21) .nil .nil) (.node (sd 16) .nil .nil)) (.node (h25 P) (.node (sd 8) .nil .nil) .nil)) (.node (h13 P) (.node (h21 P) (.node (sd 4) .nil .nil) (.node (sd 20) .nil .nil)) (.node (h29 P) (.node (sd 12) .nil .nil) .nil)))) (.node (boot_o_2 P) (.node (boot_o_4 P) (.node (boot_o_8 P) (.node (h16 P) (.node (h32 P) .nil .nil) (.node (sd 15) .nil .nil)) (.node (h24 P) (.node (sd 7) .nil .nil) .nil)) (.node (c3 P) (.node (h20 P) (.node (sd 3) .nil .nil) (.node (sd 19) .nil .nil)) (.node (h28 P) (.node (sd 11) .nil .nil) .nil))) (.node (boot_o_6 P) (.node (boot_o_10 P) (.node (h18 P) (.node (sd 1) .nil .nil) (.node (sd 17) .nil .nil)) (.node (h26 P) (.node (sd 9) .nil .nil) .nil)) (.node (h14 P) (.node (h22 P) (.node (sd 5) .nil .nil) (.node (sd 21) .nil .nil)) (.node (h30 P) (.node (sd 13) .nil .nil) .nil)))))
noncomputable def td22 (P : Params) : BT := (.node (boot_o_0 P) (.node (boot_o_1 P) (.node (n3 P) (.node (boot_o_7 P) (.node (h15 P) (.node (h31 P) .nil .nil) (.node (sd 14) .nil .nil)) (.node (h23 P) (.node (sd 6) .nil .nil) (.node (sd 22) .nil .nil))) (.node (h11 P) (.node (h19 P) (.node (sd 2) .nil .nil) (.node (sd 18) .nil .nil)) (.node (h27 P) (.node (sd 10) .nil .nil) .nil))) (.node (boot_o_5 P) (.node (boot_o_9 P) (.node (h17 P) (.node (md 22) .nil .nil) (.node (sd 16) .nil .nil)) (.node (h25 P) (.node (sd 8) .nil .nil) .nil)) (.node (h13 P) (.node (h21 P) (.node (sd 4) .nil .nil) (.node (sd 20) .nil .nil)) (.node (h29 P) (.node (sd 12) .nil .nil) .nil)))) (.node (boot_o_2 P) (.node (boot_o_4 P) (.node (boot_o_8 P) (.node (h16 P) (.node (h32 P) .nil .nil) (.node (sd 15) .nil .nil)) (.node (h24 P) (.node (sd 7) .nil .nil) .nil)) (.node (c3 P) (.node (h20 P) (.node (sd 3) .nil .nil) (.node (sd 19) .nil .nil)) (.node (h28 P) (.node (sd 11) .nil .nil) .nil))) (.node (boot_o_6 P) (.node (boot_o_10 P) (.node (h18 P) (.node (sd 1) .nil .nil) (.node (sd 17) .nil .nil)) (.node (h26 P) (.node (sd 9) .nil .nil) .nil)) (.node (h14 P) (.node (h22 P) (.node (sd 5) .nil .nil) (.node (sd 21) .nil .nil)) (.node (h30 P) (.node (sd 13) .nil .nil) .nil)))))
noncomputable def td23 (P : Params) : BT := (.node (boot_o_0 P) (.node (boot_o_1 P) (.node (n3 P) (.node (boot_o_7 P) (.node (h15 P) (.node (h31 P) .nil .nil) (.node (sd 14) .nil .nil)) (.node (h23 P) (.node (sd 6) .nil .nil) (.node (sd 22) .nil .nil))) (.node (h11 P) (.node (h19 P) (.node (sd 2) .nil .nil) (.node (sd 18) .nil .nil)) (.node (h27 P) (.node (sd 10) .nil .nil) .nil))) (.node (boot_o_5 P) (.node (boot_o_9 P) (.node (h17 P) (.node (md 23) .nil .nil) (.node (sd 16) .nil .nil)) (.node (h25 P) (.node (sd 8) .nil .nil) .nil)) (.node (h13 P) (.node (h21 P) (.node (sd 4) .nil .nil) (.node (sd 20) .nil .nil)) (.node (h29 P) (.node (sd 12) .nil .nil) .nil)))) (.node (boot_o_2 P) (.node (boot_o_4 P) (.node (boot_o_8 P) (.node (h16 P) (.node (h32 P) .nil .nil) (.node (sd 15) .nil .nil)) (.node (h24 P) (.node (sd 7) .nil .nil) (.node (sd 23) .nil .nil))) (.node (c3 P) (.node (h20 P) (.node (sd 3) .nil .nil) (.node (sd 19) .nil .nil)) (.node (h28 P) (.node (sd 11) .nil .nil) .nil))) (.node (boot_o_6 P) (.node (boot_o_10 P) (.node (h18 P) (.node (sd 1) .nil .nil) (.node (sd 17) .nil .nil)) (.node (h26 P) (.node (sd 9) .nil .nil) .nil)) (.node (h14 P) (.node (h22 P) (.node (sd 5) .nil .nil) (.node (sd 21) .nil .nil)) (.node (h30 P) (.node (sd 13) .nil .nil) .nil)))))
noncomputable def td24 (P : Params) : BT := (.node (boot_o_0 P) (.node (boot_o_1 P) (.node (n3 P) (.node (boot_o_7 P) (.node (h15 P) (.node (h31 P) .nil .nil) (.node (sd 14) .nil .nil)) (.node (h23 P) (.node (sd 6) .nil .nil) (.node (sd 22) .nil .nil))) (.node (h11 P) (.node (h19 P) (.node (sd 2) .nil .nil) (.node (sd 18) .nil .nil)) (.node (h27 P) (.node (sd 10) .nil .nil) .nil))) (.node (boot_o_5 P) (.node (boot_o_9 P) (.node (h17 P) (.node (md 24) .nil .nil) (.node (sd 16) .nil .nil)) (.node (h25 P) (.node (sd 8) .nil .nil) (.node (sd 24) .nil .nil))) (.node (h13 P) (.node (h21 P) (.node (sd 4) .nil .nil) (.node (sd 20) .nil .nil)) (.node (h29 P) (.node (sd 12) .nil .nil) .nil)))) (.node (boot_o_2 P) (.node (boot_o_4 P) (.node (boot_o_8 P) (.node (h16 P) (.node (h32 P) .nil .nil) (.node (sd 15) .nil .nil)) (.node (h24 P) (.node (sd 7) .nil .nil) (.node (sd 23) .nil .nil))) (.node (c3 P) (.node (h20 P) (.node (sd 3) .nil .nil) (.node (sd 19) .nil .nil)) (.node (h28 P) (.node (sd 11) .nil .nil) .nil))) (.node (boot_o_6 P) (.node (boot_o_10 P) (.node (h18 P) (.node (sd 1) .nil .nil) (.node (sd 17) .nil .nil)) (.node (h26 P) (.node (sd 9) .nil .nil) .nil)) (.node (h14 P) (.node (h22 P) (.node (sd 5) .nil .nil) (.node (sd 21) .nil .nil)) (.node (h30 P) (.node (sd 13) .nil .nil) .nil)))))
noncomputable def td25 (P : Params) : BT := (.node (boot_o_0 P) (.node (boot_o_1 P) (.node (n3 P) (.node (boot_o_7 P) (.node (h15 P) (.node (h31 P) .nil .nil) (.node (sd 14) .nil .nil)) (.node (h23 P) (.node (sd 6) .nil .nil) (.node (sd 22) .nil .nil))) (.node (h11 P) (.node (h19 P) (.node (sd 2) .nil .nil) (.node (sd 18) .nil .nil)) (.node (h27 P) (.node (sd 10) .nil .nil) .nil))) (.node (boot_o_5 P) (.node (boot_o_9 P) (.node (h17 P) (.node (md 25) .nil .nil) (.node (sd 16) .nil .nil)) (.node (h25 P) (.node (sd 8) .nil .nil) (.node (sd 24) .nil .nil))) (.node (h13 P) (.node (h21 P) (.node (sd 4) .nil .nil) (.node (sd 20) .nil .nil)) (.node (h29 P) (.node (sd 12) .nil .nil) .nil)))) (.node (boot_o_2 P) (.node (boot_o_4 P) (.node (boot_o_8 P) (.node (h16 P) (.node (h32 P) .nil .nil) (.node (sd 15) .nil .nil)) (.node (h24 P) (.node (sd 7) .nil .nil) (.node (sd 23) .nil .nil))) (.node (c3 P) (.node (h20 P) (.node (sd 3) .nil .nil) (.node (sd 19) .nil .nil)) (.node (h28 P) (.node (sd 11) .nil .nil) .nil))) (.node (boot_o_6 P) (.node (boot_o_10 P) (.node (h18 P) (.node (sd 1) .nil .nil) (.node (sd 17) .nil .nil)) (.node (h26 P) (.node (sd 9) .nil .nil) (.node (sd 25) .nil .nil))) (.node (h14 P) (.node (h22 P) (.node (sd 5) .nil .nil) (.node (sd 21) .nil .nil)) (.node (h30 P) (.node (sd 13) .nil .nil) .nil)))))
noncomputable def td26 (P : Params) : BT := (.node (boot_o_0 P) (.node (boot_o_1 P) (.node (n3 P) (.node (boot_o_7 P) (.node (h15 P) (.node (h31 P) .nil .nil) (.node (sd 14) .nil .nil)) (.node (h23 P) (.node (sd 6) .nil .nil) (.node (sd 22) .nil .nil))) (.node (h11 P) (.node (h19 P) (.node (sd 2) .nil .nil) (.node (sd 18) .nil .nil)) (.node (h27 P) (.node (sd 10) .nil .nil) (.node (sd 26) .nil .nil)))) (.node (boot_o_5 P) (.node (boot_o_9 P) (.node (h17 P) (.node (md 26) .nil .nil) (.node (sd 16) .nil .nil)) (.node (h25 P) (.node (sd 8) .nil .nil) (.node (sd 24) .nil .nil))) (.node (h13 P) (.node (h21 P) (.node (sd 4) .nil .nil) (.node (sd 20) .nil .nil)) (.node (h29 P) (.node (sd 12) .nil .nil) .nil)))) (.node (boot_o_2 P) (.node (boot_o_4 P) (.node (boot_o_8 P) (.node (h16 P) (.node (h32 P) .nil .nil) (.node (sd 15) .nil .nil)) (.node (h24 P) (.node (sd 7) .nil .nil) (.node (sd 23) .nil .nil))) (.node (c3 P) (.node (h20 P) (.node (sd 3) .nil .nil) (.node (sd 19) .nil .nil)) (.node (h28 P) (.node (sd 11) .nil .nil) .nil))) (.node (boot_o_6 P) (.node (boot_o_10 P) (.node (h18 P) (.node (sd 1) .nil .nil) (.node (sd 17) .nil .nil)) (.node (h26 P) (.node (sd 9) .nil .nil) (.node (sd 25) .nil .nil))) (.node (h14 P) (.node (h22 P) (.node (sd 5) .nil .nil) (.node (sd 21) .nil .nil)) (.node (h30 P) (.node (sd 13) .nil .nil) .nil)))))
noncomputable def td27 (P : Params) : BT := (.node (boot_o_0 P) (.node (boot_o_1 P) (.node (n3 P) (.node (boot_o_7 P) (.node (h15 P) (.node (h31 P) .nil .nil) (.node (sd 14) .nil .nil)) (.node (h23 P) (.node (sd 6) .nil .nil) (.node (sd 22) .nil .nil))) (.node (h11 P) (.node (h19 P) (.node (sd 2) .nil .nil) (.node (sd 18) .nil .nil)) (.node (h27 P) (.node (sd 10) .nil .nil) (.node (sd 26) .nil .nil)))) (.node (boot_o_5 P) (.node (boot_o_9 P) (.node (h17 P) (.node (md 27) .nil .nil) (.node (sd 16) .nil .nil)) (.node (h25 P) (.node (sd 8) .nil .nil) (.node (sd 24) .nil .nil))) (.node (h13 P) (.node (h21 P) (.node (sd 4) .nil .nil) (.node (sd 20) .nil .nil)) (.node (h29 P) (.node (sd 12) .nil .nil) .nil)))) (.node (boot_o_2 P) (.node (boot_o_4 P) (.node (boot_o_8 P) (.node (h16 P) (.node (h32 P) .nil .nil) (.node (sd 15) .nil .nil)) (.node (h24 P) (.node (sd 7) .nil .nil) (.node (sd 23) .nil .nil))) (.node (c3 P) (.node (h20 P) (.node (sd 3) .nil .nil) (.node (sd 19) .nil .nil)) (.node (h28 P) (.node (sd 11) .nil .nil) (.node (sd 27) .nil .nil)))) (.node (boot_o_6 P) (.node (boot_o_10 P) (.node (h18 P) (.node (sd 1) .nil .nil) (.node (sd 17) .nil .nil)) (.node (h26 P) (.node (sd 9) .nil .nil) (.node (sd 25) .nil .nil))) (.node (h14 P) (.node (h22 P) (.node (sd 5) .nil .nil) (.node (sd 21) .nil .nil)) (.node (h30 P) (.node (sd 13) .nil .nil) .nil)))))
noncomputable def td28 (P : Params) : BT := (.node (boot_o_0 P) (.node (boot_o_1 P) (.node (n3 P) (.node (boot_o_7 P) (.node (h15 P) (.node (h31 P) .nil .nil) (.node (sd 14) .nil .nil)) (.node (h23 P) (.node (sd 6) .nil .nil) (.node (sd 22) .nil .nil))) (.node (h11 P) (.node (h19 P) (.node (sd 2) .nil .nil) (.node (sd 18) .nil .nil)) (.node (h27 P) (.node (sd 10) .nil .nil) (.node (sd 26) .nil .nil)))) (.node (boot_o_5 P) (.node (boot_o_9 P) (.node (h17 P) (.node (md 28) .nil .nil) (.node (sd 16) .nil .nil)) (.node (h25 P) (.node (sd 8) .nil .nil) (.node (sd 24) .nil .nil))) (.node (h13 P) (.node (h21 P) (.node (sd 4) .nil .nil) (.node (sd 20) .nil .nil)) (.node (h29 P) (.node (sd 12) .nil .nil) (.node (sd 28) .nil .nil))))) (.node (boot_o_2 P) (.node (boot_o_4 P) (.node (boot_o_8 P) (.node (h16 P) (.node (h32 P) .nil .nil) (.node (sd 15) .nil .nil)) (.node (h24 P) (.node (sd 7) .nil .nil) (.node (sd 23) .nil .nil))) (.node (c3 P) (.node (h20 P) (.node (sd 3) .nil .nil) (.node (sd 19) .nil .nil)) (.node (h28 P) (.node (sd 11) .nil .nil) (.node (sd 27) .nil .nil)))) (.node (boot_o_6 P) (.node (boot_o_10 P) (.node (h18 P) (.node (sd 1) .nil .nil) (.node (sd 17) .nil .nil)) (.node (h26 P) (.node (sd 9) .nil .nil) (.node (sd 25) .nil .nil))) (.node (h14 P) (.node (h22 P) (.node (sd 5) .nil .nil) (.node (sd 21) .nil .nil)) (.node (h30 P) (.node (sd 13) .nil .nil) .nil)))))
noncomputable def td29 (P : Params) : BT := (.node (boot_o_0 P) (.node (boot_o_1 P) (.node (n3 P) (.node (boot_o_7 P) (.node (h15 P) (.node (h31 P) .nil .nil) (.node (sd 14) .nil .nil)) (.node (h23 P) (.node (sd 6) .nil .nil) (.node (sd 22) .nil .nil))) (.node (h11 P) (.node (h19 P) (.node (sd 2) .nil .nil) (.node (sd 18) .nil .nil)) (.node (h27 P) (.node (sd 10) .nil .nil) (.node (sd 26) .nil .nil)))) (.node (boot_o_5 P) (.node (boot_o_9 P) (.node (h17 P) (.node (md 29) .nil .nil) (.node (sd 16) .nil .nil)) (.node (h25 P) (.node (sd 8) .nil .nil) (.node (sd 24) .nil .nil))) (.node (h13 P) (.node (h21 P) (.node (sd 4) .nil .nil) (.node (sd 20) .nil .nil)) (.node (h29 P) (.node (sd 12) .nil .nil) (.node (sd 28) .nil .nil))))) (.node (boot_o_2 P) (.node (boot_o_4 P) (.node (boot_o_8 P) (.node (h16 P) (.node (h32 P) .nil .nil) (.node (sd 15) .nil .nil)) (.node (h24 P) (.node (sd 7) .nil .nil) (.node (sd 23) .nil .nil))) (.node (c3 P) (.node (h20 P) (.node (sd 3) .nil .nil) (.node (sd 19) .nil .nil)) (.node (h28 P) (.node (sd 11) .nil .nil) (.node (sd 27) .nil .nil)))) (.node (boot_o_6 P) (.node (boot_o_10 P) (.node (h18 P) (.node (sd 1) .nil .nil) (.node (sd 17) .nil .nil)) (.node (h26 P) (.node (sd 9) .nil .nil) (.node (sd 25) .nil .nil))) (.node (h14 P) (.node (h22 P) (.node (sd 5) .nil .nil) (.node (sd 21) .nil .nil)) (.node (h30 P) (.node (sd 13) .nil .nil) (.node (sd 29) .nil .nil))))))
noncomputable def td30 (P : Params) : BT := (.node (boot_o_0 P) (.node (boot_o_1 P) (.node (n3 P) (.node (boot_o_7 P) (.node (h15 P) (.node (h31 P) (.node (sd 30) .nil .nil) .nil) (.node (sd 14) .nil .nil)) (.node (h23 P) (.node (sd 6) .nil .nil) (.node (sd 22) .nil .nil))) (.node (h11 P) (.node (h19 P) (.node (sd 2) .nil .nil) (.node (sd 18) .nil .nil)) (.node (h27 P) (.node (sd 10) .nil .nil) (.node (sd 26) .nil .nil)))) (.node (boot_o_5 P) (.node (boot_o_9 P) (.node (h17 P) (.node (md 30) .nil .nil) (.node (sd 16) .nil .nil)) (.node (h25 P) (.node (sd 8) .nil .nil) (.node (sd 24) .nil .nil))) (.node (h13 P) (.node (h21 P) (.node (sd 4) .nil .nil) (.node (sd 20) .nil .nil)) (.node (h29 P) (.node (sd 12) .nil .nil) (.node (sd 28) .nil .nil))))) (.node (boot_o_2 P) (.node (boot_o_4 P) (.node (boot_o_8 P) (.node (h16 P) (.node (h32 P) .nil .nil) (.node (sd 15) .nil .nil)) (.node (h24 P) (.node (sd 7) .nil .nil) (.node (sd 23) .nil .nil))) (.node (c3 P) (.node (h20 P) (.node (sd 3) .nil .nil) (.node (sd 19) .nil .nil)) (.node (h28 P) (.node (sd 11) .nil .nil) (.node (sd 27) .nil .nil)))) (.node (boot_o_6 P) (.node (boot_o_10 P) (.node (h18 P) (.node (sd 1) .nil .nil) (.node (sd 17) .nil .nil)) (.node (h26 P) (.node (sd 9) .nil .nil) (.node (sd 25) .nil .nil))) (.node (h14 P) (.node (h22 P) (.node (sd 5) .nil .nil) (.node (sd 21) .nil .nil)) (.node (h30 P) (.node (sd 13) .nil .nil) (.node (sd 29) .nil .nil))))))
noncomputable def td31 (P : Params) : BT := (.node (boot_o_0 P) (.node (boot_o_1 P) (.node (n3 P) (.node (boot_o_7 P) (.node (h15 P) (.node (h31 P) (.node (sd 30) .nil .nil) .nil) (.node (sd 14) .nil .nil)) (.node (h23 P) (.node (sd 6) .nil .nil) (.node (sd 22) .nil .nil))) (.node (h11 P) (.node (h19 P) (.node (sd 2) .nil .nil) (.node (sd 18) .nil .nil)) (.node (h27 P) (.node (sd 10) .nil .nil) (.node (sd 26) .nil .nil)))) (.node (boot_o_5 P) (.node (boot_o_9 P) (.node (h17 P) (.node (md 31) .nil .nil) (.node (sd 16) .nil .nil)) (.node (h25 P) (.node (sd 8) .nil .nil) (.node (sd 24) .nil .nil))) (.node (h13 P) (.node (h21 P) (.node (sd 4) .nil .nil) (.node (sd 20) .nil .nil)) (.node (h29 P) (.node (sd 12) .nil .nil) (.node (sd 28) .nil .nil))))) (.node (boot_o_2 P) (.node (boot_o_4 P) (.node (boot_o_8 P) (.node (h16 P) (.node (h32 P) (.node (sd 31) .nil .nil) .nil) (.node (sd 15) .nil .nil)) (.node (h24 P) (.node (sd 7) .nil .nil) (.node (sd 23) .nil .nil))) (.node (c3 P) (.node (h20 P) (.node (sd 3) .nil .nil) (.node (sd 19) .nil .nil)) (.node (h28 P) (.node (sd 11) .nil .nil) (.node (sd 27) .nil .nil)))) (.node (boot_o_6 P) (.node (boot_o_10 P) (.node (h18 P) (.node (sd 1) .nil .nil) (.node (sd 17) .nil .nil)) (.node (h26 P) (.node (sd 9) .nil .nil) (.node (sd 25) .nil .nil))) (.node (h14 P) (.node (h22 P) (.node (sd 5) .nil .nil) (.node (sd 21) .nil .nil)) (.node (h30 P) (.node (sd 13) .nil .nil) (.node (sd 29) .nil .nil))))))
noncomputable def td32 (P : Params) : BT := (.node (boot_o_0 P) (.node (boot_o_1 P) (.node (n3 P) (.node (boot_o_7 P) (.node (h15 P) (.node (h31 P) (.node (sd 30) .nil .nil) .nil) (.node (sd 14) .nil .nil)) (.node (h23 P) (.node (sd 6) .nil .nil) (.node (sd 22) .nil .nil))) (.node (h11 P) (.node (h19 P) (.node (sd 2) .nil .nil) (.node (sd 18) .nil .nil)) (.node (h27 P) (.node (sd 10) .nil .nil) (.node (sd 26) .nil .nil)))) (.node (boot_o_5 P) (.node (boot_o_9 P) (.node (h17 P) (.node (md 32) (.node (sd 32) .nil .nil) .nil) (.node (sd 16) .nil .nil)) (.node (h25 P) (.node (sd 8) .nil .nil) (.node (sd 24) .nil .nil))) (.node (h13 P) (.node (h21 P) (.node (sd 4) .nil .nil) (.node (sd 20) .nil .nil)) (.node (h29 P) (.node (sd 12) .nil .nil) (.node (sd 28) .nil .nil))))) (.node (boot_o_2 P) (.node (boot_o_4 P) (.node (boot_o_8 P) (.node (h16 P) (.node (h32 P) (.node (sd 31) .nil .nil) .nil) (.node (sd 15) .nil .nil)) (.node (h24 P) (.node (sd 7) .nil .nil) (.node (sd 23) .nil .nil))) (.node (c3 P) (.node (h20 P) (.node (sd 3) .nil .nil) (.node (sd 19) .nil .nil)) (.node (h28 P) (.node (sd 11) .nil .nil) (.node (sd 27) .nil .nil)))) (.node (boot_o_6 P) (.node (boot_o_10 P) (.node (h18 P) (.node (sd 1) .nil .nil) (.node (sd 17) .nil .nil)) (.node (h26 P) (.node (sd 9) .nil .nil) (.node (sd 25) .nil .nil))) (.node (h14 P) (.node (h22 P) (.node (sd 5) .nil .nil) (.node (sd 21) .nil .nil)) (.node (h30 P) (.node (sd 13) .nil .nil) (.node (sd 29) .nil .nil))))))
noncomputable def td33 (P : Params) : BT := (.node (boot_o_0 P) (.node (boot_o_1 P) (.node (n3 P) (.node (boot_o_7 P) (.node (h15 P) (.node (h31 P) (.node (sd 30) .nil .nil) .nil) (.node (sd 14) .nil .nil)) (.node (h23 P) (.node (sd 6) .nil .nil) (.node (sd 22) .nil .nil))) (.node (h11 P) (.node (h19 P) (.node (sd 2) .nil .nil) (.node (sd 18) .nil .nil)) (.node (h27 P) (.node (sd 10) .nil .nil) (.node (sd 26) .nil .nil)))) (.node (boot_o_5 P) (.node (boot_o_9 P) (.node (h17 P) (.node (md 33) (.node (sd 32) .nil .nil) .nil) (.node (sd 16) .nil .nil)) (.node (h25 P) (.node (sd 8) .nil .nil) (.node (sd 24) .nil .nil))) (.node (h13 P) (.node (h21 P) (.node (sd 4) .nil .nil) (.node (sd 20) .nil .nil)) (.node (h29 P) (.node (sd 12) .nil .nil) (.node (sd 28) .nil .nil))))) (.node (boot_o_2 P) (.node (boot_o_4 P) (.node (boot_o_8 P) (.node (h16 P) (.node (h32 P) (.node (sd 31) .nil .nil) .nil) (.node (sd 15) .nil .nil)) (.node (h24 P) (.node (sd 7) .nil .nil) (.node (sd 23) .nil .nil))) (.node (c3 P) (.node (h20 P) (.node (sd 3) .nil .nil) (.node (sd 19) .nil .nil)) (.node (h28 P) (.node (sd 11) .nil .nil) (.node (sd 27) .nil .nil)))) (.node (boot_o_6 P) (.node (boot_o_10 P) (.node (h18 P) (.node (sd 1) (.node (sd 33) .nil .nil) .nil) (.node (sd 17) .nil .nil)) (.node (h26 P) (.node (sd 9) .nil .nil) (.node (sd 25) .nil .nil))) (.node (h14 P) (.node (h22 P) (.node (sd 5) .nil .nil) (.node (sd 21) .nil .nil)) (.node (h30 P) (.node (sd 13) .nil .nil) (.node (sd 29) .nil .nil))))))
noncomputable def td34 (P : Params) : BT := (.node (boot_o_0 P) (.node (boot_o_1 P) (.node (n3 P) (.node (boot_o_7 P) (.node (h15 P) (.node (h31 P) (.node (sd 30) .nil .nil) .nil) (.node (sd 14) .nil .nil)) (.node (h23 P) (.node (sd 6) .nil .nil) (.node (sd 22) .nil .nil))) (.node (h11 P) (.node (h19 P) (.node (sd 2) (.node (sd 34) .nil .nil) .nil) (.node (sd 18) .nil .nil)) (.node (h27 P) (.node (sd 10) .nil .nil) (.node (sd 26) .nil .nil)))) (.node (boot_o_5 P) (.node (boot_o_9 P) (.node (h17 P) (.node (md 34) (.node (sd 32) .nil .nil) .nil) (.node (sd 16) .nil .nil)) (.node (h25 P) (.node (sd 8) .nil .nil) (.node (sd 24) .nil .nil))) (.node (h13 P) (.node (h21 P) (.node (sd 4) .nil .nil) (.node (sd 20) .nil .nil)) (.node (h29 P) (.node (sd 12) .nil .nil) (.node (sd 28) .nil .nil))))) (.node (boot_o_2 P) (.node (boot_o_4 P) (.node (boot_o_8 P) (.node (h16 P) (.node (h32 P) (.node (sd 31) .nil .nil) .nil) (.node (sd 15) .nil .nil)) (.node (h24 P) (.node (sd 7) .nil .nil) (.node (sd 23) .nil .nil))) (.node (c3 P) (.node (h20 P) (.node (sd 3) .nil .nil) (.node (sd 19) .nil .nil)) (.node (h28 P) (.node (sd 11) .nil .nil) (.node (sd 27) .nil .nil)))) (.node (boot_o_6 P) (.node (boot_o_10 P) (.node (h18 P) (.node (sd 1) (.node (sd 33) .nil .nil) .nil) (.node (sd 17) .nil .nil)) (.node (h26 P) (.node (sd 9) .nil .nil) (.node (sd 25) .nil .nil))) (.node (h14 P) (.node (h22 P) (.node (sd 5) .nil .nil) (.node (sd 21) .nil .nil)) (.node (h30 P) (.node (sd 13) .nil .nil) (.node (sd 29) .nil .nil))))))
noncomputable def td35 (P : Params) : BT := (.node (boot_o_0 P) (.node (boot_o_1 P) (.node (n3 P) (.node (boot_o_7 P) (.node (h15 P) (.node (h31 P) (.node (sd 30) .nil .nil) .nil) (.node (sd 14) .nil .nil)) (.node (h23 P) (.node (sd 6) .nil .nil) (.node (sd 22) .nil .nil))) (.node (h11 P) (.node (h19 P) (.node (sd 2) (.node (sd 34) .nil .nil) .nil) (.node (sd 18) .nil .nil)) (.node (h27 P) (.node (sd 10) .nil .nil) (.node (sd 26) .nil .nil)))) (.node (boot_o_5 P) (.node (boot_o_9 P) (.node (h17 P) (.node (md 35) (.node (sd 32) .nil .nil) .nil) (.node (sd 16) .nil .nil)) (.node (h25 P) (.node (sd 8) .nil .nil) (.node (sd 24) .nil .nil))) (.node (h13 P) (.node (h21 P) (.node (sd 4) .nil .nil) (.node (sd 20) .nil .nil)) (.node (h29 P) (.node (sd 12) .nil .nil) (.node (sd 28) .nil .nil))))) (.node (boot_o_2 P) (.node (boot_o_4 P) (.node (boot_o_8 P) (.node (h16 P) (.node (h32 P) (.node (sd 31) .nil .nil) .nil) (.node (sd 15) .nil .nil)) (.node (h24 P) (.node (sd 7) .nil .nil) (.node (sd 23) .nil .nil))) (.node (c3 P) (.node (h20 P) (.node (sd 3) (.node (sd 35) .nil .nil) .nil) (.node (sd 19) .nil .nil)) (.node (h28 P) (.node (sd 11) .nil .nil) (.node (sd 27) .nil .nil)))) (.node (boot_o_6 P) (.node (boot_o_10 P) (.node (h18 P) (.node (sd 1) (.node (sd 33) .nil .nil) .nil) (.node (sd 17) .nil .nil)) (.node (h26 P) (.node (sd 9) .nil .nil) (.node (sd 25) .nil .nil))) (.node (h14 P) (.node (h22 P) (.node (sd 5) .nil .nil) (.node (sd 21) .nil .nil)) (.node (h30 P) (.node (sd 13) .nil .nil) (.node (sd 29) .nil .nil))))))
noncomputable def td36 (P : Params) : BT := (.node (boot_o_0 P) (.node (boot_o_1 P) (.node (n3 P) (.node (boot_o_7 P) (.node (h15 P) (.node (h31 P) (.node (sd 30) .nil .nil) .nil) (.node (sd 14) .nil .nil)) (.node (h23 P) (.node (sd 6) .nil .nil) (.node (sd 22) .nil .nil))) (.node (h11 P) (.node (h19 P) (.node (sd 2) (.node (sd 34) .nil .nil) .nil) (.node (sd 18) .nil .nil)) (.node (h27 P) (.node (sd 10) .nil .nil) (.node (sd 26) .nil .nil)))) (.node (boot_o_5 P) (.node (boot_o_9 P) (.node (h17 P) (.node (md 36) (.node (sd 32) .nil .nil) .nil) (.node (sd 16) .nil .nil)) (.node (h25 P) (.node (sd 8) .nil .nil) (.node (sd 24) .nil .nil))) (.node (h13 P) (.node (h21 P) (.node (sd 4) (.node (sd 36) .nil .nil) .nil) (.node (sd 20) .nil .nil)) (.node (h29 P) (.node (sd 12) .nil .nil) (.node (sd 28) .nil .nil))))) (.node (boot_o_2 P) (.node (boot_o_4 P) (.node (boot_o_8 P) (.node (h16 P) (.node (h32 P) (.node (sd 31) .nil .nil) .nil) (.node (sd 15) .nil .nil)) (.node (h24 P) (.node (sd 7) .nil .nil) (.node (sd 23) .nil .nil))) (.node (c3 P) (.node (h20 P) (.node (sd 3) (.node (sd 35) .nil .nil) .nil) (.node (sd 19) .nil .nil)) (.node (h28 P) (.node (sd 11) .nil .nil) (.node (sd 27) .nil .nil)))) (.node (boot_o_6 P) (.node (boot_o_10 P) (.node (h18 P) (.node (sd 1) (.node (sd 33) .nil .nil) .nil) (.node (sd 17) .nil .nil)) (.node (h26 P) (.node (sd 9) .nil .nil) (.node (sd 25) .nil .nil))) (.node (h14 P) (.node (h22 P) (.node (sd 5) .nil .nil) (.node (sd 21) .nil .nil)) (.node (h30 P) (.node (sd 13) .nil .nil) (.node (sd 29) .nil .nil))))))
noncomputable def td37 (P : Params) : BT := (.node (boot_o_0 P) (.node (boot_o_1 P) (.node (n3 P) (.node (boot_o_7 P) (.node (h15 P) (.node (h31 P) (.node (sd 30) .nil .nil) .nil) (.node (sd 14) .nil .nil)) (.node (h23 P) (.node (sd 6) .nil .nil) (.node (sd 22) .nil .nil))) (.node (h11 P) (.node (h19 P) (.node (sd 2) (.node (sd 34) .nil .nil) .nil) (.node (sd 18) .nil .nil)) (.node (h27 P) (.node (sd 10) .nil .nil) (.node (sd 26) .nil .nil)))) (.node (boot_o_5 P) (.node (boot_o_9 P) (.node (h17 P) (.node (md 37) (.node (sd 32) .nil .nil) .nil) (.node (sd 16) .nil .nil)) (.node (h25 P) (.node (sd 8) .nil .nil) (.node (sd 24) .nil .nil))) (.node (h13 P) (.node (h21 P) (.node (sd 4) (.node (sd 36) .nil .nil) .nil) (.node (sd 20) .nil .nil)) (.node (h29 P) (.node (sd 12) .nil .nil) (.node (sd 28) .nil .nil))))) (.node (boot_o_2 P) (.node (boot_o_4 P) (.node (boot_o_8 P) (.node (h16 P) (.node (h32 P) (.node (sd 31) .nil .nil) .nil) (.node (sd 15) .nil .nil)) (.node (h24 P) (.node (sd 7) .nil .nil) (.node (sd 23) .nil .nil))) (.node (c3 P) (.node (h20 P) (.node (sd 3) (.node (sd 35) .nil .nil) .nil) (.node (sd 19) .nil .nil)) (.node (h28 P) (.node (sd 11) .nil .nil) (.node (sd 27) .nil .nil)))) (.node (boot_o_6 P) (.node (boot_o_10 P) (.node (h18 P) (.node (sd 1) (.node (sd 33) .nil .nil) .nil) (.node (sd 17) .nil .nil)) (.node (h26 P) (.node (sd 9) .nil .nil) (.node (sd 25) .nil .nil))) (.node (h14 P) (.node (h22 P) (.node (sd 5) (.node (sd 37) .nil .nil) .nil) (.node (sd 21) .nil .nil)) (.node (h30 P) (.node (sd 13) .nil .nil) (.node (sd 29) .nil .nil))))))
noncomputable def td38 (P : Params) : BT := (.node (boot_o_0 P) (.node (boot_o_1 P) (.node (n3 P) (.node (boot_o_7 P) (.node (h15 P) (.node (h31 P) (.node (sd 30) .nil .nil) .nil) (.node (sd 14) .nil .nil)) (.node (h23 P) (.node (sd 6) (.node (sd 38) .nil .nil) .nil) (.node (sd 22) .nil .nil))) (.node (h11 P) (.node (h19 P) (.node (sd 2) (.node (sd 34) .nil .nil) .nil) (.node (sd 18) .nil .nil)) (.node (h27 P) (.node (sd 10) .nil .nil) (.node (sd 26) .nil .nil)))) (.node (boot_o_5 P) (.node (boot_o_9 P) (.node (h17 P) (.node (md 38) (.node (sd 32) .nil .nil) .nil) (.node (sd 16) .nil .nil)) (.node (h25 P) (.node (sd 8) .nil .nil) (.node (sd 24) .nil .nil))) (.node (h13 P) (.node (h21 P) (.node (sd 4) (.node (sd 36) .nil .nil) .nil) (.node (sd 20) .nil .nil)) (.node (h29 P) (.node (sd 12) .nil .nil) (.node (sd 28) .nil .nil))))) (.node (boot_o_2 P) (.node (boot_o_4 P) (.node (boot_o_8 P) (.node (h16 P) (.node (h32 P) (.node (sd 31) .nil .nil) .nil) (.node (sd 15) .nil .nil)) (.node (h24 P) (.node (sd 7) .nil .nil) (.node (sd 23) .nil .nil))) (.node (c3 P) (.node (h20 P) (.node (sd 3) (.node (sd 35) .nil .nil) .nil) (.node (sd 19) .nil .nil)) (.node (h28 P) (.node (sd 11) .nil .nil) (.node (sd 27) .nil .nil)))) (.node (boot_o_6 P) (.node (boot_o_10 P) (.node (h18 P) (.node (sd 1) (.node (sd 33) .nil .nil) .nil) (.node (sd 17) .nil .nil)) (.node (h26 P) (.node (sd 9) .nil .nil) (.node (sd 25) .nil .nil))) (.node (h14 P) (.node (h22 P) (.node (sd 5) (.node (sd 37) .nil .nil) .nil) (.node (sd 21) .nil .nil)) (.node (h30 P) (.node (sd 13) .nil .nil) (.node (sd 29) .nil .nil))))))
noncomputable def t4 (P : Params) : BT := (.node (boot_o_0 P) (.node (boot_o_1 P) (.node (n4 P) (.node (boot_o_7 P) (.node (h15 P) (.node (h31 P) (.node (sd 30) .nil .nil) .nil) (.node (sd 14) .nil .nil)) (.node (h23 P) (.node (sd 6) (.node (sd 38) .nil .nil) .nil) (.node (sd 22) .nil .nil))) (.node (h11 P) (.node (h19 P) (.node (sd 2) (.node (sd 34) .nil .nil) .nil) (.node (sd 18) .nil .nil)) (.node (h27 P) (.node (sd 10) .nil .nil) (.node (sd 26) .nil .nil)))) (.node (boot_o_5 P) (.node (boot_o_9 P) (.node (h17 P) (.node (md 38) (.node (sd 32) .nil .nil) .nil) (.node (sd 16) .nil .nil)) (.node (h25 P) (.node (sd 8) .nil .nil) (.node (sd 24) .nil .nil))) (.node (h13 P) (.node (h21 P) (.node (sd 4) (.node (sd 36) .nil .nil) .nil) (.node (sd 20) .nil .nil)) (.node (h29 P) (.node (sd 12) .nil .nil) (.node (sd 28) .nil .nil))))) (.node (boot_o_2 P) (.node (boot_o_4 P) (.node (boot_o_8 P) (.node (h16 P) (.node (h32 P) (.node (sd 31) .nil .nil) .nil) (.node (sd 15) .nil .nil)) (.node (h24 P) (.node (sd 7) .nil .nil) (.node (sd 23) .nil .nil))) (.node (c3 P) (.node (h20 P) (.node (sd 3) (.node (sd 35) .nil .nil) .nil) (.node (sd 19) .nil .nil)) (.node (h28 P) (.node (sd 11) .nil .nil) (.node (sd 27) .nil .nil)))) (.node (boot_o_6 P) (.node (boot_o_10 P) (.node (h18 P) (.node (sd 1) (.node (sd 33) .nil .nil) .nil) (.node (sd 17) .nil .nil)) (.node (h26 P) (.node (sd 9) .nil .nil) (.node (sd 25) .nil .nil))) (.node (h14 P) (.node (h22 P) (.node (sd 5) (.node (sd 37) .nil .nil) .nil) (.node (sd 21) .nil .nil)) (.node (h30 P) (.node (sd 13) .nil .nil) (.node (sd 29) .nil .nil))))))
noncomputable def t15 (P : Params) : BT := (.node (boot_o_0 P) (.node (boot_o_1 P) (.node (n15 P) (.node (boot_o_7 P) (.node (h15 P) (.node (h31 P) (.node (sd 30) (.node (h127 P) .nil .nil) .nil) (.node (h95 P) .nil .nil)) (.node (sd 14) (.node (h79 P) .nil .nil) (.node (h111 P) .nil .nil))) (.node (h23 P) (.node (sd 6) (.node (sd 38) .nil .nil) (.node (h103 P) .nil .nil)) (.node (sd 22) (.node (h87 P) .nil .nil) (.node (h119 P) .nil .nil)))) (.node (h11 P) (.node (h19 P) (.node (sd 2) (.node (sd 34) .nil .nil) (.node (h99 P) .nil .nil)) (.node (sd 18) (.node (h83 P) .nil .nil) (.node (h115 P) .nil .nil))) (.node (h27 P) (.node (sd 10) (.node (h75 P) .nil .nil) (.node (h107 P) .nil .nil)) (.node (sd 26) (.node (h91 P) .nil .nil) (.node (h123 P) .nil .nil))))) (.node (boot_o_5 P) (.node (boot_o_9 P) (.node (h17 P) (.node (md 38) (.node (sd 32) .nil .nil) (.node (h97 P) .nil .nil)) (.node (sd 16) (.node (h81 P) .nil .nil) (.node (h113 P) .nil .nil))) (.node (h25 P) (.node (sd 8) (.node (h73 P) .nil .nil) (.node (h105 P) .nil .nil)) (.node (sd 24) (.node (h89 P) .nil .nil) (.node (h121 P) .nil .nil)))) (.node (h13 P) (.node (h21 P) (.node (sd 4) (.node (sd 36) .nil .nil) (.node (h101 P) .nil .nil)) (.node (sd 20) (.node (h85 P) .nil .nil) (.node (h117 P) .nil .nil))) (.node (h29 P) (.node (sd 12) (.node (h77 P) .nil .nil) (.node (h109 P) .nil .nil)) (.node (sd 28) (.node (h93 P) .nil .nil) (.node (h125 P) .nil .nil)))))) (.node (boot_o_2 P) (.node (boot_o_4 P) (.node (boot_o_8 P) (.node (h16 P) (.node (h32 P) (.node (sd 31) .nil .nil) (.node (h96 P) .nil .nil)) (.node (sd 15) (.node (h80 P) .nil .nil) (.node (h112 P) .nil .nil))) (.node (h24 P) (.node (sd 7) (.node (h72 P) .nil .nil) (.node (h104 P) .nil .nil)) (.node (sd 23) (.node (h88 P) .nil .nil) (.node (h120 P) .nil .nil)))) (.node (c15 P) (.node (h20 P) (.node (sd 3) (.node (sd 35) .nil .nil) (.node (h100 P) .nil .nil)) (.node (sd 19) (.node (h84 P) .nil .nil) (.node (h116 P) .nil .nil))) (.node (h28 P) (.node (sd 11) (.node (h76 P) .nil .nil) (.node (h108 P) .nil .nil)) (.node (sd 27) (.node (h92 P) .nil .nil) (.node (h124 P) .nil .nil))))) (.node (boot_o_6 P) (.node (boot_o_10 P) (.node (h18 P) (.node (sd 1) (.node (sd 33) .nil .nil) (.node (h98 P) .nil .nil)) (.node (sd 17) (.node (h82 P) .nil .nil) (.node (h114 P) .nil .nil))) (.node (h26 P) (.node (sd 9) (.node (h74 P) .nil .nil) (.node (h106 P) .nil .nil)) (.node (sd 25) (.node (h90 P) .nil .nil) (.node (h122 P) .nil .nil)))) (.node (h14 P) (.node (h22 P) (.node (sd 5) (.node (sd 37) .nil .nil) (.node (h102 P) .nil .nil)) (.node (sd 21) (.node (h86 P) .nil .nil) (.node (h118 P) .nil .nil))) (.node (h30 P) (.node (sd 13) (.node (h78 P) .nil .nil) (.node (h110 P) .nil .nil)) (.node (sd 29) (.node (h94 P) .nil .nil) (.node (h126 P) .nil .nil)))))))
noncomputable def t26 (P : Params) : BT := (.node (boot_o_0 P) (.node (boot_o_1 P) (.node (n26 P) (.node (boot_o_7 P) (.node (h15 P) (.node (h31 P) (.node (sd 30) (.node (h127 P) .nil .nil) (.node (h191 P) .nil .nil)) (.node (h95 P) (.node (h159 P) .nil .nil) .nil)) (.node (sd 14) (.node (h79 P) (.node (h143 P) .nil .nil) .nil) (.node (h111 P) (.node (h175 P) .nil .nil) .nil))) (.node (h23 P) (.node (sd 6) (.node (sd 38) (.node (h135 P) .nil .nil) .nil) (.node (h103 P) (.node (h167 P) .nil .nil) .nil)) (.node (sd 22) (.node (h87 P) (.node (h151 P) .nil .nil) .nil) (.node (h119 P) (.node (h183 P) .nil .nil) .nil)))) (.node (h11 P) (.node (h19 P) (.node (sd 2) (.node (sd 34) (.node (h131 P) .nil .nil) .nil) (.node (h99 P) (.node (h163 P) .nil .nil) .nil)) (.node (sd 18) (.node (h83 P) (.node (h147 P) .nil .nil) .nil) (.node (h115 P) (.node (h179 P) .nil .nil) .nil))) (.node (h27 P) (.node (sd 10) (.node (h75 P) (.node (h139 P) .nil .nil) .nil) (.node (h107 P) (.node (h171 P) .nil .nil) .nil)) (.node (sd 26) (.node (h91 P) (.node (h155 P) .nil .nil) .nil) (.node (h123 P) (.node (h187 P) .nil .nil) .nil))))) (.node (boot_o_5 P) (.node (boot_o_9 P) (.node (h17 P) (.node (md 38) (.node (sd 32) (.node (h129 P) .nil .nil) .nil) (.node (h97 P) (.node (h161 P) .nil .nil) .nil)) (.node (sd 16) (.node (h81 P) (.node (h145 P) .nil .nil) .nil) (.node (h113 P) (.node (h177 P) .nil .nil) .nil))) (.node (h25 P) (.node (sd 8) (.node (h73 P) (.node (h137 P) .nil .nil) .nil) (.node (h105 P) (.node (h169 P) .nil .nil) .nil)) (.node (sd 24) (.node (h89 P) (.node (h153 P) .nil .nil) .nil) (.node (h121 P) (.node (h185 P) .nil .nil) .nil)))) (.node (h13 P) (.node (h21 P) (.node (sd 4) (.node (sd 36) (.node (h133 P) .nil .nil) .nil) (.node (h101 P) (.node (h165 P) .nil .nil) .nil)) (.node (sd 20) (.node (h85 P) (.node (h149 P) .nil .nil) .nil) (.node (h117 P) (.node (h181 P) .nil .nil) .nil))) (.node (h29 P) (.node (sd 12) (.node (h77 P) (.node (h141 P) .nil .nil) .nil) (.node (h109 P) (.node (h173 P) .nil .nil) .nil)) (.node (sd 28) (.node (h93 P) (.node (h157 P) .nil .nil) .nil) (.node (h125 P) (.node (h189 P) .nil .nil) .nil)))))) (.node (boot_o_2 P) (.node (boot_o_4 P) (.node (boot_o_8 P) (.node (h16 P) (.node (h32 P) (.node (sd 31) (.node (h128 P) .nil .nil) .nil) (.node (h96 P) (.node (h160 P) .nil .nil) .nil)) (.node (sd 15) (.node (h80 P) (.node (h144 P) .nil .nil) .nil) (.node (h112 P) (.node (h176 P) .nil .nil) .nil))) (.node (h24 P) (.node (sd 7) (.node (h72 P) (.node (h136 P) .nil .nil) .nil) (.node (h104 P) (.node (h168 P) .nil .nil) .nil)) (.node (sd 23) (.node (h88 P) (.node (h152 P) .nil .nil) .nil) (.node (h120 P) (.node (h184 P) .nil .nil) .nil)))) (.node (c26 P) (.node (h20 P) (.node (sd 3) (.node (sd 35) (.node (h132 P) .nil .nil) .nil) (.node (h100 P) (.node (h164 P) .nil .nil) .nil)) (.node (sd 19) (.node (h84 P) (.node (h148 P) .nil .nil) .nil) (.node (h116 P) (.node (h180 P) .nil .nil) .nil))) (.node (h28 P) (.node (sd 11) (.node (h76 P) (.node (h140 P) .nil .nil) .nil) (.node (h108 P) (.node (h172 P) .nil .nil) .nil)) (.node (sd 27) (.node (h92 P) (.node (h156 P) .nil .nil) .nil) (.node (h124 P) (.node (h188 P) .nil .nil) .nil))))) (.node (boot_o_6 P) (.node (boot_o_10 P) (.node (h18 P) (.node (sd 1) (.node (sd 33) (.node (h130 P) .nil .nil) .nil) (.node (h98 P) (.node (h162 P) .nil .nil) .nil)) (.node (sd 17) (.node (h82 P) (.node (h146 P) .nil .nil) .nil) (.node (h114 P) (.node (h178 P) .nil .nil) .nil))) (.node (h26 P) (.node (sd 9) (.node (h74 P) (.node (h138 P) .nil .nil) .nil) (.node (h106 P) (.node (h170 P) .nil .nil) .nil)) (.node (sd 25) (.node (h90 P) (.node (h154 P) .nil .nil) .nil) (.node (h122 P) (.node (h186 P) .nil .nil) .nil)))) (.node (h14 P) (.node (h22 P) (.node (sd 5) (.node (sd 37) (.node (h134 P) .nil .nil) .nil) (.node (h102 P) (.node (h166 P) .nil .nil) .nil)) (.node (sd 21) (.node (h86 P) (.node (h150 P) .nil .nil) .nil) (.node (h118 P) (.node (h182 P) .nil .nil) .nil))) (.node (h30 P) (.node (sd 13) (.node (h78 P) (.node (h142 P) .nil .nil) .nil) (.node (h110 P) (.node (h174 P) .nil .nil) .nil)) (.node (sd 29) (.node (h94 P) (.node (h158 P) .nil .nil) .nil) (.node (h126 P) (.node (h190 P) .nil .nil) .nil)))))))
end Mine
end
section
open PySem PySem.W PyProof.Rows PySem.Spec PySem.Calls
set_option Elab.async false
set_option maxRecDepth 100000
namespace Mine
noncomputable abbrev Pr := Sem Value × Sem Value
noncomputable abbrev letGo (l : List Value) : Sem Unit := do let _ ← holding l (runValue (.builtin "proto.let_go" {})); pure ()
noncomputable def flushT (run : List Pr) (main : Option Addr) : Sem (Option Addr) := match main with
  | none => do return some (← subDict run)
  | some d => do
    let sub ← holding [.ref d] (subDict run)
    (holding [.ref d, .ref sub] (mergeMapping d (.ref sub) false)).onRaise fun x => letGo [.ref d, x]
    return some d
noncomputable def endT (m : Option Addr) : Sem Value := match m with | some d => pure (.ref d) | none => newDict
noncomputable def ck (ps : List Pr) (j : Nat) : List Pr := (ps.drop (17 * j)).take 17
noncomputable def ddJ (ps : List Pr) : Nat → Nat → Option Addr → Sem Value
  | 0, j, main => (flushT (ck ps j) main).bind endT
  | n + 1, j, main => (flushT (ck ps j) main).bind fun m => ddJ ps n (j + 1) m
theorem forIn_chunk (f : (Option (Sem Value) × Sem Value) → (Option Addr × List Pr) → Sem (ForInStep (Option Addr × List Pr)))
    (hf : ∀ (p : Pr) (main : Option Addr) (run : List Pr), run.length + 1 < 17 → f (some p.1, p.2) (main, run) = pure (.yield (main, run ++ [p])))
    (hg : ∀ (p : Pr) (main : Option Addr) (run : List Pr), run.length + 1 = 17 → f (some p.1, p.2) (main, run) = (flushT (run ++ [p]) main).bind fun m => pure (.yield (m, []))) (rest : List Pr) :
    ∀ (items run : List Pr) (main : Option Addr), items ≠ [] → run.length + items.length = 17 →
      forIn ((items ++ rest).map fun p => (some p.1, p.2)) (main, run) f = (flushT (run ++ items) main).bind fun m => forIn (rest.map fun p => (some p.1, p.2)) (m, []) f
  | [], _, _, h, _ => absurd rfl h
  | [p], run, main, _, h => by
    rw [List.singleton_append, List.map_cons, List.forIn_cons, hg p main run (by simpa using h)]
    show Sem.bind (Sem.bind _ _) _ = _
    rw [Sem.bind_eq_wrap, Sem.bind_eq_wrap, Sem.wrap_wrap, Sem.bind_eq_wrap]
    rfl
  | p :: q :: items, run, main, _, h => by
    rw [List.cons_append, List.map_cons, List.forIn_cons, hf p main run (by simp at h; omega), pure_bind]
    have := forIn_chunk f hf hg rest (q :: items) (run ++ [p]) main (by simp) (by simp at h ⊢; omega)
    simpa using this
theorem forIn_last (f : (Option (Sem Value) × Sem Value) → (Option Addr × List Pr) → Sem (ForInStep (Option Addr × List Pr)))
    (hf : ∀ (p : Pr) (main : Option Addr) (run : List Pr), run.length + 1 < 17 → f (some p.1, p.2) (main, run) = pure (.yield (main, run ++ [p]))) :
    ∀ (items run : List Pr) (main : Option Addr), run.length + items.length < 17 → forIn (items.map fun p => (some p.1, p.2)) (main, run) f = pure (main, run ++ items)
  | [], run, _, _ => by simp
  | p :: rest, run, main, h => by
    rw [List.map_cons, List.forIn_cons, hf p main run (by simp at h; omega), pure_bind]
    have := forIn_last f hf rest (run ++ [p]) main (by simp at h ⊢; omega)
    simpa using this
theorem dd_all (ps : List Pr) (f : (Option (Sem Value) × Sem Value) → (Option Addr × List Pr) → Sem (ForInStep (Option Addr × List Pr)))
    (hf : ∀ (p : Pr) (main : Option Addr) (run : List Pr), run.length + 1 < 17 → f (some p.1, p.2) (main, run) = pure (.yield (main, run ++ [p])))
    (hg : ∀ (p : Pr) (main : Option Addr) (run : List Pr), run.length + 1 = 17 → f (some p.1, p.2) (main, run) = (flushT (run ++ [p]) main).bind fun m => pure (.yield (m, [])))
    (G : Option Addr × List Pr → Sem Value) (hG : ∀ (main : Option Addr) (run : List Pr), run ≠ [] → G (main, run) = (flushT run main).bind endT) :
    ∀ (n j r : Nat) (main : Option Addr), 0 < r → r < 17 → (ps.drop (17 * j)).length = 17 * n + r →
      (forIn ((ps.drop (17 * j)).map fun p => (some p.1, p.2)) (main, ([] : List Pr)) f).bind G = ddJ ps n j main
  | 0, j, r, main, h0, h1, h => by
    rw [forIn_last f hf _ [] main (by rw [h]; simp; omega)]
    show G (main, [] ++ ps.drop (17 * j)) = (flushT (ck ps j) main).bind endT
    rw [List.nil_append, hG _ _ (by intro q; rw [q] at h; simp at h; omega), show ck ps j = ps.drop (17 * j) from List.take_of_length_le (by omega)]
  | n + 1, j, r, main, h0, h1, h => by
    have e : ps.drop (17 * j) = ck ps j ++ ps.drop (17 * (j + 1)) := by
      unfold ck
      rw [show 17 * (j + 1) = 17 * j + 17 by omega, ← List.drop_drop, List.take_append_drop]
    have hl : (ck ps j).length = 17 := by
      unfold ck
      rw [List.length_take]
      omega
    have h2 : (ps.drop (17 * (j + 1))).length = 17 * n + r := by
      rw [show 17 * (j + 1) = 17 * j + 17 by omega, ← List.drop_drop, List.length_drop]
      omega
    rw [e, forIn_chunk f hf hg _ (ck ps j) [] main (by intro q; rw [q] at hl; cases hl) (by simpa using hl)]
    show Sem.bind (Sem.bind _ _) _ = _
    rw [Sem.bind_eq_wrap, Sem.bind_eq_wrap, Sem.wrap_wrap]
    show _ = (flushT (ck ps j) main).bind fun m => ddJ ps n (j + 1) m
    rw [Sem.bind_eq_wrap]
    refine Sem.wrap_congr _ _ _ (fun m => ?_) fun _ => rfl
    rw [← dd_all ps f hf hg G hG n (j + 1) r m h0 h1 h2, Sem.bind_eq_wrap]
theorem dd_eq (ps : List Pr) (n r : Nat) (h0 : 0 < r) (h1 : r < 17) (h : ps.length = 17 * n + r) : dictDisplay (ps.map fun p => (some p.1, p.2)) = ddJ ps n 0 none := by
  have hne : ∀ (run : List Pr) (p : Pr), (run ++ [p]).isEmpty = false := fun run p => by cases run <;> rfl
  unfold dictDisplay
  dsimp only
  refine dd_all ps _ (fun p main run hl => ?_) (fun p main run hl => ?_) _ (fun main run hr => ?_) n 0 r none h0 h1 (by simpa using h)
  · have : ((run ++ [(p.1, p.2)]).length == 17) = false := by simp; omega
    simp only [this, Bool.false_eq_true, if_false]
  · have : ((run ++ [(p.1, p.2)]).length == 17) = true := by simp; omega
    simp only [this, if_true, hne, Bool.false_eq_true, if_false]
    cases main <;> rfl
  · have : run.isEmpty = false := by cases run with | nil => exact absurd rfl hr | cons => rfl
    simp only [this, Bool.false_eq_true, if_false]
    cases main <;> rfl
noncomputable abbrev prg : Program := Challenge.pw_qu0064_01
noncomputable abbrev hEnv : Env := { scope := prg.main.scope, locals := mainNs, globals := mainNs, cells := [], code := .ref 13, frame := some 14 }
noncomputable abbrev q0 : Pos := ⟨0, 0, 0, 0⟩
noncomputable abbrev B0 : List Frame := [topFrame q0]
noncomputable abbrev hL : List Stmt := behindTheImports prg
noncomputable abbrev hC : Code := Code.body hL hEnv
noncomputable abbrev b3K : List (Option Expr) := d_b3.1.1
noncomputable abbrev b3V : List Expr := d_b3.1.2.1
noncomputable abbrev b3P : Pos := d_b3.1.2.2.1
noncomputable abbrev b3A : Pos := d_b3.1.2.2.2
noncomputable abbrev d_b3t : { p0 : Pos // Challenge.pw_qu0064_01.main.body[3]? = some (Stmt.Assign [Expr.Name "b3_exceptions" p0] (Expr.Dict b3K b3V b3P) b3A) } := ⟨_, rfl⟩
noncomputable abbrev b3T : Expr := Expr.Name "b3_exceptions" d_b3t.1
noncomputable abbrev b3S0 : Stmt := Stmt.Assign [b3T] (Expr.Dict b3K b3V b3P) b3A
noncomputable def b3ps : List Pr := pairTrees b3K b3V hEnv b3P
noncomputable def b3tail (v : Value) : Sem Flow := assignStores hEnv v none ((assignEach [b3T] hEnv).map (·.2))
theorem b3_len : b3ps.length = 17 * 38 + 4 := by
  unfold b3ps
  rw [pairTrees_length _ _ _ _ (by decide +kernel) (by decide +kernel)]
  decide +kernel
theorem exec_b3 : exec b3S0 hEnv = (standAt b3A).bind fun _ => (standAt b3P).bind fun _ => (ddJ b3ps 38 0 none).bind b3tail := by
  rw [arm_exec_Assign, ← dd_eq b3ps 38 4 (by omega) (by omega) b3_len]
  show (standAt b3A).bind (fun _ => (eval (Expr.Dict b3K b3V b3P) hEnv).bind fun v => (swappedStores [b3T] (Expr.Dict b3K b3V b3P) hEnv).bind fun o => assignStores hEnv v o ((assignEach [b3T] hEnv).map (·.2))) = _
  rw [arm_eval_Dict, zip_pairTrees _ _ _ _ (by decide +kernel) (by decide +kernel)]
  rfl
end Mine
end
section
open PySem PySem.W PyProof.Rows PySem.Spec PySem.Calls
set_option Elab.async false
set_option maxRecDepth 100000
namespace Mine
noncomputable abbrev life0 : Life := (Life.mk [] [] [] 0 [] [] Bool.false #[] [] 0 Bool.false Bool.false Bool.false 0 [2000, 10, 10] Bool.false 0 Bool.true [] [] 0 Bool.false)
noncomputable abbrev drawn0 : Drawn := Drawn.mk 0 0 0 0
noncomputable abbrev sT (t : BT) (n k : Nat) (os : OsState) : SharedT := ⟨t, n, life0, #[], drawn0, k, os⟩
noncomputable abbrev tRun (w : World) (N : Nat) (s : SharedT) (t : Thread) : Option Shared := topRun treeTable prg w 11 (some (.ref 6)) N s.abs t
noncomputable def Goes (w : World) (os : OsState) {α : Type} (n : Nat) (x : Sem α) (T : BT) (m k : Nat) (p : Pos) (a : α) (T' : BT) (m' k' : Nat) (p' : Pos) : Prop :=
  ∀ (K : α → Sem Fin) (H : Value → Sem Fin) (gd : Bool → Bool) (lv : List Value → List Value) (N : Nat) (r : Shared),
    tRun w N (sT T' m' k' os) ⟨K a, hC, p', B0⟩ = some r → tRun w (n + N) (sT T m k os) ⟨x.wrap K H gd lv, hC, p, B0⟩ = some r
section
variable {w : World} {os : OsState} {α β : Type} {n n' m m' m'' k k' k'' : Nat} {T T' T'' : BT} {p p' p'' : Pos}
theorem one {t t' : Thread} {s s' : SharedT} {N : Nat} {r : Shared} (hs : stepT (denote treeTable) prg w s t = some (s', t')) (ht : through t = false) (hk : stepOk 11 (some (.ref 6)) t = true)
    (h : tRun w N s' t' = some r) : tRun w (1 + N) s t = some r := by
  show topRun _ _ _ _ _ (1 + N) _ _ = _
  rw [Nat.add_comm]
  unfold topRun
  rw [ht, hk, stepT_spec hs]
  exact h
theorem Goes.pure (a : α) : Goes w os 0 (.pure a) T m k p a T m k p := fun K H gd lv N r h => by rw [Nat.zero_add]; exact h
theorem Goes.bind {x : Sem α} {f : α → Sem β} {a : α} {b : β} (h : Goes w os n x T m k p a T' m' k' p') (h' : Goes w os n' (f a) T' m' k' p' b T'' m'' k'' p'') : Goes w os (n + n') (x.bind f) T m k p b T'' m'' k'' p'' := fun K H gd lv N r e => by
  rw [Sem.bind_eq_wrap, Sem.wrap_wrap, Nat.add_assoc]
  exact h _ _ _ _ _ _ (h' K H gd lv N r e)
theorem Goes.bind' {x : Sem α} {f : α → Sem β} {a : α} {b : β} (h : Goes w os n x T m k p a T' m' k' p') (h' : Goes w os n' (f a) T' m' k' p' b T'' m'' k'' p'') : Goes w os (n + n') (x >>= f) T m k p b T'' m'' k'' p'' := h.bind h'
theorem Goes.keep {x : Sem α} {a : α} {vs : List Value} (h : Goes w os n x T m k p a T' m' k' p') : Goes w os n (x.keep vs) T m k p a T' m' k' p' := fun K H gd lv N r e => by
  rw [Sem.keep_eq_wrap, Sem.wrap_wrap]
  exact h _ _ _ _ _ _ e
theorem Goes.holding {x : Sem α} {a : α} {vs : List Value} (h : Goes w os n x T m k p a T' m' k' p') : Goes w os n (holding vs x) T m k p a T' m' k' p' := by
  unfold PySem.holding
  split
  · exact h
  · exact h.keep
theorem Goes.onRaise {x : Sem α} {a : α} {f : Value → Sem Unit} (h : Goes w os n x T m k p a T' m' k' p') : Goes w os n (x.onRaise f) T m k p a T' m' k' p' := fun K H gd lv N r e => by
  rw [Sem.onRaise_eq_wrap, Sem.wrap_wrap]
  exact h _ _ _ _ _ _ e
theorem Goes.at (q : Pos) : Goes w os 1 (standAt q) T m k p () T m k q := fun K H gd lv N r e => one (hs := by rfl) rfl rfl e
theorem Goes.rule (t : String) : Goes w os 1 (PySem.rule t) T m k p () T m k p := fun K H gd lv N r e => one (hs := by rfl) rfl rfl e
theorem Goes.fresh : Goes w os 1 PySem.fresh T m k p k T m (k + 1) p := fun K H gd lv N r e => one (hs := by rfl) rfl rfl e
theorem Goes.load {a : Addr} {q : Option Value} {o : Obj} (hg : T.get a = some o) (ha : alive o = some o) (hm : Nat.blt a m = true) : Goes w os 1 (loadPart a q) T m k p o T m k p := fun K H gd lv N r e => by
  refine one (t' := ⟨K o, hC, p, B0⟩) (s' := sT T m k os) ?_ rfl rfl e
  show (match Nat.blt a m with | true => _ | false => _) = _
  rw [hm]
  show (match T.get a with | some o => _ | none => _) = _
  rw [hg]
  show (match alive o with | some o' => _ | none => _) = _
  rw [ha]
  rfl
theorem Goes.update {a : Addr} {q : Option Value} {o : Obj} {f : Obj → Obj} (hg : T.get a = some o) (ha : alive o = some o) (hm : Nat.blt a m = true) (hl : Nat.ble 11 a = true) : Goes w os 1 (updatePart a q f) T m k p () (T.set a f) m k p := fun K H gd lv N r e => by
  refine one (t' := ⟨K (), hC, p, B0⟩) (s' := sT (T.set a f) m k os) ?_ rfl ?_ e
  · show (match Nat.blt a m with | true => _ | false => _) = _
    rw [hm]
    show (match T.get a with | some o => _ | none => _) = _
    rw [hg]
    show (match alive o with | some o' => _ | none => _) = _
    rw [ha]
    rfl
  · show (_ && (Nat.ble 11 a || _ || _ || _)) = true
    rw [hl]
    rfl
end
end Mine
end
section
open PySem PySem.W PyProof.Rows PySem.Spec PySem.Calls
set_option Elab.async false
set_option maxRecDepth 100000
namespace Mine
noncomputable abbrev dOb (es : Array DictEntry) (n : Nat) : Obj := ⟨.type "dict", none, .dict es n, #[]⟩
theorem no_places {es : Array DictEntry} {h : Int} (hno : ∀ e ∈ es, e.hash ≠ h) : placesWithHash es.size (fun i => es[i]?.map (·.hash)) h = [] := by
  unfold placesWithHash
  rw [List.filter_eq_nil_iff]
  intro i hi
  rw [List.mem_range] at hi
  show ¬((Option.map (fun x : DictEntry => x.hash) es[i]?) == some h) = true
  rw [Array.getElem?_eq_getElem hi]
  simp only [Option.map_some, beq_iff_eq, Option.some.injEq]
  exact hno _ (Array.getElem_mem hi)
theorem set_congr {o : Obj} {f g : Obj → Obj} (e : f o = g o) : ∀ (T : BT) (d : Nat), T.get d = some o → T.set d f = T.set d g
  | .nil, _, h => by simp [BT.get] at h
  | .node v l r, d, h => by
    unfold BT.get at h
    unfold BT.set
    cases hd : Nat.beq d 0 with
    | true => rw [hd] at h; obtain rfl := Option.some.inj h; show BT.node (f v) l r = BT.node (g v) l r; rw [e]
    | false =>
      rw [hd] at h
      cases hp : Nat.beq (d % 2) 1 with
      | true => rw [hp] at h; show BT.node v (l.set _ f) r = BT.node v (l.set _ g) r; rw [set_congr e l _ h]
      | false => rw [hp] at h; show BT.node v l (r.set _ f) = BT.node v l (r.set _ g); rw [set_congr e r _ h]
theorem set_set (f g : Obj → Obj) : ∀ (T : BT) (d : Nat), (T.set d f).set d g = T.set d fun o => g (f o)
  | .nil, _ => rfl
  | .node v l r, d => by
    conv => lhs; arg 1; unfold BT.set
    conv => rhs; unfold BT.set
    cases hd : Nat.beq d 0 with
    | true => show (BT.node (f v) l r).set d g = _; unfold BT.set; rw [hd]
    | false =>
      cases hp : Nat.beq (d % 2) 1 with
      | true => show (BT.node v (l.set _ f) r).set d g = BT.node v (l.set _ fun o => g (f o)) r; conv => lhs; unfold BT.set
                rw [hd, hp]; show BT.node v ((l.set _ f).set _ g) r = _; rw [set_set f g l]
      | false => show (BT.node v l (r.set _ f)).set d g = BT.node v l (r.set _ fun o => g (f o)); conv => lhs; unfold BT.set
                 rw [hd, hp]; show BT.node v l ((r.set _ f).set _ g) = _; rw [set_set f g r]
theorem set_id : ∀ (T : BT) (d : Nat), (T.set d fun o => o) = T
  | .nil, _ => rfl
  | .node v l r, d => by
    unfold BT.set
    cases hd : Nat.beq d 0 with
    | true => rfl
    | false =>
      cases hp : Nat.beq (d % 2) 1 with
      | true => show BT.node v (l.set _ _) r = _; rw [set_id l]
      | false => show BT.node v l (r.set _ _) = _; rw [set_id r]
section
variable {w : World} {os : OsState} {n n' m m' m'' k k' k'' : Nat} {T T' T'' : BT} {p p' p'' : Pos}
theorem Goes.cast {α : Type} {x : Sem α} {a : α} (e : n = n') (h : Goes w os n x T m k p a T' m' k' p') : Goes w os n' x T m k p a T' m' k' p' := e ▸ h
theorem g_entries {d : Addr} {q : Option Value} {es : Array DictEntry} {e : Nat} (hT : T.get d = some (dOb es e)) (hm : Nat.blt d m = true) : Goes w os 1 (dictEntries d q) T m k p es T m k p :=
  Goes.bind' (n' := 0) (Goes.load hT rfl hm) (Goes.pure es)
theorem g_epoch {d : Addr} {q : Option Value} {es : Array DictEntry} {e : Nat} (hT : T.get d = some (dOb es e)) (hm : Nat.blt d m = true) : Goes w os 1 (dictEpoch d q) T m k p e T m k p :=
  Goes.bind' (n' := 0) (Goes.load hT rfl hm) (Goes.pure e)
theorem g_find {d : Addr} {es : Array DictEntry} {e : Nat} {h i : Int} {t : Tok} (hT : T.get d = some (dOb es e)) (hm : Nat.blt d m = true) (hno : ∀ x ∈ es, x.hash ≠ h) : Goes w os 1 (dictFind d (.int i t) h) T m k p none T m k p := by
  unfold dictFind
  refine Goes.holding (Goes.bind' (n' := 0) (g_entries hT hm) ?_)
  rw [no_places hno]
  exact Goes.pure none
theorem mapKeys_dOb {es : Array DictEntry} {e : Nat} {f : Array DictEntry → Array DictEntry} : Obj.mapDictKeys f (dOb es e) = dOb (f es) (e + 1) := rfl
theorem g_push {d : Addr} {q : Option Value} {es : Array DictEntry} {e : Nat} {f : Array DictEntry → Array DictEntry} (hT : T.get d = some (dOb es e)) (hm : Nat.blt d m = true) (hl : Nat.ble 11 d = true) (hsz : (f es).size ≤ sizeLine) :
    Goes w os 3 (updateDictKeys d f q) T m k p () (T.set d fun _ => dOb (f es) (e + 1)) m k p := by
  have hset : T.set d (Obj.mapDictKeys f) = T.set d fun _ => dOb (f es) (e + 1) := set_congr (o := dOb es e) (f := Obj.mapDictKeys f) (g := fun _ => dOb (f es) (e + 1)) rfl T d hT
  unfold updateDictKeys
  refine Goes.bind' (n := 1) (n' := 2) (Goes.load hT rfl hm) ?_
  refine Goes.bind' (n := 1) (n' := 1) (Goes.update hT rfl hm hl) ?_
  have hT' : (T.set d (Obj.mapDictKeys f)).get d = some (dOb (f es) (e + 1)) := by rw [BT.get_set, if_pos rfl, hT]; rfl
  rw [← hset]
  unfold lookBehind
  refine Goes.bind' (n := 1) (n' := 0) (Goes.load hT' rfl hm) ?_
  rw [show (dOb (f es) (e + 1)).data.pastItsLine = none from pastItsLine_dict (Nat.le_succ_of_le hsz)]
  exact Goes.pure ()
theorem g_put {d : Addr} {es : Array DictEntry} {e : Nat} {h i : Int} {t : Tok} {v : Value} (hT : T.get d = some (dOb es e)) (hm : Nat.blt d m = true) (hl : Nat.ble 11 d = true) (hno : ∀ x ∈ es, x.hash ≠ h) (hsz : es.size < sizeLine) :
    Goes w os 4 (dictPut d h (.int i t) v) T m k p () (T.set d fun _ => dOb (es.push ⟨h, .int i t, v⟩) (e + 1)) m k p := by
  unfold dictPut
  exact Goes.bind' (n := 1) (n' := 3) (g_find hT hm hno) (g_push (f := fun es => es.push ⟨h, .int i t, v⟩) hT hm hl (by rw [Array.size_push]; exact hsz))
theorem g_forIn {c : Nat} {body : Nat → PUnit → Sem (ForInStep PUnit)} (S : Nat → BT) : ∀ (l s : Nat), (∀ i, s ≤ i → i < s + l → Goes w os c (body i ()) (S i) m k p (.yield ()) (S (i + 1)) m k p) →
    Goes w os (c * l) (forIn (List.range' s l) PUnit.unit body) (S s) m k p () (S (s + l)) m k p
  | 0, s, _ => Goes.pure ()
  | l + 1, s, h => by
    rw [List.range'_succ, List.forIn_cons, show c * (l + 1) = c + c * l by rw [Nat.mul_succ, Nat.add_comm], show s + (l + 1) = s + 1 + l by omega]
    exact Goes.bind' (h s (Nat.le_refl _) (by omega)) (g_forIn S l (s + 1) fun i h1 h2 => h i (by omega) (by omega))
noncomputable def Apart (es : Array DictEntry) : List DictEntry → Prop
  | [] => True
  | e :: r => (∃ i t, e.key = .int i t) ∧ (∀ x ∈ es, x.hash ≠ e.hash) ∧ Apart (es.push e) r
theorem Apart.at {l : List DictEntry} : ∀ {es : Array DictEntry}, Apart es l → ∀ i (h : i < l.length), (∃ j t, l[i].key = .int j t) ∧ ∀ x ∈ es ++ (l.take i).toArray, x.hash ≠ l[i].hash := by
  induction l with
  | nil => intro es _ i h; cases h
  | cons e r ih =>
    intro es h i hi
    obtain ⟨h1, h2, h3⟩ := h
    cases i with
    | zero => exact ⟨h1, by simpa using h2⟩
    | succ i =>
      have := ih h3 i (by simpa using hi)
      simpa using this
theorem g_merge {d a : Addr} {es : Array DictEntry} {l : List DictEntry} {e e1 : Nat} (hT : T.get d = some (dOb es e)) (hTa : T.get a = some (dOb l.toArray e1)) (hda : d ≠ a) (hm : Nat.blt d m = true) (hma : Nat.blt a m = true) (hl : Nat.ble 11 d = true) (hl1 : Nat.ble 11 a = true)
    (hne : es.isEmpty = false) (hap : Apart es l) (hsz : es.size + l.length < sizeLine)
    {c1 c2 : Nat} (hI : Goes w os c1 (PySem.isInstance (.ref a) (.type "dict")) T m k p true T m k p) (hS : Goes w os c2 (specialOf (.ref a) "__iter__") T m k p (some (.builtin "dict.__iter__")) T m k p) :
    Goes w os (c1 + (c2 + (3 + 6 * l.length))) (mergeMapping d (.ref a) false) T m k p () (T.set d fun _ => dOb (es ++ l.toArray) (e + l.length)) m k p := by
  unfold mergeMapping
  dsimp only
  refine Goes.bind' hI ?_
  rw [if_pos rfl]
  refine Goes.bind' hS ?_
  rw [pure_bind]
  simp only [beq_self_eq_true]
  have hsm : (a == sysModules) = false := by
    rw [beq_eq_false_iff_ne]
    intro q
    subst q
    cases hl1
  simp only [hsm, Bool.false_eq_true, if_false]
  refine Goes.cast (n := 1 + (1 + (1 + (6 * l.length + 0)))) (by omega) ?_
  refine Goes.bind' (g_entries hT hm) ?_
  simp only [hne, Bool.false_eq_true, if_false]
  refine Goes.bind' (g_entries hTa hma) ?_
  refine Goes.bind' (g_epoch hTa hma) ?_
  have hr : List.range l.toArray.size = List.range' 0 l.length := by rw [List.size_toArray, List.range_eq_range']
  rw [hr]
  let S : Nat → BT := fun i => T.set d fun _ => dOb (es ++ (l.take i).toArray) (e + i)
  have h0 : S 0 = T := by
    show T.set d _ = T
    rw [set_congr (o := dOb es e) (g := fun o => o) (by simp) T d hT]
    exact set_id T d
  have hs : S (0 + l.length) = T.set d fun _ => dOb (es ++ l.toArray) (e + l.length) := by
    show T.set d _ = _
    rw [Nat.zero_add, List.take_length]
  rw [← hs]
  conv => arg 5; rw [← h0]
  refine Goes.bind' (g_forIn S l.length 0 fun i _ hi => ?_) (Goes.pure ())
  rw [Nat.zero_add] at hi
  obtain ⟨⟨j, t, hk⟩, hno⟩ := hap.at i hi
  have hSa : (S i).get a = some (dOb l.toArray e1) := by rw [BT.get_set, if_neg (Ne.symm hda)]; exact hTa
  have hSd : (S i).get d = some (dOb (es ++ (l.take i).toArray) (e + i)) := by rw [BT.get_set, if_pos rfl, hT]; rfl
  refine Goes.cast (n := 1 + (4 + (1 + 0))) (by omega) ?_
  refine Goes.bind' (g_entries hSa hma) ?_
  rw [show l.toArray[i]? = some l[i] by simp [hi]]
  dsimp only
  rw [hk]
  have hS1 : S (i + 1) = (S i).set d fun _ => dOb ((es ++ (l.take i).toArray).push ⟨l[i].hash, .int j t, l[i].val⟩) (e + i + 1) := by
    show T.set d _ = (T.set d _).set d _
    rw [set_set]
    have : es ++ (l.take (i + 1)).toArray = (es ++ (l.take i).toArray).push ⟨l[i].hash, .int j t, l[i].val⟩ := by
      rw [← hk, List.take_succ_eq_append_getElem hi]
      apply Array.ext'
      simp only [Array.toList_append, Array.toList_push, List.append_assoc]
    rw [this]
    rfl
  have hsz' : (es ++ (l.take i).toArray).size < sizeLine := by
    have : (es ++ (l.take i).toArray).size = es.size + (l.take i).length := by rw [Array.size_append]; rfl
    rw [this, List.length_take]
    omega
  refine Goes.bind' (T' := S (i + 1)) (Goes.holding (hS1 ▸ g_put hSd hm hl hno hsz')) ?_
  have hSa' : (S (i + 1)).get a = some (dOb l.toArray e1) := by rw [BT.get_set, if_neg (Ne.symm hda)]; exact hTa
  refine Goes.bind' (g_epoch hSa' hma) ?_
  rw [bne_self_eq_false, if_neg Bool.false_ne_true]
  exact Goes.pure _
end
end Mine
end
section
open PySem PySem.W PyProof.Rows PySem.Spec PySem.Calls
set_option Elab.async false
set_option maxRecDepth 100000
namespace Mine
noncomputable abbrev SegGo (w : World) (os : OsState) (gd : Bool → Bool) (lv : List Value → List Value) {α : Type} (res : α → Flow) (n : Nat) (x : Sem α) (T : BT) (m k : Nat) (p : Pos) (a : α) (T' : BT) (m' k' : Nat) (p' : Pos) : Prop :=
  segRunT treeTable prg w 11 (some (.ref 6)) 1 n (sT T m k os) ⟨x.wrap (fun a => .pure (.done (res a))) deadEnd gd lv, hC, p, B0⟩ = some (res a, sT T' m' k' os, hC, p')
theorem goes_of_seg {w : World} {os : OsState} {α : Type} {res : α → Flow} {n : Nat} {x : Sem α} {T : BT} {m k : Nat} {p : Pos} {a : α} {T' : BT} {m' k' : Nat} {p' : Pos}
    (hinj : ∀ a', res a' = res a → a' = a) (h : ∀ gd lv, SegGo w os gd lv res n x T m k p a T' m' k' p') : Goes w os n x T m k p a T' m' k' p' := fun K H gd lv N r e => by
  obtain ⟨a', ha, hN⟩ := seg_top (res := res) (K' := K) (H' := H) (B := B0) (gd := gd) (lv := lv) rfl n _ ⟨x.wrap (fun a => .pure (.done (res a))) deadEnd gd lv, hC, p, B0⟩ ⟨x.wrap K H gd lv, hC, p, B0⟩ _ _ _ _ ⟨rfl, rfl, .inl ⟨rfl, rfl, x, rfl, rfl⟩⟩ (segRun_of (h gd lv))
  obtain rfl := hinj a' ha
  exact hN N r e
noncomputable abbrev o2 : Obj := Obj.mk Value.none (Option.none) (Data.dict #[] 0) #[]
noncomputable def resOV : Option Value → Flow := fun a => match a with | some v => .ret v | none => .next
noncomputable def resU : Unit → Flow := fun _ => .next
noncomputable abbrev hashCall (i : Int) (t : Tok) : Sem (Option Value) := callSpecialIfBoundUnlessNone? (.int i t) "__hash__" (do PySem.rule "hash.unhashable"; raiseError "TypeError" s!"unhashable type: '{← typeNameOf (.int i t)}'")
theorem resOV_inj {a b : Option Value} (h : resOV a = resOV b) : a = b := by
  cases a <;> cases b <;> simp_all [resOV]
section
variable {os : OsState} {gd : Bool → Bool} {lv : List Value → List Value} {T : BT} {m k : Nat} {p : Pos} {i : Int} {t : Tok}
theorem hash_f (w : World) : SegGo (w.withFollow "special-get-raises" false) os gd lv resOV 100 (hashCall i t) T m k p (some (.int (rawHash i) k)) T m (k + 1) p := by
  unfold SegGo
  rw [PySem.W.Fast.te10110043849684766642, PySem.W.Fast.te14364793385576792824]
  kernel_rfl
theorem hash_t (w : World) : SegGo (w.withFollow "special-get-raises" true) os gd lv resOV 100 (hashCall i t) T m k p (some (.int (rawHash i) k)) T m (k + 1) p := by
  unfold SegGo
  rw [PySem.W.Fast.te10110043849684766642, PySem.W.Fast.te14364793385576792824]
  kernel_rfl
theorem g_hashCall {w : World} : Goes w os 100 (hashCall i t) T m k p (some (.int (rawHash i) k)) T m (k + 1) p :=
  goes_of_seg (res := resOV) (fun _ h => resOV_inj h) fun gd lv => byRow2 "special-get-raises" (P := fun w => SegGo w os gd lv resOV 100 (hashCall i t) T m k p (some (.int (rawHash i) k)) T m (k + 1) p) hash_f hash_t w
end
end Mine
end
section
open PySem PySem.W PyProof.Rows PySem.Spec PySem.Calls
set_option Elab.async false
set_option maxRecDepth 100000
namespace Mine
noncomputable def resB : Bool → Flow := fun b => match b with | true => .ret .none | false => .next
theorem resB_inj {a b : Bool} (h : resB a = resB b) : a = b := by cases a <;> cases b <;> simp_all [resB]
section
variable {w : World} {os : OsState} {gd : Bool → Bool} {lv : List Value → List Value} {T : BT} {m k : Nat} {p : Pos} {i : Int} {t : Tok} {a : Addr} {o : Obj}
theorem seg_dd : SegGo w os gd lv resB 20 (isSubtype (.type "dict") (.type "dict")) T m k p true T m k p := by
  unfold SegGo
  rw [PySem.W.Fast.te10110043849684766642, PySem.W.Fast.te14364793385576792824]
  kernel_rfl
theorem seg_it : SegGo w os gd lv resOV 20 (typeLookup (.type "dict") "__iter__") T m k p (some (.builtin "dict.__iter__")) T m k p := by
  unfold SegGo
  rw [PySem.W.Fast.te10110043849684766642, PySem.W.Fast.te14364793385576792824]
  kernel_rfl
theorem seg_hs : SegGo w os gd lv resOV 20 (specialOf (.int i t) "__hash__") T m k p (some (.builtin "int.__hash__")) T m k p := by
  unfold SegGo
  rw [PySem.W.Fast.te10110043849684766642, PySem.W.Fast.te14364793385576792824]
  kernel_rfl
theorem g_typeOf {es : Array DictEntry} {e : Nat} (hg : T.get a = some (dOb es e)) (hm : Nat.blt a m = true) : Goes w os 1 (typeOf (.ref a)) T m k p (.type "dict") T m k p :=
  Goes.bind' (n := 1) (n' := 0) (Goes.load hg rfl hm) (Goes.pure _)
theorem g_isDict {es : Array DictEntry} {e : Nat} (hg : T.get a = some (dOb es e)) (hm : Nat.blt a m = true) : Goes w os 21 (PySem.isInstance (.ref a) (.type "dict")) T m k p true T m k p :=
  Goes.bind' (n := 1) (n' := 20) (g_typeOf hg hm) (goes_of_seg (res := resB) (fun _ h => resB_inj h) fun _ _ => seg_dd)
theorem g_iter {es : Array DictEntry} {e : Nat} (hg : T.get a = some (dOb es e)) (hm : Nat.blt a m = true) : Goes w os 21 (specialOf (.ref a) "__iter__") T m k p (some (.builtin "dict.__iter__")) T m k p :=
  Goes.bind' (n := 1) (n' := 20) (g_typeOf hg hm) (goes_of_seg (res := resOV) (fun _ h => resOV_inj h) fun _ _ => seg_it)
theorem g_reduced : Goes w os 0 (pyHashByItsType.reduced (rawHash i)) T m k p (hashInt i) T m k p := by
  unfold pyHashByItsType.reduced
  obtain ⟨h1, h2⟩ := rawHash_range i
  have : (decide (-(2 ^ 63 : Int) ≤ rawHash i) && decide (rawHash i < 2 ^ 63)) = true := by
    simp only [Bool.and_eq_true, decide_eq_true_eq]
    exact ⟨h1, h2⟩
  rw [if_pos this]
  exact Goes.pure _
theorem g_hash : Goes w os 140 (pyHash (.int i t)) T m k p (hashInt i) T m (k + 1) p := by
  show Goes w os 140 (pyHashByItsType (.int i t)) T m k p (hashInt i) T m (k + 1) p
  unfold pyHashByItsType
  have hs : Goes w os 20 (specialOf (.int i t) "__hash__") T m k p (some (.builtin "int.__hash__")) T m k p := goes_of_seg (res := resOV) (fun _ h => resOV_inj h) fun _ _ => seg_hs
  refine Goes.bind' (n := 0) (n' := 140) (a := ()) (T' := T) (m' := m) (k' := k) (p' := p) (Goes.pure ()) ?_
  refine Goes.bind' (n := 20) (n' := 120) hs ?_
  refine Goes.bind' (n := 20) (n' := 100) hs ?_
  exact Goes.bind' (n := 100) (n' := 0) g_hashCall g_reduced
theorem g_set {d : Addr} {es : Array DictEntry} {e : Nat} {v : Value} (hT : T.get d = some (dOb es e)) (hm : Nat.blt d m = true) (hl : Nat.ble 11 d = true) (hno : ∀ x ∈ es, x.hash ≠ hashInt i) (hsz : es.size < sizeLine) :
    Goes w os 145 (dictSet d (.int i t) v) T m k p () (T.set d fun _ => dOb (es.push ⟨hashInt i, .int i t, v⟩) (e + 1)) m (k + 1) p := by
  unfold dictSet
  refine Goes.holding (Goes.bind' (n := 140) (n' := 5) g_hash ?_)
  unfold dictSetHashed
  refine Goes.holding (Goes.bind' (n := 1) (n' := 4) (g_find hT hm hno) ?_)
  refine Goes.bind' (n := 1) (n' := 3) (Goes.rule _) ?_
  exact g_push (f := fun es => es.push ⟨hashInt i, .int i t, v⟩) hT hm hl (by rw [Array.size_push]; exact hsz)
end
end Mine
end
section
open PySem PySem.W PyProof.Rows PySem.Spec PySem.Calls
set_option Elab.async false
set_option maxRecDepth 100000
namespace Mine
noncomputable def okP : Option Expr → Expr → Bool
  | some (.Constant (.int _) _ _), .Constant (.str _) _ _ => true
  | _, _ => false
noncomputable def okL : List (Option Expr) → List Expr → Bool
  | [], [] => true
  | k :: ks, v :: vs => okP k v && okL ks vs
  | _, _ => false
noncomputable def entE (t u : Nat) : Option Expr → Expr → DictEntry
  | some (.Constant (.int i) _ _), .Constant (.str x) _ _ => ⟨hashInt i, .int i t, .str x u⟩
  | _, _ => ⟨0, .none, .none⟩
noncomputable def entL (c : Nat) : Nat → List (Option Expr) → List Expr → List DictEntry
  | t, k :: ks, v :: vs => entE t (t + 1) k v :: entL c (t + c) ks vs
  | _, _, _ => []
section
variable {w : World} {os : OsState} {T : BT} {m k : Nat} {p q : Pos}
theorem entL_length {c : Nat} : ∀ (ks : List (Option Expr)) (vs : List Expr) (t : Nat), okL ks vs = true → (entL c t ks vs).length = ks.length
  | [], vs, _, _ => by cases vs <;> rfl
  | _ :: _, [], _, h => by cases h
  | k :: ks, v :: vs, t, h => by
    obtain ⟨_, h2⟩ := Bool.and_eq_true_iff.mp (show (okP k v && okL ks vs) = true from h)
    show (_ :: entL c _ ks vs).length = _
    rw [List.length_cons, entL_length ks vs _ h2, List.length_cons]
theorem okL_some : ∀ (ks : List (Option Expr)) (vs : List Expr), okL ks vs = true → ks.all (·.isSome) = true
  | [], _, _ => rfl
  | _ :: _, [], h => by cases h
  | k :: ks, v :: vs, h => by
    obtain ⟨h1, h2⟩ := Bool.and_eq_true_iff.mp (show (okP k v && okL ks vs) = true from h)
    rw [List.all_cons, okL_some ks vs h2, Bool.and_true]
    cases k with
    | none => cases h1
    | some => rfl
theorem okL_len : ∀ (ks : List (Option Expr)) (vs : List Expr), okL ks vs = true → ks.length = vs.length
  | [], [], _ => rfl
  | [], _ :: _, h => by cases h
  | _ :: _, [], h => by cases h
  | k :: ks, v :: vs, h => by
    obtain ⟨h1, h2⟩ := Bool.and_eq_true_iff.mp (show (okP k v && okL ks vs) = true from h)
    rw [List.length_cons, List.length_cons, okL_len ks vs h2]
theorem Goes.alloc {o : Obj} (h : ((T.ins m o).get m).isSome = true) : Goes w os 1 (PySem.alloc o) T m k p m (T.ins m o) (m + 1) k p := fun K H gd lv N r e => by
  refine one (t' := ⟨K m, hC, p, B0⟩) (s' := sT (T.ins m o) (m + 1) k os) ?_ rfl rfl e
  show (match ((T.ins m o).get m).isSome with | true => _ | false => _) = _
  rw [h]
  rfl
theorem Goes.more {α : Type} {n c : Nat} {x : Sem α} {a : α} {T' : BT} {m' k' : Nat} {p' : Pos} (h : Goes w os n x T m k p a T' m' k' p') : Goes w os (n + c) x T m k p a T' m' k' p' := fun K H gd lv N r e => by
  have := topRun_mono c _ _ _ _ (h K H gd lv N r e)
  rw [show n + N + c = n + c + N by omega] at this
  exact this
theorem g_key {i : Int} {q : Pos} {env : Env} {s0 : Nat} : Goes w os 1 (eval (.Constant (.int i) s0 q) env) T m k p (.int i k) T m (k + 1) p := by
  rw [arm_eval_Constant]
  exact Goes.bind' (n := 1) (n' := 0) Goes.fresh (Goes.pure _)
theorem g_val {x : Str} {q q1 : Pos} {env : Env} {s0 : Nat} : Goes w os 2 (do let v ← eval (.Constant (.str x) s0 q1) env; standAt q; Pure.pure v) T m k p (.str x k) T m (k + 1) q := by
  rw [arm_eval_Constant]
  refine Goes.bind' (n := 1) (n' := 1) (Goes.bind' (n := 1) (n' := 0) Goes.fresh (Goes.pure _)) ?_
  exact Goes.bind' (n := 1) (n' := 0) (Goes.at q) (Goes.pure _)
theorem entL_cons {c t : Nat} {k : Option Expr} {v : Expr} {ks : List (Option Expr)} {vs : List Expr} : entL c t (k :: ks) (v :: vs) = entE t (t + 1) k v :: entL c (t + c) ks vs := rfl
theorem g_longLoop {d : Addr} {env : Env} (hm : Nat.blt d m = true) (hl : Nat.ble 11 d = true) (body : Pr → PUnit → Sem (ForInStep PUnit))
    (hb : ∀ x u, body x u = (do let kv ← x.1; let vv ← holding [kv] x.2; holding [kv, vv] (dictSet d kv vv); Pure.pure (.yield PUnit.unit))) :
    ∀ (ks : List (Option Expr)) (vs : List Expr) (T : BT) (k : Nat) (es : Array DictEntry) (e : Nat), okL ks vs = true → T.get d = some (dOb es e) → Apart es (entL 3 k ks vs) → es.size + ks.length ≤ sizeLine →
      Goes w os (148 * ks.length) (forIn (pairTrees ks vs env q) PUnit.unit body) T m k q PUnit.unit (T.set d fun _ => dOb (es ++ (entL 3 k ks vs).toArray) (e + ks.length)) m (k + 3 * ks.length) q
  | [], [], T, k, es, e, _, hT, _, _ => by
    have : T.set d (fun _ => dOb (es ++ (entL 3 k [] []).toArray) (e + 0)) = T := by
      rw [set_congr (o := dOb es e) (g := fun o => o) (by simp [entL]) T d hT]
      exact set_id T d
    show Goes w os 0 (Pure.pure PUnit.unit) T m k q PUnit.unit (T.set d fun _ => dOb (es ++ (entL 3 k [] []).toArray) (e + 0)) m k q
    rw [this]
    exact Goes.pure _
  | [], _ :: _, _, _, _, _, h, _, _, _ => by cases h
  | _ :: _, [], _, _, _, _, h, _, _, _ => by cases h
  | kx :: ks, vx :: vs, T, k, es, e, h, hT, hap, hsz => by
    obtain ⟨h1, h2⟩ := Bool.and_eq_true_iff.mp (show (okP kx vx && okL ks vs) = true from h)
    unfold okP at h1
    split at h1
    case h_2 => cases h1
    rename_i i s0 q0 x s1 q1
    rw [entL_cons] at hap
    obtain ⟨_, a2, a3⟩ := hap
    rw [List.length_cons] at hsz
    rw [pairTrees, List.forIn_cons, hb]
    rw [List.length_cons, show 148 * (ks.length + 1) = 148 + 148 * ks.length by omega, show k + 3 * (ks.length + 1) = k + 3 + 3 * ks.length by omega, show e + (ks.length + 1) = e + 1 + ks.length by omega]
    refine Goes.bind' (n := 148) (n' := 148 * ks.length) (T' := T.set d fun _ => dOb (es.push (entE k (k + 1) (some (.Constant (.int i) s0 q0)) (.Constant (.str x) s1 q1))) (e + 1)) (m' := m) (k' := k + 3) (p' := q) (a := .yield PUnit.unit) ?_ ?_
    · refine Goes.cast (n := 1 + (2 + (145 + 0))) (by omega) ?_
      refine Goes.bind' (g_key (i := i) (q := q0) (env := env) (s0 := s0)) ?_
      refine Goes.bind' (Goes.holding (g_val (x := x) (q := q) (q1 := q1) (env := env) (s0 := s1))) ?_
      exact Goes.bind' (a := ()) (p' := q) (Goes.holding (g_set hT hm hl a2 (by omega))) (Goes.pure _)
    · have hT' : (T.set d fun _ => dOb (es.push (entE k (k + 1) (some (.Constant (.int i) s0 q0)) (.Constant (.str x) s1 q1))) (e + 1)).get d = some (dOb (es.push (entE k (k + 1) (some (.Constant (.int i) s0 q0)) (.Constant (.str x) s1 q1))) (e + 1)) := by rw [BT.get_set, if_pos rfl, hT]; rfl
      have := g_longLoop (env := env) hm hl body hb ks vs _ (k + 3) _ _ h2 hT' a3 (by rw [Array.size_push]; omega)
      rw [set_set] at this
      rw [entL_cons]
      have he : es ++ (entE k (k + 1) (some (.Constant (.int i) s0 q0)) (.Constant (.str x) s1 q1) :: entL 3 (k + 3) ks vs).toArray = es.push (entE k (k + 1) (some (.Constant (.int i) s0 q0)) (.Constant (.str x) s1 q1)) ++ (entL 3 (k + 3) ks vs).toArray := by
        apply Array.ext'
        simp
      rw [he]
      exact this
theorem g_subLong {ks : List (Option Expr)} {vs : List Expr} {env : Env} (hins : ((T.ins m (dOb #[] 0)).get m).isSome = true) (hm : Nat.ble 11 m = true) (hok : okL ks vs = true) (hlen : 15 < ks.length) (hap : Apart #[] (entL 3 k ks vs)) (hsz : ks.length ≤ sizeLine) :
    Goes w os (2 + 148 * ks.length) (subDict (pairTrees ks vs env q)) T m k q m ((T.ins m (dOb #[] 0)).set m fun _ => dOb (entL 3 k ks vs).toArray ks.length) (m + 1) (k + 3 * ks.length) q := by
  have hg : (T.ins m (dOb #[] 0)).get m = some (dOb #[] 0) := by rw [BT.get_ins _ _ _ hins, if_pos rfl]
  have hb : Nat.blt m (m + 1) = true := Nat.blt_eq.mpr (Nat.lt_succ_self m)
  unfold subDict
  refine Goes.cast (n := 1 + ((1 + (148 * ks.length + 0)) + 0)) (by omega) ?_
  refine Goes.bind' (Goes.alloc hins) ?_
  refine Goes.bind' (a := ()) (Goes.holding ?_) (Goes.pure _)
  rw [if_neg (by rw [pairTrees_length _ _ _ _ (okL_some ks vs hok) (okL_len ks vs hok)]; omega)]
  refine Goes.bind' (Goes.rule _) ?_
  have := g_longLoop (w := w) (os := os) (q := q) (env := env) hb hm (fun x _ => (do let kv ← x.1; let vv ← holding [kv] x.2; holding [kv, vv] (dictSet m kv vv); Pure.pure (.yield PUnit.unit))) (fun _ _ => rfl) ks vs _ k #[] 0 hok hg hap (by simpa using hsz)
  rw [show (#[] : Array DictEntry) ++ (entL 3 k ks vs).toArray = (entL 3 k ks vs).toArray by simp, Nat.zero_add] at this
  exact Goes.bind' this (Goes.pure _)
theorem g_pairs {env : Env} : ∀ (ks : List (Option Expr)) (vs : List Expr) (k : Nat), okL ks vs = true →
    Goes w os (3 * ks.length) (evalPairs (pairTrees ks vs env q)) T m k q ((entL 2 k ks vs).map fun e => (e.key, e.val)) T m (k + 2 * ks.length) q
  | [], [], _, _ => Goes.pure _
  | [], _ :: _, _, h => by cases h
  | _ :: _, [], _, h => by cases h
  | kx :: ks, vx :: vs, k, h => by
    obtain ⟨h1, h2⟩ := Bool.and_eq_true_iff.mp (show (okP kx vx && okL ks vs) = true from h)
    unfold okP at h1
    split at h1
    case h_2 => cases h1
    rename_i i s0 q0 x s1 q1
    rw [entL_cons, pairTrees, evalPairs, List.length_cons, show k + 2 * (ks.length + 1) = k + 2 + 2 * ks.length by omega]
    refine Goes.cast (n := 1 + (2 + (3 * ks.length + 0))) (by omega) ?_
    refine Goes.bind' (g_key (i := i) (q := q0) (env := env) (s0 := s0)) ?_
    refine Goes.bind' (Goes.holding (g_val (x := x) (q := q) (q1 := q1) (env := env) (s0 := s1))) ?_
    exact Goes.bind' (Goes.holding (g_pairs ks vs (k + 2) h2)) (Goes.pure _)
noncomputable def retok (e : DictEntry) : Bool := match e.key with | .int i _ => e.hash == hashInt i | _ => false
theorem g_shortLoop {d : Addr} (hm : Nat.blt d m = true) (hl : Nat.ble 11 d = true) (body : Value × Value → PUnit → Sem (ForInStep PUnit))
    (hb : ∀ x u, body x u = (do dictSet d x.1 x.2; Pure.pure (.yield PUnit.unit))) :
    ∀ (l : List DictEntry) (T : BT) (k : Nat) (es : Array DictEntry) (e : Nat), l.all retok = true → T.get d = some (dOb es e) → Apart es l → es.size + l.length ≤ sizeLine →
      Goes w os (145 * l.length) (forIn (l.map fun e => (e.key, e.val)) PUnit.unit body) T m k q PUnit.unit (T.set d fun _ => dOb (es ++ l.toArray) (e + l.length)) m (k + l.length) q
  | [], T, k, es, e, _, hT, _, _ => by
    have : T.set d (fun _ => dOb (es ++ ([] : List DictEntry).toArray) (e + 0)) = T := by
      rw [set_congr (o := dOb es e) (g := fun o => o) (by simp) T d hT]
      exact set_id T d
    show Goes w os 0 (Pure.pure PUnit.unit) T m k q PUnit.unit (T.set d fun _ => dOb (es ++ ([] : List DictEntry).toArray) (e + 0)) m k q
    rw [this]
    exact Goes.pure _
  | x :: l, T, k, es, e, h, hT, hap, hsz => by
    rw [List.all_cons] at h
    obtain ⟨h1, h2⟩ := Bool.and_eq_true_iff.mp h
    unfold retok at h1
    split at h1
    case h_2 => cases h1
    rename_i i t hk
    have h1 : x.hash = hashInt i := by simpa using h1
    obtain ⟨_, a2, a3⟩ := hap
    rw [List.length_cons] at hsz
    rw [List.map_cons, List.forIn_cons, hb]
    rw [List.length_cons, show 145 * (l.length + 1) = 145 + 145 * l.length by omega, show k + (l.length + 1) = k + 1 + l.length by omega, show e + (l.length + 1) = e + 1 + l.length by omega]
    have hx : x = ⟨hashInt i, .int i t, x.val⟩ := by rw [← h1, ← hk]
    have hT' : (T.set d fun _ => dOb (es.push x) (e + 1)).get d = some (dOb (es.push x) (e + 1)) := by rw [BT.get_set, if_pos rfl, hT]; rfl
    refine Goes.bind' (n := 145) (n' := 145 * l.length) (T' := T.set d fun _ => dOb (es.push x) (e + 1)) (m' := m) (k' := k + 1) (p' := q) (a := .yield PUnit.unit) ?_ ?_
    · refine Goes.bind' (n := 145) (n' := 0) (a := ()) ?_ (Goes.pure _)
      dsimp only
      rw [hk, hx]
      exact g_set hT hm hl (by rw [← h1]; exact a2) (by omega)
    · have := g_shortLoop hm hl body hb l _ (k + 1) _ _ h2 hT' a3 (by rw [Array.size_push]; omega)
      rw [set_set] at this
      have he : es ++ (x :: l).toArray = es.push x ++ l.toArray := by
        apply Array.ext'
        simp
      rw [he]
      exact this
theorem entL_retok {c : Nat} : ∀ (ks : List (Option Expr)) (vs : List Expr) (t : Nat), okL ks vs = true → (entL c t ks vs).all retok = true
  | [], vs, _, _ => by cases vs <;> rfl
  | _ :: _, [], _, h => by cases h
  | k :: ks, v :: vs, t, h => by
    obtain ⟨h1, h2⟩ := Bool.and_eq_true_iff.mp (show (okP k v && okL ks vs) = true from h)
    rw [entL_cons, List.all_cons, entL_retok ks vs _ h2, Bool.and_true]
    unfold okP at h1
    split at h1
    case h_2 => cases h1
    show (hashInt _ == hashInt _) = true
    exact beq_self_eq_true _
theorem g_subShort {ks : List (Option Expr)} {vs : List Expr} {env : Env} (hins : ((T.ins m (dOb #[] 0)).get m).isSome = true) (hm : Nat.ble 11 m = true) (hok : okL ks vs = true) (hlen : ks.length ≤ 15) (hap : Apart #[] (entL 2 k ks vs)) (hsz : ks.length ≤ sizeLine) :
    Goes w os (2 + 148 * ks.length) (subDict (pairTrees ks vs env q)) T m k q m ((T.ins m (dOb #[] 0)).set m fun _ => dOb (entL 2 k ks vs).toArray ks.length) (m + 1) (k + 3 * ks.length) q := by
  have hg : (T.ins m (dOb #[] 0)).get m = some (dOb #[] 0) := by rw [BT.get_ins _ _ _ hins, if_pos rfl]
  have hb : Nat.blt m (m + 1) = true := Nat.blt_eq.mpr (Nat.lt_succ_self m)
  unfold subDict
  refine Goes.cast (n := 1 + ((3 * ks.length + (145 * ks.length + 0)) + 1)) (by omega) ?_
  refine Goes.bind' (Goes.alloc hins) ?_
  refine Goes.bind' (n' := 1) (a := ()) (Goes.holding ?_) (Goes.cast (n := 0 + 1) rfl (Goes.more (Goes.pure _)))
  rw [if_pos (by rw [pairTrees_length _ _ _ _ (okL_some ks vs hok) (okL_len ks vs hok)]; exact hlen)]
  refine Goes.bind' (g_pairs ks vs k hok) ?_
  refine Goes.holding ?_
  have := g_shortLoop (w := w) (os := os) (q := q) hb hm (fun x _ => (do dictSet m x.1 x.2; Pure.pure (.yield PUnit.unit))) (fun _ _ => rfl) (entL 2 k ks vs) _ (k + 2 * ks.length) #[] 0 (entL_retok ks vs k hok) hg hap (by rw [entL_length _ _ _ hok]; simpa using hsz)
  rw [show (#[] : Array DictEntry) ++ (entL 2 k ks vs).toArray = (entL 2 k ks vs).toArray by simp, Nat.zero_add, entL_length _ _ _ hok, show k + 2 * ks.length + ks.length = k + 3 * ks.length by omega] at this
  exact Goes.bind' this (Goes.pure _)
end
end Mine
end
section
open PySem PySem.W PyProof.Rows PySem.Spec PySem.Calls
set_option Elab.async false
set_option maxRecDepth 100000
namespace Mine
section
variable {w : World} {os : OsState} {T : BT} {m k : Nat} {p q : Pos} {env : Env}
noncomputable def Full (T : BT) (m : Nat) : Prop := ∀ i, i < m → (T.get i).isSome = true
theorem full_ins (o : Obj) : ∀ (T : BT) (m : Nat), Full T m → ((T.ins m o).get m).isSome = true
  | .nil, 0, _ => rfl
  | .nil, m + 1, h => by have := h 0 (by omega); simp [BT.get] at this
  | .node v l r, m, h => by
    unfold BT.ins
    cases hd : Nat.beq m 0 with
    | true => obtain rfl := Nat.eq_of_beq_eq_true hd; rfl
    | false =>
      have hm : m ≠ 0 := Nat.ne_of_beq_eq_false hd
      cases hp : Nat.beq (m % 2) 1 with
      | true =>
        have hp' := Nat.eq_of_beq_eq_true hp
        show ((BT.node v (l.ins (m / 2) o) r).get m).isSome = true
        unfold BT.get
        rw [hd, hp]
        refine full_ins o l (m / 2) fun i hi => ?_
        have := h (2 * i + 1) (by omega)
        unfold BT.get at this
        rw [show Nat.beq (2 * i + 1) 0 = false from rfl, show (2 * i + 1) % 2 = 1 by omega, show (2 * i + 1) / 2 = i by omega] at this
        exact this
      | false =>
        have hp' : m % 2 ≠ 1 := Nat.ne_of_beq_eq_false hp
        show ((BT.node v l (r.ins (m / 2 - 1) o)).get m).isSome = true
        unfold BT.get
        rw [hd, hp]
        refine full_ins o r (m / 2 - 1) fun i hi => ?_
        have := h (2 * i + 2) (by omega)
        unfold BT.get at this
        rw [show Nat.beq (2 * i + 2) 0 = false from rfl, show (2 * i + 2) % 2 = 0 by omega, show (2 * i + 2) / 2 - 1 = i by omega] at this
        exact this
theorem Full.ins {o : Obj} (h : Full T m) : Full (T.ins m o) (m + 1) := fun i hi => by
  have hf := full_ins o T m h
  rw [BT.get_ins _ _ _ hf]
  by_cases e : i = m
  · rw [if_pos e]; rfl
  · rw [if_neg e]; exact h i (by omega)
theorem Full.set {f : Obj → Obj} {a : Nat} (h : Full T m) : Full (T.set a f) m := fun i hi => by
  rw [BT.get_set]
  split
  · subst i; rw [Option.isSome_map]; exact h a hi
  · exact h i hi
noncomputable def nextT (T : BT) (m d : Nat) (l : List DictEntry) (c : Nat) (es : List DictEntry) (e : Nat) : BT := ((T.ins m (dOb #[] 0)).set m fun _ => dOb l.toArray c).set d fun _ => dOb (es ++ l).toArray (e + c)
theorem nextT_get {d : Nat} {l : List DictEntry} {c : Nat} {es : List DictEntry} {e : Nat} (hT : T.get d = some (dOb es.toArray e)) (hF : Full T m) (hd : d < m) : (nextT T m d l c es e).get d = some (dOb (es ++ l).toArray (e + c)) := by
  unfold nextT
  rw [BT.get_set, if_pos rfl, BT.get_set, if_neg (Nat.ne_of_lt hd), BT.get_ins _ _ _ (full_ins _ _ _ hF), if_neg (Nat.ne_of_lt hd), hT]
  rfl
theorem nextT_full {d : Nat} {l : List DictEntry} {c : Nat} {es : List DictEntry} {e : Nat} (hF : Full T m) : Full (nextT T m d l c es e) (m + 1) := hF.ins.set.set
theorem g_flush0 {ks : List (Option Expr)} {vs : List Expr} (hF : Full T m) (hm : Nat.ble 11 m = true) (hok : okL ks vs = true) (hlen : 15 < ks.length) (hap : Apart #[] (entL 3 k ks vs)) (hsz : ks.length ≤ sizeLine) :
    Goes w os (2 + 148 * ks.length) (flushT (pairTrees ks vs env q) none) T m k q (some m) ((T.ins m (dOb #[] 0)).set m fun _ => dOb (entL 3 k ks vs).toArray ks.length) (m + 1) (k + 3 * ks.length) q :=
  Goes.bind' (n' := 0) (g_subLong (full_ins _ _ _ hF) hm hok hlen hap hsz) (Goes.pure _)
theorem g_flush {x : List Pr} {l : List DictEntry} {c k' n : Nat} {d e : Nat} {es : List DictEntry} (hc : l.length = c)
    (hsub : Goes w os n (subDict x) T m k q m ((T.ins m (dOb #[] 0)).set m fun _ => dOb l.toArray c) (m + 1) k' q)
    (hF : Full T m) (hT : T.get d = some (dOb es.toArray e)) (hd : d < m) (hl : Nat.ble 11 d = true) (hne : es ≠ []) (hap : Apart es.toArray l) (hsz : es.length + l.length < sizeLine) :
    Goes w os (n + (45 + 6 * c)) (flushT x (some d)) T m k q (some d) (nextT T m d l c es e) (m + 1) k' q := by
  have hf := full_ins (dOb #[] 0) T m hF
  have hT1 : ((T.ins m (dOb #[] 0)).set m fun _ => dOb l.toArray c).get d = some (dOb es.toArray e) := by
    rw [BT.get_set, if_neg (Nat.ne_of_lt hd), BT.get_ins _ _ _ hf, if_neg (Nat.ne_of_lt hd), hT]
  have hT2 : ((T.ins m (dOb #[] 0)).set m fun _ => dOb l.toArray c).get m = some (dOb l.toArray c) := by
    rw [BT.get_set, if_pos rfl, BT.get_ins _ _ _ hf, if_pos rfl]
    rfl
  have hm : Nat.blt m (m + 1) = true := Nat.blt_eq.mpr (Nat.lt_succ_self m)
  have hdm : Nat.blt d (m + 1) = true := Nat.blt_eq.mpr (Nat.lt_succ_of_lt hd)
  have hl1 : Nat.ble 11 m = true := Nat.ble_eq.mpr (Nat.le_trans (Nat.ble_eq.mp hl) (Nat.le_of_lt hd))
  have hne' : es.toArray.isEmpty = false := by cases es with | nil => exact absurd rfl hne | cons => rfl
  subst hc
  unfold flushT
  refine Goes.bind' (n' := 45 + 6 * l.length) (Goes.holding hsub) ?_
  refine Goes.cast (n := (21 + (21 + (3 + 6 * l.length))) + 0) (by omega) ?_
  have g := g_merge (w := w) (os := os) (k := k') (p := q) hT1 hT2 (Nat.ne_of_lt hd) hdm hm hl hl1 hne' hap (by simpa using hsz) (g_isDict hT2 hm) (g_iter hT2 hm)
  rw [show es.toArray ++ l.toArray = (es ++ l).toArray by simp] at g
  exact Goes.bind' (Goes.onRaise (Goes.holding g)) (Goes.pure _)
noncomputable def rise : Int → List DictEntry → Bool
  | _, [] => true
  | h, e :: r => decide (h < e.hash) && (match e.key with | .int _ _ => true | _ => false) && rise e.hash r
theorem rise_lt {l : List DictEntry} {h : Int} (hr : rise h l = true) : ∀ e ∈ l, h < e.hash := by
  induction l generalizing h with
  | nil => intro e he; exact absurd he List.not_mem_nil
  | cons x r ih =>
    intro e he
    simp only [rise, Bool.and_eq_true, decide_eq_true_eq] at hr
    rcases List.mem_cons.1 he with rfl | he
    · exact hr.1.1
    · exact Int.lt_trans hr.1.1 (ih hr.2 e he)
theorem rise_apart : ∀ {l : List DictEntry} {h : Int} {es : Array DictEntry}, rise h l = true → (∀ x ∈ es, x.hash ≤ h) → Apart es l
  | [], _, _, _, _ => trivial
  | x :: r, h, es, hr, he => by
    have hr' := hr
    simp only [rise, Bool.and_eq_true, decide_eq_true_eq] at hr
    refine ⟨?_, fun y hy => Int.ne_of_lt (Int.lt_of_le_of_lt (he y hy) hr.1.1), rise_apart hr.2 fun y hy => ?_⟩
    · have := hr.1.2
      split at this
      · rename_i i t h; exact ⟨i, t, h⟩
      · cases this
    · rcases Array.mem_push.1 hy with hy | rfl
      · exact Int.le_of_lt (Int.lt_of_le_of_lt (he y hy) hr.1.1)
      · exact Int.le_refl _
theorem rise_drop : ∀ {l : List DictEntry} {h : Int} (n : Nat), rise h l = true → ∃ h', rise h' (l.drop n) = true ∧ ∀ x ∈ l.take n, x.hash ≤ h'
  | l, h, 0, hr => ⟨h, hr, fun x hx => by simp at hx⟩
  | [], h, n + 1, hr => ⟨h, rfl, fun x hx => by simp at hx⟩
  | e :: r, h, n + 1, hr => by
    simp only [rise, Bool.and_eq_true, decide_eq_true_eq] at hr
    cases n with
    | zero => exact ⟨e.hash, hr.2, fun x hx => by simp at hx; rw [hx]; exact Int.le_refl _⟩
    | succ n =>
      obtain ⟨h', h1, h2, h3⟩ : ∃ h', rise h' (r.drop (n + 1)) = true ∧ (∀ x ∈ r.take (n + 1), x.hash ≤ h') ∧ (r = [] → e.hash ≤ h') := by
        cases r with
        | nil => exact ⟨e.hash, rfl, fun x hx => by simp at hx, fun _ => Int.le_refl _⟩
        | cons y r =>
          obtain ⟨h', h1, h2⟩ := rise_drop (n + 1) hr.2
          exact ⟨h', h1, h2, fun q => by cases q⟩
      refine ⟨h', h1, fun x hx => ?_⟩
      rw [List.take_succ_cons] at hx
      rcases List.mem_cons.1 hx with rfl | hx
      · cases r with
        | nil => exact h3 rfl
        | cons y r => exact Int.le_trans (Int.le_of_lt (rise_lt hr.2 y (List.mem_cons_self ..))) (h2 y (by rw [List.take_succ_cons]; exact List.mem_cons_self ..))
      · exact h2 x hx
theorem rise_take : ∀ {l : List DictEntry} {h : Int} (n : Nat), rise h l = true → rise h (l.take n) = true
  | _, _, 0, _ => rfl
  | [], _, _ + 1, _ => rfl
  | e :: r, h, n + 1, hr => by
    simp only [rise, Bool.and_eq_true, decide_eq_true_eq] at hr
    rw [List.take_succ_cons]
    simp only [rise, Bool.and_eq_true, decide_eq_true_eq]
    exact ⟨hr.1, rise_take n hr.2⟩
theorem pt_drop : ∀ (n : Nat) (ks : List (Option Expr)) (vs : List Expr), okL ks vs = true → (pairTrees ks vs env q).drop n = pairTrees (ks.drop n) (vs.drop n) env q ∧ okL (ks.drop n) (vs.drop n) = true
  | 0, _, _, h => ⟨rfl, h⟩
  | n + 1, [], [], h => ⟨rfl, rfl⟩
  | _ + 1, [], _ :: _, h => by cases h
  | _ + 1, _ :: _, [], h => by cases h
  | n + 1, kx :: ks, vx :: vs, h => by
    obtain ⟨h1, h2⟩ := Bool.and_eq_true_iff.mp (show (okP kx vx && okL ks vs) = true from h)
    cases kx with
    | none => cases h1
    | some kx =>
      rw [pairTrees, List.drop_succ_cons, List.drop_succ_cons, List.drop_succ_cons]
      exact pt_drop n ks vs h2
theorem pt_take : ∀ (n : Nat) (ks : List (Option Expr)) (vs : List Expr), okL ks vs = true → (pairTrees ks vs env q).take n = pairTrees (ks.take n) (vs.take n) env q ∧ okL (ks.take n) (vs.take n) = true
  | 0, _, _, h => ⟨by simp [pairTrees], rfl⟩
  | n + 1, [], [], h => ⟨rfl, rfl⟩
  | _ + 1, [], _ :: _, h => by cases h
  | _ + 1, _ :: _, [], h => by cases h
  | n + 1, kx :: ks, vx :: vs, h => by
    obtain ⟨h1, h2⟩ := Bool.and_eq_true_iff.mp (show (okP kx vx && okL ks vs) = true from h)
    obtain ⟨h3, h4⟩ := pt_take n ks vs h2
    cases kx with
    | none => cases h1
    | some kx =>
      rw [pairTrees, List.take_succ_cons, List.take_succ_cons, List.take_succ_cons, pairTrees, h3]
      exact ⟨rfl, by show (okP _ _ && okL _ _) = true; rw [h1, h4]; rfl⟩
theorem okL_drop : ∀ (n : Nat) (ks : List (Option Expr)) (vs : List Expr), okL ks vs = true → okL (ks.drop n) (vs.drop n) = true
  | 0, _, _, h => h
  | n + 1, [], [], h => rfl
  | _ + 1, [], _ :: _, h => by cases h
  | _ + 1, _ :: _, [], h => by cases h
  | n + 1, kx :: ks, vx :: vs, h => okL_drop n ks vs (Bool.and_eq_true_iff.mp (show (okP kx vx && okL ks vs) = true from h)).2
theorem okL_take : ∀ (n : Nat) (ks : List (Option Expr)) (vs : List Expr), okL ks vs = true → okL (ks.take n) (vs.take n) = true
  | 0, _, _, h => rfl
  | n + 1, [], [], h => rfl
  | _ + 1, [], _ :: _, h => by cases h
  | _ + 1, _ :: _, [], h => by cases h
  | n + 1, kx :: ks, vx :: vs, h => by
    obtain ⟨h1, h2⟩ := Bool.and_eq_true_iff.mp (show (okP kx vx && okL ks vs) = true from h)
    show (okP kx vx && okL (ks.take n) (vs.take n)) = true
    rw [h1, okL_take n ks vs h2]; rfl
theorem entL_drop {c : Nat} : ∀ (n t : Nat) (ks : List (Option Expr)) (vs : List Expr), okL ks vs = true → (entL c t ks vs).drop n = entL c (t + c * n) (ks.drop n) (vs.drop n)
  | 0, _, _, _, _ => rfl
  | _ + 1, _, [], [], _ => rfl
  | _ + 1, _, [], _ :: _, h => by cases h
  | _ + 1, _, _ :: _, [], h => by cases h
  | n + 1, t, kx :: ks, vx :: vs, h => by
    obtain ⟨h1, h2⟩ := Bool.and_eq_true_iff.mp (show (okP kx vx && okL ks vs) = true from h)
    rw [entL_cons, List.drop_succ_cons, List.drop_succ_cons, List.drop_succ_cons, entL_drop n _ ks vs h2, Nat.mul_succ, show t + c + c * n = t + (c * n + c) by omega]
theorem entL_take {c : Nat} : ∀ (n t : Nat) (ks : List (Option Expr)) (vs : List Expr), okL ks vs = true → (entL c t ks vs).take n = entL c t (ks.take n) (vs.take n)
  | 0, _, _, _, _ => by simp [entL]
  | _ + 1, _, [], [], _ => rfl
  | _ + 1, _, [], _ :: _, h => by cases h
  | _ + 1, _, _ :: _, [], h => by cases h
  | n + 1, t, kx :: ks, vx :: vs, h => by
    obtain ⟨h1, h2⟩ := Bool.and_eq_true_iff.mp (show (okP kx vx && okL ks vs) = true from h)
    rw [entL_cons, List.take_succ_cons, List.take_succ_cons, List.take_succ_cons, entL_cons, entL_take n _ ks vs h2]
end
noncomputable def entAll (ks : List (Option Expr)) (vs : List Expr) : List DictEntry := entL 3 256 (ks.take 646) (vs.take 646) ++ entL 2 2194 (ks.drop 646) (vs.drop 646)
noncomputable def runT (bl : List DictEntry) : Nat → Nat → BT → BT
  | 0, j, T => nextT T (33 + j) 33 ((bl.drop (17 * j)).take 17) 4 (bl.take (17 * j)) (17 * j)
  | n + 1, j, T => runT bl n (j + 1) (nextT T (33 + j) 33 ((bl.drop (17 * j)).take 17) 17 (bl.take (17 * j)) (17 * j))
section
variable {w : World} {os : OsState} {T : BT} {q : Pos} {env : Env} {ks : List (Option Expr)} {vs : List Expr}
theorem ent_mid (hok : okL ks vs = true) (hl : ks.length = 650) (j : Nat) (hj : j < 38) : ((entAll ks vs).drop (17 * j)).take 17 = entL 3 (256 + 51 * j) ((ks.drop (17 * j)).take 17) ((vs.drop (17 * j)).take 17) := by
  have hv := okL_len ks vs hok
  have ht := okL_take 646 ks vs hok
  unfold entAll
  have l1 : (entL 3 256 (ks.take 646) (vs.take 646)).length = 646 := by rw [entL_length _ _ _ ht, List.length_take]; omega
  rw [List.drop_append_of_le_length (by omega), List.take_append_of_le_length (by rw [List.length_drop]; omega), entL_drop _ _ _ _ ht, entL_take _ _ _ _ (okL_drop _ _ _ ht)]
  rw [List.drop_take, List.drop_take, List.take_take, List.take_take, show min 17 (646 - 17 * j) = 17 by omega, show 256 + 3 * (17 * j) = 256 + 51 * j by omega]
theorem ent_end (hok : okL ks vs = true) (hl : ks.length = 650) : ((entAll ks vs).drop (17 * 38)).take 17 = entL 2 2194 (ks.drop (17 * 38)) (vs.drop (17 * 38)) := by
  have ht := okL_take 646 ks vs hok
  have hd := okL_drop 646 ks vs hok
  unfold entAll
  have l1 : (entL 3 256 (ks.take 646) (vs.take 646)).length = 646 := by rw [entL_length _ _ _ ht, List.length_take]; omega
  rw [List.drop_append_of_le_length (by omega), show 17 * 38 = 646 from rfl, List.drop_eq_nil_of_le (by omega), List.nil_append, List.take_of_length_le (by rw [entL_length _ _ _ hd, List.length_drop]; omega)]
theorem ent_len (hok : okL ks vs = true) (hl : ks.length = 650) : (entAll ks vs).length = 650 := by
  have ht := okL_take 646 ks vs hok
  have hd := okL_drop 646 ks vs hok
  unfold entAll
  rw [List.length_append, entL_length _ _ _ ht, entL_length _ _ _ hd, List.length_take, List.length_drop]
  omega
theorem ent_apart {bl : List DictEntry} (hr : rise (-1) bl = true) (n c : Nat) : Apart (bl.take n).toArray ((bl.drop n).take c) ∧ Apart #[] ((bl.drop n).take c) := by
  obtain ⟨h', h1, h2⟩ := rise_drop n hr
  have h3 := rise_take c h1
  exact ⟨rise_apart h3 fun x hx => h2 x (by simpa using hx), rise_apart h3 fun x hx => by simp at hx⟩
theorem size_ok : 1000 < sizeLine := by rw [sizeLine_eq]; omega
theorem g_dd (hok : okL ks vs = true) (hl : ks.length = 650) (hr : rise (-1) (entAll ks vs) = true) : ∀ (n j : Nat) (T : BT), 1 ≤ j → j + n = 38 → Full T (33 + j) → T.get 33 = some (dOb ((entAll ks vs).take (17 * j)).toArray (17 * j)) →
    Goes w os (3000 + 3000 * n) (ddJ (pairTrees ks vs env q) n j (some 33)) T (33 + j) (256 + 51 * j) q (.ref 33) (runT (entAll ks vs) n j T) 72 2206 q
  | 0, j, T, h1, hj, hF, hT => by
    obtain rfl : j = 38 := by omega
    have hd := pt_drop (env := env) (q := q) (17 * 38) ks vs hok
    have e : ck (pairTrees ks vs env q) 38 = pairTrees (ks.drop (17 * 38)) (vs.drop (17 * 38)) env q := by
      unfold ck
      rw [hd.1, List.take_of_length_le (by rw [pairTrees_length _ _ _ _ (okL_some _ _ hd.2) (okL_len _ _ hd.2), List.length_drop]; omega)]
    have hlen : (ks.drop (17 * 38)).length = 4 := by rw [List.length_drop]; omega
    have he := ent_end hok hl
    have ha := ent_apart hr (17 * 38) 17
    have hlen2 : (((entAll ks vs).drop (17 * 38)).take 17).length = 4 := by rw [he, entL_length _ _ _ hd.2, hlen]
    have hn := ent_len hok hl
    have hsub := g_subShort (w := w) (os := os) (T := T) (m := 33 + 38) (k := 256 + 51 * 38) (q := q) (env := env) (full_ins _ _ _ hF) (by decide) hd.2 (by omega) (by rw [← he]; exact ha.2) (by have := size_ok; omega)
    rw [← he, hlen, ← e] at hsub
    show Goes w os 3000 ((flushT (ck (pairTrees ks vs env q) 38) (some 33)).bind endT) T _ _ q _ _ _ _ q
    refine Goes.cast (n := ((2 + 148 * 4 + (45 + 6 * 4)) + 0) + 2337) (by omega) ?_
    refine Goes.more ?_
    exact Goes.bind (g_flush (d := 33) hlen2 hsub hF hT (by omega) (by decide) (by intro h; have := congrArg List.length h; rw [List.length_take, hn] at this; simp at this) ha.1 (by rw [hlen2, List.length_take, hn]; have := size_ok; omega)) (Goes.pure _)
  | n + 1, j, T, h1, hj, hF, hT => by
    have hd := pt_drop (env := env) (q := q) (17 * j) ks vs hok
    have ht := pt_take (env := env) (q := q) 17 _ _ hd.2
    have e : ck (pairTrees ks vs env q) j = pairTrees ((ks.drop (17 * j)).take 17) ((vs.drop (17 * j)).take 17) env q := by
      unfold ck
      rw [hd.1, ht.1]
    have hlen : ((ks.drop (17 * j)).take 17).length = 17 := by rw [List.length_take, List.length_drop]; omega
    have he := ent_mid hok hl j (by omega)
    have ha := ent_apart hr (17 * j) 17
    have hlen2 : (((entAll ks vs).drop (17 * j)).take 17).length = 17 := by rw [he, entL_length _ _ _ ht.2, hlen]
    have hn := ent_len hok hl
    have hsub := g_subLong (w := w) (os := os) (T := T) (m := 33 + j) (k := 256 + 51 * j) (q := q) (env := env) (full_ins _ _ _ hF) (Nat.ble_eq.mpr (by omega)) ht.2 (by omega) (by rw [← he]; exact ha.2) (by have := size_ok; omega)
    rw [← he, hlen, ← e] at hsub
    have hne : (entAll ks vs).take (17 * j) ≠ [] := by intro h; have := congrArg List.length h; rw [List.length_take, hn] at this; simp at this; omega
    have g := g_flush (d := 33) hlen2 hsub hF hT (by omega) (by decide) hne ha.1 (by rw [hlen2, List.length_take, hn]; have := size_ok; omega)
    have ih := g_dd hok hl hr n (j + 1) (nextT T (33 + j) 33 (((entAll ks vs).drop (17 * j)).take 17) 17 ((entAll ks vs).take (17 * j)) (17 * j)) (by omega) (by omega) (nextT_full hF) (by
      rw [nextT_get hT hF (by omega), show 17 * (j + 1) = 17 * j + 17 by omega, List.take_add])
    show Goes w os (3000 + 3000 * (n + 1)) ((flushT (ck (pairTrees ks vs env q) j) (some 33)).bind fun m => ddJ (pairTrees ks vs env q) n (j + 1) m) T _ _ q _ _ _ _ q
    refine Goes.cast (n := ((2 + 148 * 17 + (45 + 6 * 17)) + (3000 + 3000 * n)) + 335) (by omega) ?_
    refine Goes.more ?_
    rw [show 256 + 51 * (j + 1) = 256 + 51 * j + 3 * 17 by omega, show 33 + (j + 1) = 33 + j + 1 by omega] at ih
    exact Goes.bind g ih
end
end Mine
end
section
open PySem PySem.W PyProof.Rows PySem.Spec PySem.Calls
set_option Elab.async false
set_option maxRecDepth 100000
set_option maxHeartbeats 0
namespace Mine
section
variable {os : OsState}
noncomputable abbrev p4 : Pos := ⟨5, 0, 5, 13⟩
noncomputable abbrev p3 : Pos := ⟨3, 0, 4, 30⟩
noncomputable abbrev p2 : Pos := ⟨2, 0, 2, 6⟩
theorem b3_okL : okL b3K b3V = true := by kernel_rfl
theorem b3_klen : b3K.length = 650 := by kernel_rfl
theorem b3_all : b3l = entAll b3K b3V := by kernel_rfl
theorem b3_rise : rise (-1) (entAll b3K b3V) = true := by kernel_rfl
theorem b3_first : entL 3 256 (b3K.take 17) (b3V.take 17) = (entAll b3K b3V).take 17 := by
  have := ent_mid b3_okL b3_klen 0 (by omega)
  simpa using this.symm
noncomputable abbrev tf (P : Params) : BT := ((t3 P).ins 33 (dOb #[] 0)).set 33 fun _ => dOb ((entAll b3K b3V).take 17).toArray 17
theorem t3_full (P : Params) : Full (t3 P) 33 := by
  intro i hi
  have : ∀ i : Fin 33, ((t3 P).get i).isSome = true := by
    intro i
    have : ((List.range 33).all fun i => ((t3 P).get i).isSome) = true := by kernel_rfl
    exact List.all_eq_true.mp this i.1 (List.mem_range.mpr i.2)
  exact this ⟨i, hi⟩
theorem run_td (P : Params) : runT (entAll b3K b3V) 37 1 (tf P) = td38 P := by
  rw [← b3_all]
  kernel_rfl
theorem g_b3dd (w : World) : Goes w os 120000 (ddJ b3ps 38 0 none) (t3 w.params) 33 256 b3P (.ref 33) (td38 w.params) 72 2206 b3P := by
  rw [← run_td]
  have hF := t3_full w.params
  have ht := okL_take 17 _ _ b3_okL
  have hl17 : (b3K.take 17).length = 17 := by rw [List.length_take, b3_klen]; rfl
  have e : ck b3ps 0 = pairTrees (b3K.take 17) (b3V.take 17) hEnv b3P := by
    unfold ck b3ps
    rw [Nat.mul_zero, List.drop_zero, (pt_take 17 _ _ b3_okL).1]
  have ha := (ent_apart b3_rise 0 17).2
  rw [List.drop_zero] at ha
  have g0 := g_flush0 (w := w) (os := os) (k := 256) (q := b3P) (env := hEnv) hF (by decide) ht (by rw [hl17]; decide) (by rw [b3_first]; exact ha) (by rw [hl17]; have := size_ok; omega)
  rw [b3_first, hl17, ← e] at g0
  have g1 := g_dd (w := w) (os := os) (q := b3P) (env := hEnv) b3_okL b3_klen b3_rise 37 1 (tf w.params) (by omega) (by omega) hF.ins.set (by rw [BT.get_set, if_pos rfl, BT.get_ins _ _ _ (full_ins _ _ _ hF), if_pos rfl]; rfl)
  show Goes w os 120000 ((flushT (ck b3ps 0) none).bind fun m => ddJ b3ps 37 1 m) _ _ _ _ _ _ _ _ _
  refine Goes.cast (n := ((2 + 148 * 17) + (3000 + 3000 * 37)) + 3482) (by omega) (Goes.more ?_)
  exact Goes.bind g0 g1
noncomputable def resF : Flow → Flow := id
noncomputable def tailQ (v : Value) : Sem Flow := PySem.W.Fast.tw2470068587113613483 hEnv v none ((PySem.W.Fast.tw15628205474173192105 [b3T] hEnv).map (·.2))
theorem tail_q (v : Value) : b3tail v = tailQ v := by
  unfold b3tail tailQ
  rw [← PySem.W.Fast.te2470068587113613483, ← PySem.W.Fast.te15628205474173192105]
theorem seg_tail (w : World) (gd : Bool → Bool) (lv : List Value → List Value) : SegGo w os gd lv resF 30 (b3tail (.ref 33)) (td38 w.params) 72 2206 b3P .next (t4 w.params) 72 2207 p4 := by
  rw [tail_q]
  unfold SegGo
  rw [PySem.W.Fast.te10110043849684766642, PySem.W.Fast.te14364793385576792824]
  kernel_rfl
theorem g_exec (w : World) {p : Pos} : Goes w os 120100 (exec b3S0 hEnv) (t3 w.params) 33 256 p .next (t4 w.params) 72 2207 p4 := by
  rw [exec_b3]
  refine Goes.cast (n := (1 + (1 + (120000 + 30))) + 68) (by omega) (Goes.more ?_)
  refine Goes.bind (Goes.at b3A) ?_
  refine Goes.bind (Goes.at b3P) ?_
  exact Goes.bind (g_b3dd w) (goes_of_seg (res := resF) (fun _ h => h) fun gd lv => seg_tail w gd lv)
end
end Mine
end
section
open PySem PySem.W PyProof.Rows PySem.Spec PySem.Calls
set_option Elab.async false
set_option maxRecDepth 100000
set_option maxHeartbeats 0
namespace Mine
noncomputable abbrev stQ (l : List Stmt) (p : Pos) : Thread := ⟨(PySem.W.Fast.tw12563942051412417395 l hEnv).wrap doneF deadEnd id id, hC, p, B0⟩
noncomputable abbrev stP (l : List Stmt) (p : Pos) : Thread := piecesOf l hEnv hC p B0
theorem st_q (l : List Stmt) (p : Pos) : stP l p = stQ l p := by
  unfold stP stQ piecesOf
  rw [← PySem.W.Fast.te12563942051412417395]
noncomputable abbrev L1 : List Stmt := hL.take 2
noncomputable abbrev L2 : List Stmt := (hL.drop 2).take 1
noncomputable abbrev L4 : List Stmt := (hL.drop 4).take 11
noncomputable abbrev L5 : List Stmt := hL.drop 15
noncomputable abbrev pA : Pos := ⟨0, 0, 0, 0⟩
noncomputable abbrev p15 : Pos := ⟨109, 0, 119, 17⟩
noncomputable abbrev p26 : Pos := ⟨180, 0, 200, 55⟩
noncomputable abbrev SegP (w : World) (os : OsState) (n : Nat) (l : List Stmt) (p : Pos) (T : BT) (m k : Nat) (p' : Pos) (T' : BT) (m' k' : Nat) : Prop :=
  segRunT treeTable prg w 11 (some (.ref 6)) 1 n (sT T m k os) (stP l p) = some (.next, sT T' m' k' os, hC, p')
section
variable {os : OsState}
theorem s2_ (w : World) : SegP w os 40 L2 p2 (t2 w.params) 26 249 p3 (t3 w.params) 33 256 := by
  unfold SegP
  rw [st_q, PySem.W.Fast.te10110043849684766642, PySem.W.Fast.te14364793385576792824]
  kernel_rfl
theorem s4_ (w : World) : SegP w os 400 L4 p4 (t4 w.params) 72 2207 p15 (t15 w.params) 128 2322 := by
  unfold SegP
  rw [st_q, PySem.W.Fast.te10110043849684766642, PySem.W.Fast.te14364793385576792824]
  kernel_rfl
theorem s5_ (w : World) : SegP w os 400 L5 p15 (t15 w.params) 128 2322 p26 (t26 w.params) 192 2415 := by
  unfold SegP
  rw [st_q, PySem.W.Fast.te10110043849684766642, PySem.W.Fast.te14364793385576792824]
  kernel_rfl
theorem s1_ff (w : World) : SegP ((w.withFollow "set-order" false).withFollow "special-get-raises" false) os 1100 L1 pA (t0 w.params) 15 187 p2 (t2 (w.withFollow "set-order" false).params) 26 249 := by
  unfold SegP
  rw [st_q, PySem.W.Fast.te10110043849684766642, PySem.W.Fast.te14364793385576792824]
  kernel_rfl
theorem s1_ft (w : World) : SegP ((w.withFollow "set-order" false).withFollow "special-get-raises" true) os 1100 L1 pA (t0 w.params) 15 187 p2 (t2 (w.withFollow "set-order" false).params) 26 249 := by
  unfold SegP
  rw [st_q, PySem.W.Fast.te10110043849684766642, PySem.W.Fast.te14364793385576792824]
  kernel_rfl
theorem s1_tf (w : World) : SegP ((w.withFollow "set-order" true).withFollow "special-get-raises" false) os 1100 L1 pA (t0 w.params) 15 187 p2 (t2 (w.withFollow "set-order" true).params) 26 249 := by
  unfold SegP
  rw [st_q, PySem.W.Fast.te10110043849684766642, PySem.W.Fast.te14364793385576792824]
  kernel_rfl
theorem s1_tt (w : World) : SegP ((w.withFollow "set-order" true).withFollow "special-get-raises" true) os 1100 L1 pA (t0 w.params) 15 187 p2 (t2 (w.withFollow "set-order" true).params) 26 249 := by
  unfold SegP
  rw [st_q, PySem.W.Fast.te10110043849684766642, PySem.W.Fast.te14364793385576792824]
  kernel_rfl
end
end Mine
end
section
open PySem PySem.W PyProof.Rows PySem.Spec PySem.Calls
set_option Elab.async false
set_option maxRecDepth 100000
set_option maxHeartbeats 0
namespace Mine
section
variable {os : OsState}
theorem s1_ (w : World) : SegP w os 1100 L1 pA (t0 w.params) 15 187 p2 (t2 w.params) 26 249 := by
  have key : ∀ a b : Bool, SegP ((w.withFollow "set-order" a).withFollow "special-get-raises" b) os 1100 L1 pA (t0 w.params) 15 187 p2 (t2 (w.withFollow "set-order" a).params) 26 249 := by
    intro a b
    cases a <;> cases b
    · exact s1_ff w
    · exact s1_ft w
    · exact s1_tf w
    · exact s1_tt w
  have := key (w.params.followText "set-order") ((w.withFollow "set-order" (w.params.followText "set-order")).params.followText "special-get-raises")
  rwa [World.withFollow_self, World.withFollow_self] at this
theorem pre_ (w : World) : topGo treeTable prg w 11 (some (.ref 6)) 12 ⟨boot_heap w.params, Array.mk [], boot_drawn, boot_toks, os⟩ (topStub prg) = some ((sT (t0 w.params) 15 187 os).abs, ⟨denote treeTable hC, hC, pA, B0⟩) := by
  rw [PySem.W.Fast.te15667345088766844465, PySem.W.Fast.te11892475500146522536, PySem.W.Fast.te14364793385576792824]
  kernel_rfl
theorem block_ (w : World) : segRun treeTable prg w 11 (some (.ref 6)) 1 1 (sT (t0 w.params) 15 187 os).abs (blockOf hL hEnv hC pA B0) = some (.next, (sT (t0 w.params) 15 187 os).abs, hC, pA) := by
  kernel_rfl
theorem fin_ (w : World) : topRun treeTable prg w 11 (some (.ref 6)) 3 (sT (t26 w.params) 192 2415 os).abs ⟨doneF .next, hC, p26, B0⟩ = some (sT (t26 w.params) 192 2415 os).abs := by
  kernel_rfl
theorem hL_eq : hL = L1 ++ (L2 ++ (b3S0 :: (L4 ++ (L5 ++ [])))) := by kernel_rfl
end
end Mine
end
section
open PySem PySem.W PyProof.Rows PySem.Spec PySem.Calls
set_option Elab.async false
set_option maxRecDepth 100000
set_option maxHeartbeats 0
namespace Mine
section
theorem run_all (w : World) (os : OsState) : topRun treeTable prg w 11 (some (.ref 6)) (12 + (1 + (1100 + (40 + (120100 + (400 + (400 + 3))))))) ⟨boot_heap w.params, Array.mk [], boot_drawn, boot_toks, os⟩ (topStub prg) = some (sT (t26 w.params) 192 2415 os).abs := by
  refine go_top (pre_ w) ?_
  refine piece_block (env := hEnv) (q := q0) (block_ w) ?_
  rw [hL_eq]
  refine piece_app (segRun_of (s1_ w)) ?_
  refine piece_app (segRun_of (s2_ w)) ?_
  have hd : restOf (b3S0 :: (L4 ++ (L5 ++ []))) hEnv hC p3 B0 = ⟨(exec b3S0 hEnv).wrap (fun f => match f with | .next => (execs (L4 ++ (L5 ++ [])) hEnv).wrap doneF (leaveH hEnv) id id | f => doneF f) (leaveH hEnv) id id, hC, p3, B0⟩ := by
    unfold restOf
    rw [execs_cons_wrap]
    refine congrArg (fun c => Thread.mk c hC p3 B0) (Sem.wrap_congr _ _ _ (fun f => ?_) fun _ => rfl)
    cases f <;> rfl
  rw [hd]
  refine g_exec w _ _ _ _ _ _ ?_
  show topRun _ _ _ _ _ _ _ (restOf (L4 ++ (L5 ++ [])) hEnv hC p4 B0) = _
  refine piece_app (segRun_of (s4_ w)) ?_
  refine piece_app (segRun_of (s5_ w)) ?_
  exact fin_ w
noncomputable def qv : Program := { prg with main := { prg.main with body := prg.main.body.drop 25 } }
noncomputable def lz : List Str := ["b1_set", "in_table_b1", "b3_exceptions", "map_table_b3", "rgb_to_hls", "hsv_to_rgb", "_DIV_LIMIT", "_div2n1n", "_div3n2n", "_int2digits", "_digits2int", "_divmod_pos", "int_divmod", "_law_nothing", "_law_form", "_law_stock", "_law_prepared", "_law_shelves", "_law_mixed", "_law_colours_hold", "_law_divisions_hold"]
noncomputable def xt (s : Shared) : Bool := xlAt qv [] s && recOk [] s
noncomputable abbrev H1 (P : Params) : Heap := absHeap (t26 P) 192 life0
noncomputable abbrev sF (w : World) (os : OsState) : Shared := ⟨H1 w.params, Array.mk [], drawn0, 2415, os⟩
theorem look1 (w : World) (os : OsState) : (staticsOk (importedModules prg.main.body) (boot_heap w.params) (H1 w.params) && namesBound prg (H1 w.params) && gensDone (sF w os) && laidKept (boot_heap w.params) (H1 w.params)) = true := by
  kernel_rfl
theorem look2 (w : World) (os : OsState) : openSeen qv lz (importedModules prg.main.body) xt true (sF w os) = openGood qv lz := by
  rw [PySem.W.Fast.te4187177175401517315]
  kernel_rfl
theorem look3 (w : World) (os : OsState) : heapA.map (sF w os).heap.get? = (heapK w.params).map fun p => some p.2 := by
  kernel_rfl
noncomputable abbrev hm : Nat := 12 + (1 + (1100 + (40 + (120100 + (400 + (400 + 3))))))
theorem open_is : opening prg = plainProg prg.main.scope.names := by rfl
theorem fence_is (s : Shared) : fenceModules? prg s = some s := by rfl
theorem left : LeftO prg qv lz xt (fun s => heapA.map s.heap.get?) (fun w => (heapK w.params).map fun p => some p.2) 130000 :=
  LeftO.of_pieces (H₀ := boot_heap) (H₁ := H1) (gs₀ := Array.mk []) (gs₁ := Array.mk []) (d₀ := boot_drawn) (d₁ := drawn0) (k₀ := boot_toks) (k₁ := 2415) (m₀ := 11) (ann := some (.ref 6)) (M := hm)
    (boot_open open_is rfl fence_is) (fun w => by kernel_rfl) (fun w os => run_all w os) (by decide +kernel)
    (fun w => funext fun os => by
      rw [look1 w os, look2 w os, look3 w os])
end
end Mine
end
section
open PySem PySem.W PyProof.Rows PySem.Spec PySem.Calls
set_option Elab.async false
namespace Mine
noncomputable abbrev Led := List (Addr × Obj)
noncomputable def Ctr (w : World) (D U : Nat) (f : Addr) (news : Led) (vs : List Value) (R : Value → Led → Prop) : Prop :=
  ∀ (p : Program) (loose : List Str) (mean : ExcName → Option Value) (mg mb : Str → Option Value) (dp un : Nat) (gd : Option (List Code)) (cn : Str) (cs : Scope) (a : Addr) (ccd : Value) (cl : List (Str × Addr)) (outer : List Env) (A₀ : Around) (base h₀ : Heap) (L : Addr) (m : Str → Option Value) (s : Shared) (Q E : Value → Shared → Prop),
    Below A₀ base outer h₀ → Fr h₀ L s.heap m → (heapK w.params).In h₀ → News h₀ L s.heap news → Top p loose mean mg mb h₀ → cs.kind = .function →
    dp + D < recursionLimit → un + U < cLine →
    (∀ (v : Value) (more : Led) (h' : Heap) (tk' : Nat), R v more → Fr h₀ L h' m → News h₀ L h' (more ++ news) → Q v { s with heap := h', toks := tk' }) →
      wpAny (model Challenge.rw_qu0064_01.row.prog w) (ktrTop dp un gd cn cs L a ccd cl outer) (call (.ref f) vs) Q E s
theorem all_ne {news : Led} {d e : Nat} (h : ∀ p ∈ news, p.1 < e) (hle : @LE.le Nat instLENat e d) : ∀ p ∈ news, p.1 ≠ d := fun p hp => Nat.ne_of_lt (Nat.lt_of_lt_of_le (h p hp) hle)
theorem Ctr.use {w : World} {D U : Nat} {f : Addr} {news : Led} {vs : List Value} {R : Value → Led → Prop} {p : Program} {loose : List Str} {mean : ExcName → Option Value} {mg mb : Str → Option Value} {dp un : Nat} {gd : Option (List Code)} {cn : Str} {cs : Scope} {a : Addr} {ccd : Value} {cl : List (Str × Addr)} {outer : List Env} {A₀ : Around} {base h₀ : Heap} {L : Addr} {m : Str → Option Value} {s : Shared} {Q E : Value → Shared → Prop}
    (C : Ctr w D U f news vs R) (B : Below A₀ base outer h₀) (F : Fr h₀ L s.heap m) (X : (heapK w.params).In h₀) (N : News h₀ L s.heap news) (T : Top p loose mean mg mb h₀) (hk : cs.kind = .function) (hd : dp + D < recursionLimit) (hu : un + U < cLine)
    (ret : ∀ (v : Value) (more : Led) (h' : Heap) (tk' : Nat), R v more → Fr h₀ L h' m → News h₀ L h' (more ++ news) → Q v { s with heap := h', toks := tk' }) :
      wpAny (model Challenge.rw_qu0064_01.row.prog w) (ktrTop dp un gd cn cs L a ccd cl outer) (call (.ref f) vs) Q E s :=
  C p loose mean mg mb dp un gd cn cs a ccd cl outer A₀ base h₀ L m s Q E B F X N T hk hd hu ret
end Mine
end
section
open PySem PySem.W PyProof.Rows PySem.Spec PySem.Calls
set_option Elab.async false
namespace Mine
local macro_rules | `(tactic| walk_at "ctr_news") => `(tactic| (first | k_asm | (refine' cb_drop ?cbN ?cbS; (case cbN => assumption); (case cbS => kcj_all))))
local macro_rules | `(tactic| walk_at "ctr_use") => `(tactic| ((case k1 => k_asm); (case k2 => k_asm); (case k3 => k_asm); (case k4 => k_asm); (case k5 => k_asm); (case kK => first | exact rfl | assumption); (case kd => ktr_room); (case ku => ktr_units)))
local macro_rules | `(tactic| walk_at "InvEndN") => `(tactic| kst_close)
local macro_rules | `(tactic| walk_at "cells_in") => `(tactic| (refine' code_defC ?k1 ?k2 ?k3 ?k4 ?k5 ?kA ?kF ?kK ?k6 ?k7 ?k8 ?k9 ?kB ?kD ?_ ?c2 ?c3 ?c4; (case kA => exact rfl); (case kF => exact rfl); (case kK => assumption); (case k1 => k_asm); (case k2 => k_asm); (case k3 => k_asm); (case k4 => k_asm); (case k5 => k_asm); (case k6 => k_is); (case k7 => k_is); (case k8 => ktr_room); (case k9 => exact BindsTo.of_eq rfl); (case kB => exact rfl); (case kD => decide +kernel); (case c2 => exact rfl); (case c3 => exact rfl); (case c4 => exact rfl); k_whole; intro g' L' h' tk' cells' FG' F' N' Y' B' X' T' l1; (try k_lt l1); k_cells Y'; (try simp only [List.cons_append, List.nil_append] at N'); (try dsimp only); (try k_fold)))
local macro_rules | `(tactic| k_all) => `(tactic| (refine all_ne (by with_reducible assumption) ?_; (try dsimp only); omega))
section
open PySem PySem.W PyProof.Rows PySem.Spec PySem.Calls
set_option Elab.async false
theorem fresh_MF1 : True := by
  w_top off
  trivial
noncomputable def alphas : List Int := [119808, 119860, 119912, 120016, 120172, 120224, 120276, 120328, 120380, 120432]
noncomputable def formF (letter which : Int) : Str :=
  if Int.fmod which 12 = 0 then ⟨#[letter.toNat]⟩
  else if Int.fmod which 12 = 1 then ⟨#[(letter - 32).toNat]⟩
  else ⟨#[(alphas.getD (Int.fmod which 12 - 2).toNat 0 + letter - 97).toNat]⟩
theorem getD_bound (l : List Int) (lo hi : Int) (h : ∀ x ∈ l, lo ≤ x ∧ x ≤ hi) (i : Nat) (d : Int) (hd : lo ≤ d ∧ d ≤ hi) : lo ≤ l.getD i d ∧ l.getD i d ≤ hi := by
  rw [List.getD_eq_getElem?_getD]
  cases h' : l[i]? with
  | none => exact hd
  | some x => exact h x (List.mem_of_getElem? h')
theorem alphas_bound (i : Nat) : 0 ≤ alphas.getD i 0 ∧ alphas.getD i 0 ≤ 120432 := getD_bound _ _ _ (by decide) _ _ (by decide)
theorem formF_0 {c : Nat} {which : Int} (h : Int.fmod which 12 = 0) : formF c which = ⟨#[c]⟩ := by rw [formF, if_pos h]; rfl
theorem formF_1 {c : Nat} {which : Int} (h0 : Int.fmod which 12 ≠ 0) (h : Int.fmod which 12 = 1) : formF c which = ⟨#[((c : Int) - 32).toNat]⟩ := by rw [formF, if_neg h0, if_pos h]
theorem formF_2 {c : Nat} {which : Int} (h0 : Int.fmod which 12 ≠ 0) (h : Int.fmod which 12 ≠ 1) : formF c which = ⟨#[(([119808, 119860, 119912, 120016, 120172, 120224, 120276, 120328, 120380, 120432] : List Int).getD (Int.fmod which 12 - 2).toNat 0 + c - 97).toNat]⟩ := by rw [formF, if_neg h0, if_neg h]; rfl
set_option maxRecDepth 100000 in
set_option maxHeartbeats 1000000 in
theorem c_form (w : World) (news : Led) (c : Nat) (hc : 97 ≤ c ∧ c ≤ 122) (t1 : Tok) (which : Int) (t2 : Tok) :
   Ctr w 1 8 148 news [.str ⟨#[c]⟩ t1, .int which t2] (fun v more => more = [] ∧ ∃ t, v = .str (formF c which) t) := by
  unfold Ctr; k_fill; intros; rename_i hret
  refine wpAny_call ?_
  k_dflt cell_enter
  k_steps
  · refine hret _ [] _ _ ?_ ?_ ?_
    rotate_left
    · k_asm
    · walk_at "ctr_news"
    have e := formF_0 (c := c) (which := which) (by assumption)
    exact ⟨rfl, _, congrArg (fun x => Value.str x _) e.symm⟩
  · refine hret _ [] _ _ ?_ ?_ ?_
    rotate_left
    · k_asm
    · walk_at "ctr_news"
    have e := formF_1 (c := c) (which := which) (by assumption) (by assumption)
    exact ⟨rfl, _, congrArg (fun x => Value.str x _) e.symm⟩
  · have hb := alphas_bound (which.fmod 12 - 2).toNat
    unfold alphas at hb
    refine chr_of_range (by omega) (by omega) ?_
    k_steps
    refine hret _ [] _ _ ?_ ?_ ?_
    rotate_left
    · k_asm
    · walk_at "ctr_news"
    have e := formF_2 (c := c) (which := which) (by assumption) (by assumption)
    exact ⟨rfl, _, congrArg (fun x => Value.str x _) e.symm⟩
noncomputable def b1L : List Int := [173, 847, 6150, 6155, 6156, 6157, 8203, 8204, 8205, 8288, 65279, 65024, 65025, 65026, 65027, 65028, 65029, 65030, 65031, 65032, 65033, 65034, 65035, 65036, 65037, 65038, 65039]
noncomputable def nothingN (which : Int) : Nat := (b1L.getD (Int.fmod which 27).toNat 0).toNat
theorem b1L_is : (173 :: 847 :: 6150 :: 6155 :: 6156 :: 6157 :: 8203 :: 8204 :: 8205 :: 8288 :: 65279 :: rangeInts 65024 1 ((65040 : Int) - 65024).toNat : List Int) = b1L := by decide +kernel
theorem b1L_bound (i : Nat) : 0 ≤ b1L.getD i 0 ∧ b1L.getD i 0 ≤ 65279 := getD_bound _ _ _ (by decide) _ _ (by decide)
set_option maxRecDepth 100000 in
set_option maxHeartbeats 1000000 in
theorem c_nothing (w : World) (news : Led) (which : Int) (t2 : Tok) :
   Ctr w 1 8 141 news [.int which t2] (fun v more => more = [] ∧ ∃ t, v = .str ⟨#[nothingN which]⟩ t) := by
  unfold Ctr; k_fill; intros; rename_i hret
  refine wpAny_call ?_
  k_dflt cell_enter
  k_steps
  have hI9 := IntsAre.ofCarried (by with_reducible assumption)
  k_steps
  have hb := b1L_bound (which.fmod 27).toNat
  have hl := congrArg (fun l : List Int => l.getD (which.fmod 27).toNat 0) b1L_is
  refine chr_of_range (by rw [hl]; exact hb.1) (by rw [hl]; exact Int.le_trans hb.2 (by decide)) ?_
  k_steps
  refine hret _ [] _ _ ?_ ?_ ?_
  rotate_left
  · k_asm
  · walk_at "ctr_news"
  exact ⟨rfl, _, congrArg (fun x : Int => Value.str ⟨#[x.toNat]⟩ _) hl⟩
end
section
open PySem PySem.W PyProof.Rows PySem.Spec PySem.Calls
set_option Elab.async false
theorem fresh_MG1 : True := by
  w_top off
  trivial
noncomputable def fLt (x y : UInt64) : Bool := Float64.cmp x y == some .lt
noncomputable def fMax2 (x y : UInt64) : UInt64 := if fLt x y = true then y else x
noncomputable def fMin2 (x y : UInt64) : UInt64 := if fLt y x = true then y else x
noncomputable def fMax3 (r g b : UInt64) : UInt64 := fMax2 (fMax2 r g) b
noncomputable def fMin3 (r g b : UInt64) : UInt64 := fMin2 (fMin2 r g) b
theorem max_three_f {prog : Program} {w : World} {A : Around} {E : Value → Shared → Prop} {s : Shared} {Q : Value → Shared → Prop} {r g b : UInt64} {t u x : Tok} {h₀ : Heap} {L : Addr} {m : Str → Option Value} {news : Led}
    (hh : A.handled = none) (F : Fr h₀ L s.heap m) (N : News h₀ L s.heap news)
    (h : ∀ h' tk v, Fr h₀ L h' m → News h₀ L h' news → Q (.float (fMax3 r g b) v) { s with heap := h', toks := tk }) :
    wpAny (model prog w) A (call (.builtin "max") [.float r t, .float g u, .float b x]) Q E s := by
  have hT : (s.heap.push { cls := .type "tuple", data := .seq #[.float r t, .float g u, .float b x] }).IsTuple s.heap.objs.size #[.float r t, .float g u, .float b x] := ⟨_, Heap.get?_push_size _ rfl, rfl, 0, rfl⟩
  refine call_max_three (wpAny_pyIter_tuple hT ?_)
  have hsz : (s.heap.push { cls := .type "tuple", data := .seq #[.float r t, .float g u, .float b x] }).objs.size = s.heap.objs.size + 1 := Heap.size_push ..
  refine ⟨_, [_, s.heap.objs.size], [_], _, _, _, _, rfl, Walks.tuple (A := A.in1) hh _ s.heap.objs.size (by rw [hsz]; exact Nat.ne_of_lt (Nat.lt_succ_self _)) #[.float r t, .float g u, .float b x],
    ⟨⟨_, Heap.get?_push_size _ rfl, rfl, rfl⟩, hT.push _⟩, fun c hc => ?_, by simp, Flt.cmpOf_gt #[.float r t, .float g u, .float b x] (by intro v hv; simp at hv; rcases hv with rfl | rfl | rfl <;> exact .float _ _), fun v h' tk hP hk => ?_⟩
  · show c < ((s.heap.push _).push _).objs.size
    rw [Heap.size_push, hsz]
    rcases List.mem_cons.mp hc with rfl | hc
    · rw [hsz]; exact Nat.lt_succ_self _
    · rcases List.mem_cons.mp hc with rfl | hc
      · exact Nat.lt_succ_of_lt (Nat.lt_succ_self _)
      · cases hc
  · have hold : ∀ c o, s.heap.get? c = some o → h'.get? c = some o := fun c o e => by
      refine hk c o (fun hm => ?_) (Heap.get?_push_of_some _ (Heap.get?_push_of_some _ e))
      rcases List.mem_cons.mp hm with e1 | hm
      · have := Heap.lt_size e; rw [e1, hsz] at this; exact Nat.lt_irrefl _ (Nat.lt_of_succ_lt this)
      · cases hm
    have hv : ∃ y, v = .float (fMax3 r g b) y := by
      cases h1 : fLt r g <;> cases h2 : fLt r b <;> cases h3 : fLt g b <;>
        simp [argBest, Flt.ltV, fMax3, fMax2, h1, h2, h3, show (Float64.cmp r g == some .lt) = fLt r g from rfl, show (Float64.cmp r b == some .lt) = fLt r b from rfl, show (Float64.cmp g b == some .lt) = fLt g b from rfl] at hP ⊢ <;> exact ⟨_, hP.symm⟩
    obtain ⟨y, rfl⟩ := hv
    exact h h' tk y (F.grownK hold) (N.grown hold)
theorem min_three_f {prog : Program} {w : World} {A : Around} {E : Value → Shared → Prop} {s : Shared} {Q : Value → Shared → Prop} {r g b : UInt64} {t u x : Tok} {h₀ : Heap} {L : Addr} {m : Str → Option Value} {news : Led}
    (hh : A.handled = none) (F : Fr h₀ L s.heap m) (N : News h₀ L s.heap news)
    (h : ∀ h' tk v, Fr h₀ L h' m → News h₀ L h' news → Q (.float (fMin3 r g b) v) { s with heap := h', toks := tk }) :
    wpAny (model prog w) A (call (.builtin "min") [.float r t, .float g u, .float b x]) Q E s := by
  have hT : (s.heap.push { cls := .type "tuple", data := .seq #[.float r t, .float g u, .float b x] }).IsTuple s.heap.objs.size #[.float r t, .float g u, .float b x] := ⟨_, Heap.get?_push_size _ rfl, rfl, 0, rfl⟩
  refine call_min_three (wpAny_pyIter_tuple hT ?_)
  have hsz : (s.heap.push { cls := .type "tuple", data := .seq #[.float r t, .float g u, .float b x] }).objs.size = s.heap.objs.size + 1 := Heap.size_push ..
  refine ⟨_, [_, s.heap.objs.size], [_], _, _, _, _, rfl, Walks.tuple (A := A.in1) hh _ s.heap.objs.size (by rw [hsz]; exact Nat.ne_of_lt (Nat.lt_succ_self _)) #[.float r t, .float g u, .float b x],
    ⟨⟨_, Heap.get?_push_size _ rfl, rfl, rfl⟩, hT.push _⟩, fun c hc => ?_, by simp, Flt.cmpOf_lt #[.float r t, .float g u, .float b x] (by intro v hv; simp at hv; rcases hv with rfl | rfl | rfl <;> exact .float _ _), fun v h' tk hP hk => ?_⟩
  · show c < ((s.heap.push _).push _).objs.size
    rw [Heap.size_push, hsz]
    rcases List.mem_cons.mp hc with rfl | hc
    · rw [hsz]; exact Nat.lt_succ_self _
    · rcases List.mem_cons.mp hc with rfl | hc
      · exact Nat.lt_succ_of_lt (Nat.lt_succ_self _)
      · cases hc
  · have hold : ∀ c o, s.heap.get? c = some o → h'.get? c = some o := fun c o e => by
      refine hk c o (fun hm => ?_) (Heap.get?_push_of_some _ (Heap.get?_push_of_some _ e))
      rcases List.mem_cons.mp hm with e1 | hm
      · have := Heap.lt_size e; rw [e1, hsz] at this; exact Nat.lt_irrefl _ (Nat.lt_of_succ_lt this)
      · cases hm
    have hv : ∃ y, v = .float (fMin3 r g b) y := by
      cases h1 : fLt g r <;> cases h2 : fLt b r <;> cases h3 : fLt b g <;>
        simp [argBest, Flt.ltV, fMin3, fMin2, h1, h2, h3, show (Float64.cmp g r == some .lt) = fLt g r from rfl, show (Float64.cmp b r == some .lt) = fLt b r from rfl, show (Float64.cmp b g == some .lt) = fLt b g from rfl] at hP ⊢ <;> exact ⟨_, hP.symm⟩
    obtain ⟨y, rfl⟩ := hv
    exact h h' tk y (F.grownK hold) (N.grown hold)
local macro_rules | `(tactic| walk_at "call builtin:max") => `(tactic| (k_here; (with_reducible show wpAny _ _ (call (Value.builtin "max") [Value.float _ _, Value.float _ _, Value.float _ _]) _ _ _); refine max_three_f rfl (by k_asm) (by k_asm) ?_; intro h9 tk9 t9 F9 N9; (try dsimp only); (try k_fold)))
local macro_rules | `(tactic| walk_at "call builtin:min") => `(tactic| (k_here; (with_reducible show wpAny _ _ (call (Value.builtin "min") [Value.float _ _, Value.float _ _, Value.float _ _]) _ _ _); refine min_three_f rfl (by k_asm) (by k_asm) ?_; intro h9 tk9 t9 F9 N9; (try dsimp only); (try k_fold)))
noncomputable abbrev tup3 (x y z : UInt64) (a b c : Tok) (n : Nat) : Obj := { cls := .type "tuple", data := .seq #[.float x a, .float y b, .float z c] n }
noncomputable def Tup3 (x y z : UInt64) (v : Value) (more : Led) : Prop := ∃ D a b c n, v = .ref D ∧ more = [(D, tup3 x y z a b c n)]
noncomputable def Tup3p (x y z : UInt64) (v : Value) (more : Led) : Prop := ∃ D a b c n, v = .ref D ∧ more = [(D, tup3 x y z a b c n)] ∧ 1 ≤ a ∧ 1 ≤ b ∧ 1 ≤ c
theorem gen_toks {M : Model} {A : Around} {α : Type} {t : Sem α} {Q : α → Shared → Prop} {E : Value → Shared → Prop} {h : Heap} {g : Array GenState} {d : Drawn} {k : Nat} {os : OsState}
    (H : ∀ k', 1 ≤ k' → wpAny M A t Q E ⟨h, g, d, k', os⟩) : wpAny M A t Q E ⟨h, g, d, k + 1, os⟩ := H _ (Nat.le_add_left _ _)
local macro_rules | `(tactic| walk_at "execs cons") => `(tactic| (k_here; with_reducible refine gen_toks ?_; intro tk9 hk9))
noncomputable abbrev fL (r g b : UInt64) : UInt64 := Float64.div (Float64.add (fMax3 r g b) (fMin3 r g b)) 4611686018427387904
set_option maxRecDepth 100000 in
set_option maxHeartbeats 1000000 in
theorem c_hls_grey (w : World) (news : Led) (r g b : UInt64) (t1 t2 t3 : Tok) (hg : (Float64.cmp (fMin3 r g b) (fMax3 r g b) == some Ordering.eq) = true) :
   Ctr w 1 8 85 news [.float r t1, .float g t2, .float b t3] (Tup3p 0 (fL r g b) 0) := by
  unfold Ctr; k_fill; intros; rename_i hret
  refine wpAny_call ?_
  k_dflt cell_enter
  k_steps
  refine' hret _ (?p1 :: []) _ _ ?eR ?eF ?eN
  case eF => k_asm
  case eN => k_asm
  refine ⟨_, _, _, _, _, rfl, rfl, ?_, ?_, ?_⟩ <;> first | assumption | exact Nat.le_add_left _ _
noncomputable abbrev fRan (r g b : UInt64) : UInt64 := Float64.sub (fMax3 r g b) (fMin3 r g b)
noncomputable abbrev fSat (r g b : UInt64) : UInt64 := Float64.div (fRan r g b) (Float64.add (fMax3 r g b) (fMin3 r g b))
noncomputable abbrev fHue (r g b : UInt64) : UInt64 := (Float64.divmod (Float64.div (Float64.sub (Float64.add 4616189618054758400 (Float64.div (Float64.sub (fMax3 r g b) g) (fRan r g b))) (Float64.div (Float64.sub (fMax3 r g b) r) (fRan r g b))) 4618441417868443648) 4607182418800017408).2
set_option maxRecDepth 100000 in
set_option maxHeartbeats 1000000 in
theorem c_hls_col (w : World) (news : Led) (r g b : UInt64) (t1 t2 t3 : Tok) (h1 : (Float64.cmp (fMin3 r g b) (fMax3 r g b) == some Ordering.eq) = false)
   (h2 : (Float64.cmp (fL r g b) 4602678819172646912 == some Ordering.lt || Float64.cmp (fL r g b) 4602678819172646912 == some Ordering.eq) = true)
   (h3 : (Float64.cmp r (fMax3 r g b) == some Ordering.eq) = false) (h4 : (Float64.cmp g (fMax3 r g b) == some Ordering.eq) = false)
   (h5 : ¬ Float64.isZero (Float64.add (fMax3 r g b) (fMin3 r g b)) = true) (h6 : ¬ Float64.isZero (Float64.sub (fMax3 r g b) (fMin3 r g b)) = true) :
   Ctr w 1 8 85 news [.float r t1, .float g t2, .float b t3] (Tup3p (fHue r g b) (fL r g b) (fSat r g b)) := by
  unfold Ctr; k_fill; intros; rename_i hret
  refine wpAny_call ?_
  k_dflt cell_enter
  k_steps
  refine' hret _ (?p1 :: []) _ _ ?eR ?eF ?eN
  case eF => k_asm
  case eN => k_asm
  refine ⟨_, _, _, _, _, rfl, rfl, ?_, ?_, ?_⟩ <;> first | assumption | exact Nat.le_add_left _ _
end
section
open PySem PySem.W PyProof.Rows PySem.Spec PySem.Calls
set_option Elab.async false
local macro_rules | `(tactic| walk_at "zz0") => `(tactic| skip)
theorem fresh_MG4 : True := by
  w_top off
  trivial
local macro_rules | `(tactic| walk_at "eval ListComp") => `(tactic| (k_here; k_dflt (refine LCg.ListComp_U (F₀ := by k_asm) (by with_unfolding_all rfl) (by decide) (by rfl) (by decide) (by rfl) ?_); k_dflt lcg_toSrc))
local macro_rules | `(tactic| walk_at "CompSrc") => `(tactic| (k_here; k_dflt (refine LCg.CompSrc.range (by rfl) (by k_asm) (by k_asm) (by assumption) (by first | decide | rfl) (by first | rfl | decide) (by first | size_fits | exact Nat.le_of_ble_eq_true rfl) ?_; intro g'; lcg_lit)))
local macro_rules | `(tactic| walk_at "CompEnd") => `(tactic| (refine' LCg.CompEnd.intro ?F ?N _ (fun _ hp => hp) ?o ?S ?_; (case F => k_asm); (case N => first | with_reducible assumption | assumption); (case o => first | assumption | (simp only [LCg.Off3, and_true]; assumption)); (case S => lcg_src)))
local macro_rules | `(tactic| k_all) => `(tactic| with_reducible assumption)
noncomputable def FitsF (z : Int) : Prop := z.natAbs < 2 ^ 1024 - 2 ^ 970
theorem mul_fi_F {prog : Program} {w : World} {A : Around} {a : UInt64} {t u : Tok} {n : Int} {Q : Value → Shared → Prop} {E : Value → Shared → Prop} {s : Shared} (h : FitsF n) (hA : A.handled = none)
    (h1 : Q (.float (Float64.mul a (Float64.ofInt n)) s.toks) { s with toks := s.toks + 1 }) :
    wpAny (model prog w) A (binaryOp .Mult (.float a t) (.int n u)) Q E s :=
  mul_fi_sharp hA (fun ho => absurd h (Nat.not_lt.2 ho)) (fun _ => h1)
local macro_rules | `(tactic| walk_at "binaryOp Mult float int") => `(tactic| (refine mul_fi_F (by with_reducible assumption) rfl ?_; (try dsimp only)))
local macro_rules | `(tactic| walk_at "subscriptTail") => `(tactic| (k_here; (with_reducible show wpAny _ _ (subscriptTail (Expr.Name (Str.ofString "lamp") _) _ (Value.ref _) (Value.int _ _)) _ _ _); k_dflt (refine' item_tupleT ?t ?a ?b ?c ?d ?_; (case t => exact News.isTup (by k_asm) (by repeat' (first | (with_reducible assumption) | refine List.mem_cons_of_mem _ ?_))); (case a => decide); (case b => decide); (case c => rfl); (case d => rfl); k_whole)))
noncomputable abbrev m_for : { x : Expr × Expr × List Stmt × Pos // d_law_mixed.1.2.1[1]? = some (Stmt.For x.1 x.2.1 x.2.2.1 [] x.2.2.2) } := ⟨(_, _, _, _), rfl⟩
noncomputable abbrev envM (L' : Addr) : Env := envOfC (Str.ofString "_law_mixed") d_law_mixed.1.2.2 L' 174 (Value.ref 173)
noncomputable abbrev mapM (L' la lp : Addr) (power : Int) (tq : Tok) : Str → Option Value := bindL (envM L').kindOf [(Str.ofString "lamps", .ref la), (Str.ofString "places", .ref lp), (Str.ofString "power", .int power tq)] (fun _ => none)
theorem ne3 (n : Nat) : n + 1 + 1 + 1 ≠ n + 1 := by omega
theorem ne2 (n : Nat) : n + 1 + 1 ≠ n + 1 := by omega
theorem ne1 {n : Nat} {news : Led} (h : ∀ p ∈ news, p.1 < n) : ∀ p ∈ news, p.1 ≠ n + 1 := all_ne h (Nat.le_succ n)
theorem drop2 {g h : Heap} {L : Addr} {x y : Addr × Obj} {r : Led} (N : News g L h (x :: y :: r)) : News g L h (x :: r) := cb_drop N (by
  intro p hp
  rcases List.mem_cons.1 hp with e | e
  · exact List.mem_cons.2 (Or.inl e)
  · exact List.mem_cons_of_mem _ (List.mem_cons_of_mem _ e))
theorem fr_map {g h : Heap} {L : Addr} {m m' : Str → Option Value} (F : Fr g L h m) (e : m = m') : Fr g L h m' := e ▸ F
set_option maxRecDepth 100000 in
set_option maxHeartbeats 400000 in
theorem mixed_turn (w : World) {p : Program} {loose : List Str} {mean : ExcName → Option Value} {mg mb : Str → Option Value} {dp un : Nat} {gd : Option (List Code)} {cn : Str} {cs : Scope} {L a : Addr} {ccd : Value} {cl : List (Str × Addr)} {outer : List Env} {base g : Heap} {L' la lp : Nat} {s : Shared} {E : Value → Shared → Prop} {P : Flow → Shared → Prop}
   (X : (heapK w.params).In g) (T : Top p loose mean mg mb g) (B : Below (ktrTop dp un gd cn cs L a ccd cl outer) base (envX cn cs L a ccd cl :: outer) g) {news : Led} (hn1 : ∀ p ∈ news, p.1 ≠ L' + 1) (hn2 : ∀ p ∈ news, p.1 ≠ L' + 1 + 1) (hn3 : ∀ p ∈ news, p.1 ≠ L' + 1 + 1 + 1)
   {power : Int} {tq : Tok} (hp : 0 ≤ power ∧ power ≤ 3) {p0 : Int} {tp : Tok} (hpw : FitsF (p0 ^ power.toNat)) (hp0 : 0 ≤ p0 ∧ p0 ≤ 30) {pl : Option Value}
   {b0 : Addr} {r0 g0 b1 : UInt64} {t5 t6 t7 : Tok} {n5 : Nat} (hb0 : (b0, ({ cls := .type "tuple", data := .seq #[.float r0 t5, .float g0 t6, .float b1 t7] n5 } : Obj)) ∈ news)
   {l0 l1 l2 : UInt64} {u0 u1 u2 : Tok} {nl : Nat} {al T0 : Nat} {o1 o2 o3 : Obj} {v2 v3 : Option Value} (d1 : o1.data = .cell (some (.ref al))) (d2 : o2.data = .cell v2) (d3 : o3.data = .cell v3) (hal : al ≠ L' + 1 ∧ al ≠ L' + 1 + 1 ∧ al ≠ L' + 1 + 1 + 1)
   (hT : IsTup s.heap T0 #[.ref b0, .int p0 tp])
   (F : Fr g L' s.heap (fun y => if y = Str.ofString "place" then pl else mapM L' la lp power tq y)) (N : News g L' s.heap ((al, listOf #[.float l0 u0, .float l1 u1, .float l2 u2] nl) :: (L' + 1 + 1 + 1, o3) :: (L' + 1 + 1, o2) :: (L' + 1, o1) :: news))
   (post : ∀ (D tk' : Nat) (h' : Heap) (o1' o2' o3' : Obj) (x0 x1 x2 : Tok) (v2' v3' : Option Value), o1'.data = .cell (some (.ref D)) → o2'.data = .cell v2' → o3'.data = .cell v3' → D ≠ L' + 1 → D ≠ L' + 1 + 1 → D ≠ L' + 1 + 1 + 1 →
      Fr g L' h' (fun y => if y = Str.ofString "place" then some (.int p0 tp) else mapM L' la lp power tq y) →
      News g L' h' ((D, LCg.lst [.float (Float64.add l0 (Float64.mul r0 (Float64.ofInt (p0 ^ power.toNat)))) x0, .float (Float64.add l1 (Float64.mul g0 (Float64.ofInt (p0 ^ power.toNat)))) x1, .float (Float64.add l2 (Float64.mul b1 (Float64.ofInt (p0 ^ power.toNat)))) x2]) :: (L' + 1 + 1 + 1, o3') :: (L' + 1 + 1, o2') :: (L' + 1, o1') :: news) → P .next { s with heap := h', toks := tk' }) :
   wpAny (model Challenge.rw_qu0064_01.row.prog w) ((ktrTop dp un gd cn cs L a ccd cl outer).deeper (envM L')) (assign m_for.1.1 (envM L') (.ref T0)) (fun _ s₂ => wpAny (model Challenge.rw_qu0064_01.row.prog w) ((ktrTop dp un gd cn cs L a ccd cl outer).deeper (envM L')) (execs m_for.1.2.2.1 (envM L')) P E s₂) E s := by
  revert X; k_fill; intro X
  iterate 67 (first | (k_unfold; (try dsimp only)) | walk1 | (dsimp only; walk1))
  unfold LCg.FinE
  intro D h9 tk9 F9 N9 o9
  simp only [LCg.Off1] at o9
  simp only [List.nil_append, List.cons_append] at N9
  obtain ⟨q1, q2, q3, q4, q5⟩ := o9
  refine' storeX_C ?F ?N ?c ?U ?d ?_
  case F => exact F9
  case N => exact N9
  case c => exact rfl
  case U => exact UpdF.tail (Ne.symm q4) (UpdF.tail hal.1 (UpdF.tail (ne3 _) (UpdF.tail (ne2 _) (UpdF.head hn1))))
  case d => trace "d"; assumption
  intro h7 o7 F7 N7 d7
  repeat (first | walk1 | (dsimp only; walk1))
  have N6 := drop2 N7
  have F6 : Fr g L' h7 (fun y => if y = Str.ofString "place" then some (.int p0 tp) else mapM L' la lp power tq y) := fr_map F7 (by funext y; by_cases h : y = Str.ofString "place" <;> simp only [h, if_true, if_false])
  exact post D _ h7 o7 _ _ _ _ _ _ _ d7 (by assumption) (by assumption) (Ne.symm q4) (Ne.symm q3) (Ne.symm q2) F6 N6
end
section
open PySem PySem.W PyProof.Rows PySem.Spec PySem.Calls
set_option Elab.async false
noncomputable abbrev Lamp := Addr × UInt64 × UInt64 × UInt64
noncomputable def LampsIn (news : Led) (lam : List Lamp) : Prop := ∀ x ∈ lam, ∃ a b c n, (x.1, tup3 x.2.1 x.2.2.1 x.2.2.2 a b c n) ∈ news
noncomputable abbrev Rgb := UInt64 × UInt64 × UInt64
noncomputable def mixS (k : Nat) (l : Rgb) (x : Lamp) (p : Int) : Rgb := (Float64.add l.1 (Float64.mul x.2.1 (Float64.ofInt (p ^ k))), Float64.add l.2.1 (Float64.mul x.2.2.1 (Float64.ofInt (p ^ k))), Float64.add l.2.2 (Float64.mul x.2.2.2 (Float64.ofInt (p ^ k))))
noncomputable def mixF (k : Nat) : Rgb → List Lamp → List Int → Rgb
  | l, x :: xs, p :: ps => mixF k (mixS k l x p) xs ps
  | l, _, _ => l
theorem fits_small {p : Int} {k : Nat} (hp : 0 ≤ p ∧ p ≤ 30) (hk : k ≤ 3) : FitsF (p ^ k) := by
  have h1 : (p ^ k).natAbs ≤ 27000 := by
    rw [Int.natAbs_pow]
    have h2 : p.natAbs ≤ 30 := by omega
    have h3 : p.natAbs ^ k ≤ 30 ^ k := Nat.pow_le_pow_left h2 k
    have h4 : 30 ^ k ≤ 30 ^ 3 := Nat.pow_le_pow_right (by omega) hk
    exact Nat.le_trans h3 h4
  have h5 : (27000 : Nat) < 2 ^ 1024 - 2 ^ 970 := by decide +kernel
  exact Nat.lt_of_le_of_lt h1 h5
theorem neI {I L' a b : Nat} (h : L' + 3 < I) (ha : I ≤ a) (hb : b ≤ L' + 3) : a ≠ b := by omega
theorem leK (L' k : Nat) : L' ≤ L' + k := Nat.le_add_right _ _
theorem mixF_nil (k : Nat) (l : Rgb) (ps : List Int) : mixF k l [] ps = l := by cases ps <;> rfl
theorem mixF_nil2 (k : Nat) (l : Rgb) (xs : List Lamp) : mixF k l xs [] = l := by cases xs <;> rfl
theorem News.sub {g h : Heap} {L : Addr} {a b : Led} (N : News g L h a) (hs : ∀ p ∈ b, p ∈ a) : News g L h b := fun p hp => N p (hs p hp)
noncomputable abbrev plMap (L' la lp : Nat) (power : Int) (tq : Tok) (pl : Option Value) : Str → Option Value := fun y => if y = Str.ofString "place" then pl else mapM L' la lp power tq y
noncomputable abbrev itWs (I : Nat) : List (Addr × String) := [(I + 4, "zip"), (I + 2, "tuple"), (I + 3, "tuple"), (I, "list_iterator"), (I + 1, "list_iterator")]
set_option maxRecDepth 100000 in
set_option maxHeartbeats 1000000 in
theorem mixed_items (w : World) {p : Program} {loose : List Str} {mean : ExcName → Option Value} {mg mb : Str → Option Value} {dp un : Nat} {gd : Option (List Code)} {cn : Str} {cs : Scope} {L a : Addr} {ccd : Value} {cl : List (Str × Addr)} {outer : List Env} {base g : Heap} {L' la lp : Nat} {E : Value → Shared → Prop} {s : Shared} {Q : Flow → Shared → Prop}
   (X : (heapK w.params).In g) (T : Top p loose mean mg mb g) (B : Below (ktrTop dp un gd cn cs L a ccd cl outer) base (envX cn cs L a ccd cl :: outer) g) {news : Led} (hn : ∀ q ∈ news, q.1 < L')
   {power : Int} {tq : Tok} (hp : 0 ≤ power ∧ power ≤ 3) {I : Nat} (hI : L' + 3 < I) {lo1 lo2 : Obj} (hla : (la, lo1) ∈ news) (hlp : (lp, lo2) ∈ news) :
   ∀ (lam : List Lamp) (pls : List (Int × Tok)) (l : Rgb) (u0 u1 u2 : Tok) (nl : Nat) (al : Nat) (o1 o2 o3 : Obj) (v2 v3 : Option Value) (pl : Option Value), LampsIn news lam → (∀ x ∈ pls, 0 ≤ x.1 ∧ x.1 ≤ 30) →
     o1.data = .cell (some (.ref al)) → o2.data = .cell v2 → o3.data = .cell v3 → (al ≠ L' + 1 ∧ al ≠ L' + 1 + 1 ∧ al ≠ L' + 1 + 1 + 1) →
     (∀ (D : Nat) (h' : Heap) (tk' : Nat) (o1' o2' o3' : Obj) (x0 x1 x2 : Tok) (n' : Nat) (pl' : Option Value), o1'.data = .cell (some (.ref D)) →
       Fr g L' h' (plMap L' la lp power tq pl') →
       News g L' h' ((D, listOf #[.float (mixF power.toNat l lam (pls.map (·.1))).1 x0, .float (mixF power.toNat l lam (pls.map (·.1))).2.1 x1, .float (mixF power.toNat l lam (pls.map (·.1))).2.2 x2] n') :: (L' + 1 + 1 + 1, o3') :: (L' + 1 + 1, o2') :: (L' + 1, o1') :: news) → Q .next { s with heap := h', toks := tk' }) →
     ItemsRest Challenge.rw_qu0064_01.row.prog w ((ktrTop dp un gd cn cs L a ccd cl outer).deeper (envM L')) E g (envM L') m_for.1.1 m_for.1.2.2.1 Q s (itWs I) [(la, lo1), (lp, lo2)] (zipItems (lam.map fun x => .ref x.1) (pls.map fun x => .int x.1 x.2)) (plMap L' la lp power tq pl)
       ((al, listOf #[.float l.1 u0, .float l.2.1 u1, .float l.2.2 u2] nl) :: (L' + 1 + 1 + 1, o3) :: (L' + 1 + 1, o2) :: (L' + 1, o1) :: news) := by
  intro lam
  induction lam with
  | nil =>
    intro pls l u0 u1 u2 nl al o1 o2 o3 v2 v3 pl _ _ d1 d2 d3 _ hQ
    show ItemsRest _ _ _ _ _ _ _ _ _ _ _ _ [] _ _
    refine ItemsRest.zero fun h tk F N => ?_
    exact hQ al h tk o1 o2 o3 u0 u1 u2 nl pl d1 F (by rw [mixF_nil]; exact N)
  | cons x lam ihL =>
    intro pls
    cases pls with
    | nil =>
      intro l u0 u1 u2 nl al o1 o2 o3 v2 v3 pl _ _ d1 d2 d3 _ hQ
      show ItemsRest _ _ _ _ _ _ _ _ _ _ _ _ [] _ _
      refine ItemsRest.zero fun h tk F N => ?_
      exact hQ al h tk o1 o2 o3 u0 u1 u2 nl pl d1 F (by rw [List.map_nil, mixF_nil2]; exact N)
    | cons y pls =>
      intro l u0 u1 u2 nl al o1 o2 o3 v2 v3 pl hL hP d1 d2 d3 hal hQ
      obtain ⟨t5, t6, t7, n5, hb0⟩ := hL x (List.mem_cons_self ..)
      have hy := hP y (List.mem_cons_self ..)
      show ItemsRest _ _ _ _ _ _ _ _ _ _ _ _ (.pair (fun _ => .ref x.1) (.int y.1 y.2) :: zipItems (lam.map fun x => .ref x.1) (pls.map fun x => .int x.1 x.2)) _ _
      refine ItemsRest.pair fun T0 t h tk hT F => ?_
      refine AllObj.cons fun z1 hz1 => AllObj.cons fun z2 hz2 => AllObj.cons fun z3 hz3 => AllObj.cons fun z4 hz4 => AllObj.cons fun z5 hz5 => AllObj.nil fun N => ?_
      have hp3 : power.toNat ≤ 3 := by omega
      have hlt : ∀ q ∈ (((I : Nat) + 4, z1) :: (I + 2, z2) :: (I + 3, z3) :: (I, z4) :: (I + 1, z5) :: news : Led), q.1 ≠ L' + 1 ∧ q.1 ≠ L' + 1 + 1 ∧ q.1 ≠ L' + 1 + 1 + 1 := by
        intro q hq
        simp only [List.mem_cons] at hq
        rcases hq with rfl | rfl | rfl | rfl | rfl | hq
        · exact ⟨neI hI (by omega) (by omega), neI hI (by omega) (by omega), neI hI (by omega) (by omega)⟩
        · exact ⟨neI hI (by omega) (by omega), neI hI (by omega) (by omega), neI hI (by omega) (by omega)⟩
        · exact ⟨neI hI (by omega) (by omega), neI hI (by omega) (by omega), neI hI (by omega) (by omega)⟩
        · exact ⟨neI hI (by omega) (by omega), neI hI (by omega) (by omega), neI hI (by omega) (by omega)⟩
        · exact ⟨neI hI (by omega) (by omega), neI hI (by omega) (by omega), neI hI (by omega) (by omega)⟩
        · have := hn q hq
          exact ⟨Nat.ne_of_lt (Nat.lt_of_lt_of_le this (leK L' 1)), Nat.ne_of_lt (Nat.lt_of_lt_of_le this (leK L' 2)), Nat.ne_of_lt (Nat.lt_of_lt_of_le this (leK L' 3))⟩
      refine mixed_turn w (s := { s with heap := h, toks := tk }) (news := ((I : Nat) + 4, z1) :: (I + 2, z2) :: (I + 3, z3) :: (I, z4) :: (I + 1, z5) :: news) (la := la) (lp := lp) (tq := tq) (power := power) (p0 := y.1) (tp := y.2) (pl := pl) (b0 := x.1) (r0 := x.2.1) (g0 := x.2.2.1) (b1 := x.2.2.2) (al := al) (T0 := T0) (o1 := o1) (o2 := o2) (o3 := o3) (l0 := l.1) (l1 := l.2.1) (l2 := l.2.2) (u0 := u0) (u1 := u1) (u2 := u2) (nl := nl)
        X T B (fun q hq => (hlt q hq).1) (fun q hq => (hlt q hq).2.1) (fun q hq => (hlt q hq).2.2) hp (fits_small hy hp3) hy (t5 := t5) (t6 := t6) (t7 := t7) (n5 := n5) (List.mem_cons_of_mem _ (List.mem_cons_of_mem _ (List.mem_cons_of_mem _ (List.mem_cons_of_mem _ (List.mem_cons_of_mem _ hb0))))) d1 d2 d3 hal hT F ?_ ?_
      · refine News.sub N fun q hq => ?_
        simp only [List.mem_cons, List.mem_append, List.not_mem_nil, or_false] at hq ⊢
        rcases hq with h | h | h | h | h | h | h | h | h | h <;> simp only [h, true_or, or_true]
      · intro D tk' h' o1' o2' o3' x0 x1 x2 v2' v3' e1 e2 e3 n1 n2 n3 F' N'
        have ih := ihL pls (mixS power.toNat l x y.1) x0 x1 x2 3 D o1' o2' o3' v2' v3' (some (.int y.1 y.2)) (fun z hz => hL z (List.mem_cons_of_mem _ hz)) (fun z hz => hP z (List.mem_cons_of_mem _ hz)) e1 e2 e3 ⟨n1, n2, n3⟩ hQ
        have N' : News g L' h' ((D, listOf #[.float (mixS power.toNat l x y.1).1 x0, .float (mixS power.toNat l x y.1).2.1 x1, .float (mixS power.toNat l x y.1).2.2 x2] 3) :: (L' + 1 + 1 + 1, o3') :: (L' + 1 + 1, o2') :: (L' + 1, o1') :: ((I : Nat) + 4, z1) :: (I + 2, z2) :: (I + 3, z3) :: (I, z4) :: (I + 1, z5) :: news) := N'
        refine ⟨h', tk', _, _, rfl, F', ?_, ?_, ?_, ih⟩
        · refine News.sub N' fun q hq => ?_
          simp only [List.mem_cons, List.mem_append, List.not_mem_nil, or_false] at hq ⊢
          rcases hq with (h | h | h | h | h) | h | h | h | h | h <;> simp only [h, true_or, or_true]
        · have hr2 : ∀ r ∈ (((I : Nat) + 4, z1) :: (I + 2, z2) :: (I + 3, z3) :: (I, z4) :: (I + 1, z5) :: [] : Led), (I ≤ r.1 ∧ r.2.cls ≠ .type "list") ∧ r ∈ (((I : Nat) + 4, z1) :: (I + 2, z2) :: (I + 3, z3) :: (I, z4) :: (I + 1, z5) :: news : Led) := by
            intro r hr
            simp only [List.mem_cons, List.not_mem_nil, or_false] at hr ⊢
            rcases hr with rfl | rfl | rfl | rfl | rfl
            · exact ⟨⟨Nat.le_add_right _ _, fun e => absurd (show "zip" = "list" from Value.type.inj (hz1.symm.trans e)) (by decide)⟩, Or.inl rfl⟩
            · exact ⟨⟨Nat.le_add_right _ _, fun e => absurd (show "tuple" = "list" from Value.type.inj (hz2.symm.trans e)) (by decide)⟩, Or.inr (Or.inl rfl)⟩
            · exact ⟨⟨Nat.le_add_right _ _, fun e => absurd (show "tuple" = "list" from Value.type.inj (hz3.symm.trans e)) (by decide)⟩, Or.inr (Or.inr (Or.inl rfl))⟩
            · exact ⟨⟨Nat.le_refl _, fun e => absurd (show "list_iterator" = "list" from Value.type.inj (hz4.symm.trans e)) (by decide)⟩, Or.inr (Or.inr (Or.inr (Or.inl rfl)))⟩
            · exact ⟨⟨Nat.le_add_right _ _, fun e => absurd (show "list_iterator" = "list" from Value.type.inj (hz5.symm.trans e)) (by decide)⟩, Or.inr (Or.inr (Or.inr (Or.inr (Or.inl rfl))))⟩
          intro q hq r hr e
          obtain ⟨⟨h1, h2⟩, h3⟩ := hr2 r hr
          rcases List.mem_cons.1 hq with rfl | hq
          · have k1 := (N' _ (List.mem_cons_self ..)).1
            have k2 := (N' r (List.mem_cons_of_mem _ (List.mem_cons_of_mem _ (List.mem_cons_of_mem _ (List.mem_cons_of_mem _ h3))))).1
            rw [← e] at k2
            have k3 := Option.some.inj (k1.symm.trans k2)
            exact h2 (by rw [← k3])
          · have : q.1 < I := by
              rcases List.mem_cons.1 hq with rfl | hq
              · exact Nat.lt_of_le_of_lt (Nat.le_refl _) hI
              · rcases List.mem_cons.1 hq with rfl | hq
                · exact Nat.lt_of_le_of_lt (Nat.le_succ _) hI
                · rcases List.mem_cons.1 hq with rfl | hq
                  · exact Nat.lt_of_le_of_lt (Nat.add_le_add_left (by omega : 1 ≤ 3) L') hI
                  · exact Nat.lt_of_lt_of_le (hn q hq) (Nat.le_of_lt (Nat.lt_of_le_of_lt (Nat.le_add_right _ _) hI))
            exact absurd e (Nat.ne_of_lt (Nat.lt_of_lt_of_le this h1))
        · exact ⟨List.mem_cons_of_mem _ (List.mem_cons_of_mem _ (List.mem_cons_of_mem _ (List.mem_cons_of_mem _ hla))), List.mem_cons_of_mem _ (List.mem_cons_of_mem _ (List.mem_cons_of_mem _ (List.mem_cons_of_mem _ hlp))), trivial⟩
end
section
open PySem PySem.W PyProof.Rows PySem.Spec PySem.Calls
set_option Elab.async false
theorem fresh_MG6 : True := by
  w_top off
  trivial
theorem plMap_of {L' la lp : Nat} {power : Int} {tq : Tok} : mapM L' la lp power tq = plMap L' la lp power tq none := by
  funext y
  show _ = if y = Str.ofString "place" then none else _
  by_cases h : y = Str.ofString "place"
  · rw [if_pos h, h]
    rfl
  · rw [if_neg h]
noncomputable def mixL (power : Int) (lam : List Lamp) (pls : List (Int × Tok)) : Rgb := mixF power.toNat (0, 0, 0) lam (pls.map (·.1))
noncomputable def partF (x : UInt64) : UInt64 := Float64.div x (Float64.ofInt 262144)
set_option maxRecDepth 100000 in
set_option maxHeartbeats 1000000 in
theorem c_mixed (w : World) (news : Led) (la lp : Nat) (lam : List Lamp) (pls : List (Int × Tok)) (n1 n2 : Nat) (hL : LampsIn news lam) (hP : ∀ x ∈ pls, 0 ≤ x.1 ∧ x.1 ≤ 30)
   (hla : (la, listOf (lam.map fun x => Value.ref x.1).toArray n1) ∈ news) (hlp : (lp, listOf (pls.map fun x => Value.int x.1 x.2).toArray n2) ∈ news) (power : Int) (tq : Tok) (hp : 0 ≤ power ∧ power ≤ 3)
   (hh ll ss : UInt64) (H : ∀ news' t1 t2 t3, Ctr w 1 8 85 news' [.float (partF (mixL power lam pls).1) t1, .float (partF (mixL power lam pls).2.1) t2, .float (partF (mixL power lam pls).2.2) t3] (Tup3p hh ll ss)) :
   Ctr w 2 16 174 news [.ref la, .ref lp, .int power tq] (Tup3p hh ll ss) := by
  unfold Ctr; k_fill; intros; rename_i hret
  refine wpAny_call ?_
  k_dflt (walk_at "cells_in")
  k_steps
  k_here
  refine For_turns (by k_asm) ?_
  k_steps
  rename Fr _ _ _ _ => F9
  rename News _ _ _ _ => N9
  rename Below _ _ _ _ => B9
  rename Top _ _ _ _ _ _ => T9
  rename Frag.In _ _ => X9
  rename (∀ p ∈ news, p.1 < _) => hn9
  rename (_ ∧ _ ∧ _ ∧ AllLt _ _) => l9
  have F8 := fr_map F9 (m' := plMap _ la lp power tq none) plMap_of
  refine' ktu_zip (xs := lam.map fun x => Value.ref x.1) (ys := pls.map fun x => Value.int x.1 x.2) rfl F8 N9 (.tail _ (.tail _ (.tail _ (.tail _ hla)))) rfl rfl (.tail _ (.tail _ (.tail _ (.tail _ hlp)))) rfl rfl ?_
  intro I hI
  refine mixed_items w X9 T9 B9 hn9 hp (Nat.lt_of_le_of_lt (Nat.le_refl _) (hI _ (.tail _ (.head _)))) hla hlp lam pls (0, 0, 0) _ _ _ _ _ _ _ _ _ _ _ hL hP (by assumption) (by assumption) (by assumption) ⟨Nat.ne_of_gt l9.2.2.1, Nat.ne_of_gt l9.2.1, Nat.ne_of_gt l9.1⟩ ?_
  intro D h' tk' o1' o2' o3' x0 x1 x2 n' pl' e1 F' N'
  clear F8 F9 N9 hI
  dsimp only
  k_steps
  refine' Ctr.use (H _ _ _ _) ?k1 ?k2 ?k3 ?k4 ?k5 ?kK ?kd ?ku ?_
  walk_at "ctr_use"
  intro v9 more9 h9 tk9 hR9 F9 N9
  obtain ⟨D9, a9, b9, c9, n9, e9, e8, p1, p2, p3⟩ := hR9
  subst e9 e8
  dsimp only
  k_steps
  refine' hret _ (?p1 :: []) _ _ ?eR ?eF ?eN
  case eF => k_asm
  case eN => walk_at "ctr_news"
  exact ⟨_, _, _, _, _, rfl, rfl, p1, p2, p3⟩
end
section
open PySem PySem.W PyProof.Rows PySem.Spec PySem.Calls PySem.SeqAt
set_option Elab.async false
section
variable {prog : Program} {w : World} {A : Around} {E : Value → Shared → Prop} {s : Shared}
theorem booked {h : Heap} (X : (heapK w.params).In h) : NoneBooked h :=
  ⟨fun _ => none, ⟨_, #[], 0, X 2 _ rfl, rfl, by intro e he; simp at he, fun _ => rfl⟩, rfl⟩
theorem tok_ne {t u : Tok} (ht : 1 ≤ t) (hu : 1 ≤ u) : (t == 0 || u == 0) = false := by
  have h1 : t ≠ 0 := Nat.ne_of_gt ht
  have h2 : u ≠ 0 := Nat.ne_of_gt hu
  simp [h1, h2]
theorem eqAt_float {a b : UInt64} {t u : Tok} (ht : 1 ≤ t) (hu : 1 ≤ u) (hb : NoneBooked s.heap) (hc : (Float64.cmp a b == some Ordering.eq) = true) : EqAt A s (.float a t) (.float b u) true := by
  intro prog w E Q h
  unfold eqBool
  refine wpAny_holding ?_
  show wpAny _ _ (if (Value.float a t == Value.float b u) = true then _ else _) Q E s
  split
  · exact wpAny_bind (wpAny_rule (wpAny_pure h))
  · refine wpAny_bind ?_
    show wpAny _ _ (isSame.created (a == b && !Float64.isNaN a) t u) _ E s
    have rest : wpAny (model prog w) A (richCompare .Eq (.float a t) (.float b u) >>= truthOfDropped) Q E s :=
      wpAny_bind (AutoFloatOps.eq_0 (by rw [hc]; exact wpAny_truthy_bool h))
    have fin : ∀ r : Bool, wpAny (model prog w) A (if r = true then Pure.pure true else (richCompare .Eq (.float a t) (.float b u) >>= truthOfDropped)) Q E s := by
      intro r
      cases r with
      | true => exact wpAny_pure h
      | false => exact rest
    unfold isSame.created
    rw [tok_ne ht hu]
    simp only [Bool.false_eq_true, if_false]
    split
    · exact wpAny_pure (fin _)
    · split
      · exact wpAny_pure (fin _)
      · refine wpAny_bind (wpAny_sharingNotTold_none hb ?_)
        simp only [Bool.false_eq_true, if_false]
        refine wpAny_bind (wpAny_sharingNotTold_none hb ?_)
        simp only [Bool.false_eq_true, if_false]
        exact wpAny_bind (wpAny_rule (wpAny_bind (wpAny_askSetting (wpAny_pure (fin _)))))
theorem ne_tup3 {a b : Addr} {x1 x2 x3 y1 y2 y3 : UInt64} {t1 t2 t3 u1 u2 u3 : Tok} {Q : Value → Shared → Prop} (ha : IsTup s.heap a #[.float x1 t1, .float x2 t2, .float x3 t3]) (hb : IsTup s.heap b #[.float y1 u1, .float y2 u2, .float y3 u3])
    (p1 : 1 ≤ t1) (p2 : 1 ≤ t2) (p3 : 1 ≤ t3) (q1 : 1 ≤ u1) (q2 : 1 ≤ u2) (q3 : 1 ≤ u3) (hk : NoneBooked s.heap) (hu : A.units < cLine)
    (e1 : (Float64.cmp x1 y1 == some Ordering.eq) = true) (e2 : (Float64.cmp x2 y2 == some Ordering.eq) = true) (e3 : (Float64.cmp x3 y3 == some Ordering.eq) = true) (h : Q (.bool false) s) :
    wpAny (model prog w) A (compareOp .NotEq (.ref a) (.ref b)) Q E s := by
  refine RcNeAt.tuples (e := fun _ => true) ha hb hu (fun j h1 h2 => ?_) prog w E Q h
  have h1 : j < 3 := h1
  match j, h1 with
  | 0, _ => exact eqAt_float p1 q1 hk e1
  | 1, _ => exact eqAt_float p2 q2 hk e2
  | 2, _ => exact eqAt_float p3 q3 hk e3
end
end
section
open PySem PySem.W PyProof.Rows PySem.Spec PySem.Calls
set_option Elab.async false
theorem fresh_MG7 : True := by
  w_top off
  trivial
section
variable {prog : Program} {w : World} {A : Around} {s : Shared} {h₀ : Heap} {L : Addr} {m : Str → Option Value} {env : Env}
theorem comp_map {elt : Expr} {x : Str} {scope : Scope} {cl : List (Str × Addr)} {S : Led → Prop} {P : Nat → Value → Prop} {Fin : List Value → Led → Prop} {n : Nat} {news : Led} (R : Nat → Value → Prop) (hS : S news)
    (step : ∀ i v I oI C oC D ys m₂ h tk (E' Q' : Value → Shared → Prop), i < n → P i v → LCg.NsObj oC m₂ → m₂ x = some v → Fr h₀ L h m → News h₀ L h ((I, oI) :: (C, oC) :: (D, LCg.lst ys) :: news) → LCg.Off3 I C D news → ((@Ne Nat I C) ∧ (@Ne Nat I D) ∧ (@Ne Nat C D)) →
      (∀ y h' tk', Fr h₀ L h' m → News h₀ L h' ((I, oI) :: (C, oC) :: (D, LCg.lst ys) :: news) → R i y → Q' y { s with heap := h', toks := tk' }) →
      wpAny (model prog w) A (eval elt (compEnvC scope cl C env)) Q' E' { s with heap := h, toks := tk })
    (fin : ∀ ys, ys.length = n → (∀ i y, ys[i]? = some y → R i y) → Fin ys news) : LCg.CompRest prog w A h₀ L m env elt x scope cl s S P Fin n 0 [] news := by
  have go : ∀ k i (ys : List Value), i + k = n → ys.length = i → (∀ i y, ys[i]? = some y → R i y) → LCg.CompRest prog w A h₀ L m env elt x scope cl s S P Fin k i ys news := by
    intro k
    induction k with
    | zero => intro i ys hi hl hr; exact LCg.CompRest.zero (fin ys (by omega) hr)
    | succ k ih =>
      intro i ys hi hl hr
      refine LCg.CompRest.succ fun v I oI C oC D m₂ h tk E' hP hC hx F N off ne => ?_
      refine step i v I oI C oC D ys m₂ h tk E' _ (by omega) hP hC hx F N off ne fun y h' tk' F' N' hR => ?_
      refine LCg.CompEnd.intro F' N' news (fun _ hp => hp) off hS (ih (i + 1) (ys ++ [y]) (by omega) (by simp [hl]) fun j z hz => ?_)
      by_cases hj : j < ys.length
      · rw [List.getElem?_append_left hj] at hz
        exact hr j z hz
      · have hj' : j = i := by
          have : j < (ys ++ [y]).length := (List.getElem?_eq_some_iff.mp hz).1
          simp at this; omega
        subst hj'
        rw [← hl, List.getElem?_concat_length] at hz
        cases hz
        exact hR
  exact go n 0 [] (by omega) rfl (by simp)
variable {E : Value → Shared → Prop} {body : List Stmt} {Q : Flow → Shared → Prop}
theorem iter_rangeTurns {y : Str} {py : Pos} {r : Addr} {a b : Int} {t u v : Tok} {n : Nat} {m₀ : Str → Option Value} {news : Led}
    (hh : A.handled = none) (hr : IsRange s.heap r a b 1 t u v) (hsm : Builtin.Range.small a b 1 = true) (hn : Builtin.Range.rangeSize a b 1 = (n : Int)) (F : Fr h₀ env.locals s.heap m₀) (N : News h₀ env.locals s.heap news)
    (rest₀ : ∀ I : Addr, (∀ p ∈ news, p.1 < I) → ItemsRest prog w A E h₀ env (.Name y py) body Q s [(I, "range_iterator")] [] ((List.range n).map fun i : Nat => Itm.tok fun t => .int (a + (i : Int)) t) m₀ news) :
    wpAny (model prog w) A (pyIter (.ref r)) (fun it s₂ => TurnsAt prog w A h₀ env (.Name y py) body Q E it s₂) E s := by
  refine wpAny_pyIter_range hr hsm ?_
  have W : Walks prog w A s.heap.objs.size [s.heap.objs.size] [s.heap.objs.size] n (fun i v => i < n ∧ ∃ t, v = .int (a + i * 1) t)
      (fun i h => IsRangeIter h s.heap.objs.size (a + (i : Nat) * 1) ((n : Int) - (i : Nat)) 1) := (Walks.range hh _ a 1 n).bound
  refine ktu_core (tk0 := s.toks) (keep := []) (KTurns.ofWalks W fun i v s Q E st q => wpAny_pure q) (by simp) (fun i v h hp => ?_) (fun i h st => ?_) (fun b hb => ?_) (fun b hb => by simpa using hb) (fun b hb => ?_) ?_ (fun p hp hI => ?_) ?_ (F.push _) (fun p hp => ⟨Heap.get?_push_of_some _ (N p hp).1, (N p hp).2⟩) trivial (rest₀ _ fun p hp => Heap.lt_size (N p hp).1)
  · obtain ⟨hi, t, rfl⟩ := hp
    exact ⟨.tok fun t => .int (a + (i : Int)) t, by simp [hi], t, by rw [Int.mul_one]⟩
  · exact ⟨[(s.heap.objs.size, _)], ⟨⟨rfl, rfl⟩, trivial⟩, fun p hp => by rw [List.mem_singleton.mp hp]; exact st⟩
  · have hb' : b = s.heap.objs.size := by simpa using hb
    rw [hb']
    exact ⟨List.mem_cons_self .., next_is_new F⟩
  · exact .inl (by simpa using hb)
  · intro hI
    exact absurd F.ns.lt ((List.mem_singleton.mp hI) ▸ Nat.lt_irrefl _)
  · exact absurd (Heap.lt_size (N p hp).1) ((List.mem_singleton.mp hI) ▸ Nat.lt_irrefl _)
  · show IsRangeIter _ _ _ _ _
    rw [hn]
    simpa using Heap.get?_push_size _ rfl
end
theorem News.tl {g h : Heap} {L : Addr} {x : Addr × Obj} {r : Led} (N : News g L h (x :: r)) : News g L h r := fun p hp => N p (List.mem_cons_of_mem _ hp)
theorem unrEnd1 {h₀ h' : Heap} {L I c : Addr} {s₁ : Shared} {z o : Obj} {news : Led} {rest : (Str → Option Value) → Led → Prop} {tk : Nat} {m' : Str → Option Value} (F : Fr h₀ L h' m') (N : News h₀ L h' ((I, z) :: (c, o) :: news))
    (hc : c < I) (hn : ∀ p ∈ news, p.1 < I) (r : rest m' ((c, o) :: news)) : UnrEndW h₀ L s₁ [(I, z)] rest { s₁ with heap := h', toks := tk } :=
  ⟨h', tk, m', (c, o) :: news, rfl, F, N, fun p hp q hq => by
    have e : q = (I, z) := List.mem_singleton.mp hq
    subst e
    exact Nat.ne_of_lt ((List.mem_cons.mp hp).elim (fun e => e ▸ hc) (hn p)), r⟩
theorem ints_of {ys : List Value} {ns : List Int} (hl : ys.length = ns.length) (h : ∀ i y, ys[i]? = some y → ∃ t, y = Value.int (ns.getD i 0) t) : IntsAre ys ns := by
  induction ys generalizing ns with
  | nil =>
    cases ns with
    | nil => exact .nil
    | cons => cases hl
  | cons y ys ih =>
    cases ns with
    | nil => cases hl
    | cons n ns =>
      obtain ⟨t, rfl⟩ := h 0 y (by simp)
      exact .cons _ t (ih (by simpa using hl) fun i z hz => by simpa using h (i + 1) z (by simpa using hz))
theorem item_of {tls : List (Int × Tok)} {f : Int × Tok → Int} {i : Nat} {v : Value} (h : ((tls.map fun x => Value.int x.1 x.2).toArray)[i]? = some v) : ∃ x ∈ tls, v = .int x.1 x.2 ∧ (tls.map f).getD i 0 = f x := by
  rw [List.getElem?_toArray, List.getElem?_map] at h
  obtain ⟨x, h1, h2⟩ := Option.map_eq_some_iff.mp h
  refine ⟨x, List.mem_of_getElem? h1, h2.symm, ?_⟩
  rw [List.getD_eq_getElem?_getD, List.getElem?_map, h1]
  rfl
noncomputable abbrev divF (a b : Int) : UInt64 := Float64.ofFrac (decide (a < 0) != decide (b < 0)) a.natAbs b.natAbs
noncomputable abbrev thirdI (k : Nat) (tls : List (Int × Tok)) : Int := (List.map (fun x : Int × Tok => x.1 ^ k) tls).sum.fdiv 3
local macro_rules | `(tactic| walk_at "execs cons") => `(tactic| (k_here; with_reducible refine gen_toks ?_; intro tk9 hk9))
local macro_rules | `(tactic| walk_at "eval ListComp") => `(tactic| (k_here; k_dflt (refine LCg.ListComp_U (F₀ := by k_asm) (by with_unfolding_all rfl) (by decide) (by rfl) (by decide) (by rfl) ?_); k_dflt lcg_toSrc))
noncomputable abbrev mapC (la lp lt : Nat) (prod : Value) (mO : Str → Option Value) : Str → Option Value := fun y => if y = Str.ofString "lamps" then some (.ref la) else if y = Str.ofString "places" then some (.ref lp) else if y = Str.ofString "told" then some (.ref lt) else if y = Str.ofString "product" then some prod else mO y
theorem mapC_end {la lp lt : Nat} {pr : Value} {mO : Str → Option Value} {a b : Option Value} : (fun y => if y = Str.ofString "due" then a else if y = Str.ofString "third" then b else mapC la lp lt pr mO y) = mapC la lp lt pr (fun y => if y = Str.ofString "due" then a else if y = Str.ofString "third" then b else mO y) := by
  funext y
  unfold mapC
  by_cases h1 : y = Str.ofString "lamps"
  · subst h1; rfl
  · by_cases h2 : y = Str.ofString "places"
    · subst h2; rfl
    · by_cases h3 : y = Str.ofString "told"
      · subst h3; rfl
      · by_cases h4 : y = Str.ofString "product"
        · subst h4; rfl
        · simp only [if_neg h1, if_neg h2, if_neg h3, if_neg h4]
theorem mapC_of {la lp lt : Nat} {pr : Value} {m : Str → Option Value} (h1 : m (Str.ofString "lamps") = some (.ref la)) (h2 : m (Str.ofString "places") = some (.ref lp)) (h3 : m (Str.ofString "told") = some (.ref lt)) (h4 : m (Str.ofString "product") = some pr) : m = mapC la lp lt pr m := by
  funext y
  unfold mapC
  by_cases e1 : y = Str.ofString "lamps"
  · subst e1; rw [if_pos rfl, h1]
  · by_cases e2 : y = Str.ofString "places"
    · subst e2; rw [if_neg e1, if_pos rfl, h2]
    · by_cases e3 : y = Str.ofString "told"
      · subst e3; rw [if_neg e1, if_neg e2, if_pos rfl, h3]
      · by_cases e4 : y = Str.ofString "product"
        · subst e4; rw [if_neg e1, if_neg e2, if_neg e3, if_pos rfl, h4]
        · rw [if_neg e1, if_neg e2, if_neg e3, if_neg e4]
theorem all_o {L1 I : Nat} {o : Obj} {news : Led} (h : ∀ p ∈ (L1, o) :: news, @LT.lt Nat _ p.1 I) (o' : Obj) : ∀ p ∈ (L1, o') :: news, @LT.lt Nat _ p.1 I := List.forall_mem_cons.2 ⟨h (L1, o) (.head _), fun p hp => h p (.tail _ hp)⟩
noncomputable abbrev dc_for : { x : Expr × Expr × List Stmt × Pos // d_law_colours_hold.1.2.1[0]? = some (Stmt.For x.1 x.2.1 x.2.2.1 [] x.2.2.2) } := ⟨(_, _, _, _), rfl⟩
noncomputable abbrev envCo (L' : Addr) : Env := envOfC (Str.ofString "_law_colours_hold") d_law_colours_hold.1.2.2 L' 179 (Value.ref 178)
set_option maxRecDepth 100000 in
set_option maxHeartbeats 4000000 in
theorem low_turn (w : World) {p : Program} {loose : List Str} {mean : ExcName → Option Value} {mg mb : Str → Option Value} {dp un : Nat} {gd : Option (List Code)} {cn : Str} {cs : Scope} {L a : Addr} {ccd : Value} {cl : List (Str × Addr)} {outer : List Env} {base g : Heap} {L' : Nat} {s : Shared} {E : Value → Shared → Prop} {P : Flow → Shared → Prop}
   (X : (heapK w.params).In g) (T : Top p loose mean mg mb g) (B : Below (ktrTop dp un gd cn cs L a ccd cl outer) base (envX cn cs L a ccd cl :: outer) g) (hdp : dp + 3 < recursionLimit) (hun : un + 24 < cLine)
   {news : Led} {la lp lt : Nat} {tls : List (Int × Tok)} {n3 : Nat} (hT : ∀ x ∈ tls, 0 ≤ x.1 ∧ x.1 ≤ 30) (hlen : tls.length ≤ 27) (hlt : (lt, listOf (tls.map fun x => Value.int x.1 x.2).toArray n3) ∈ news) {prod : Int} {tq : Tok}
   {n : Int} {ti : Tok} (hn : 0 ≤ n ∧ n < 3) (i0 : Float64.isInf (divF (thirdI n.toNat tls) 262144) = false) {l0 : UInt64} (e0 : (Float64.cmp l0 (divF (thirdI n.toNat tls) 262144) == some Ordering.eq) = true)
   (H0 : Flt.Hid (∀ led t, (∀ p ∈ news, p ∈ led) → Ctr w 2 16 174 led [.ref la, .ref lp, .int n t] (Tup3p 0 l0 0)))
   (hlN : ∀ p ∈ news, @LT.lt Nat _ p.1 L') {I : Nat} {z o : Obj} {c : Option Value} (hd : o.data = .cell c) (hI0 : ∀ p ∈ (L' + 1, o) :: news, @LT.lt Nat _ p.1 I) {mO : Str → Option Value}
   (F : Fr g L' s.heap (mapC la lp lt (.int prod tq) mO)) (N : News g L' s.heap ((I, z) :: (L' + 1, o) :: news))
   (post : ∀ (h' : Heap) (tk' : Nat) (mO' : Str → Option Value) (o' : Obj) (c' : Option Value), o'.data = .cell c' → Fr g L' h' (mapC la lp lt (.int prod tq) mO') → News g L' h' ((I, z) :: (L' + 1, o') :: news) → P .next { s with heap := h', toks := tk' }) :
   wpAny (model Challenge.rw_qu0064_01.row.prog w) ((ktrTop dp un gd cn cs L a ccd cl outer).deeper (envCo L')) (assign dc_for.1.1 (envCo L') (.int n ti)) (fun _ s₂ => wpAny (model Challenge.rw_qu0064_01.row.prog w) ((ktrTop dp un gd cn cs L a ccd cl outer).deeper (envCo L')) (execs dc_for.1.2.2.1 (envCo L')) P E s₂) E s := by
  revert X; k_fill; intro X
  have hn3 : n ≠ 3 := Int.ne_of_lt hn.2
  have hI1 : @LT.lt Nat _ (L' + 1) I := hI0 _ (.head _)
  have hI2 : AllLt I news := by
    have h := hI0
    k_lt h
    exact h.2
  k_steps
  refine LCg.CompSrc.ledger rfl (by k_asm) (by k_asm) (.tail _ (.tail _ hlt)) (by rw [List.size_toArray, List.length_map, sizeLine_eq]; omega) ?_
  intro g08
  dsimp only
  refine comp_map (fun i y => ∃ t, y = Value.int ((tls.map fun x => x.1 ^ n.toNat).getD i 0) t) (Or.inr ⟨_, .tail _ (.tail _ hlt), rfl, _, rfl⟩) ?_ ?_
  · intro i v I1 oI C oC D ys m₂ h1 tk1 E' Q' hi hPi hC hx F1 N1 off ne ret
    obtain ⟨x, hx9, rfl, hx8⟩ := item_of (f := fun x => x.1 ^ n.toNat) hPi
    have hx7 := hT x hx9
    k_steps
    exact ret _ _ _ F1 N1 ⟨_, by rw [hx8]⟩
  intro ys0 hl09 hR09
  have hI09 := ints_of (ns := tls.map fun x => x.1 ^ n.toNat) (by simpa using hl09) hR09
  k_steps
  · exact absurd (by assumption) hn3
  refine' Ctr.use (H0.out _ _ ?sub0) ?k01 ?k02 ?k03 ?k04 ?k05 ?kK0 ?kd0 ?ku0 ?_
  case k04 => k_asm
  case sub0 => intro p hp; (repeat' first | exact hp | refine List.mem_cons_of_mem _ ?_)
  case k01 => k_asm
  case k02 => k_asm
  case k03 => k_asm
  case k05 => k_asm
  case kK0 => exact rfl
  case kd0 => ktr_room
  case ku0 => ktr_units
  intro v0 more0 hh0 tkk0 hR0 F0 N0
  obtain ⟨D0, a0, b0, c0, n09, e09, e08, p01, p02, p03⟩ := hR0
  subst e09 e08
  dsimp only [List.cons_append, List.nil_append] at N0 ⊢
  walk1
  k_here
  refine ne_tup3 (News.isTup N0 (by k_mem)) (News.isTup N0 (by k_mem)) p01 p02 p03 (by assumption) (Nat.le_add_left _ _) (Nat.le_add_left _ _) (booked (Frag.In.keeps (by k_asm) (Fr.keep F0))) ?_ (by decide +kernel) e0 (by decide +kernel) ?_
  · ktr_units
  k_steps
  have M0 := News.tl (News.tl (News.tl N0))
  refine post _ _ _ _ _ (by with_reducible assumption) (fr_map F0 mapC_end) M0
set_option maxRecDepth 100000 in
set_option maxHeartbeats 4000000 in
theorem c_colours (w : World) (news : Led) (la lp lt : Nat) (tls : List (Int × Tok)) (n3 : Nat) (hT : ∀ x ∈ tls, 0 ≤ x.1 ∧ x.1 ≤ 30) (hlen : tls.length ≤ 27)
   (hlt : (lt, listOf (tls.map fun x => Value.int x.1 x.2).toArray n3) ∈ news) (prod : Int) (tq : Tok) (hpr : 0 ≤ prod ∧ prod ≤ 27)
   (i0 : Float64.isInf (divF (thirdI 0 tls) 262144) = false) (l0 : UInt64) (e0 : (Float64.cmp l0 (divF (thirdI 0 tls) 262144) == some Ordering.eq) = true)
   (H0 : Flt.Hid (∀ led t, (∀ p ∈ news, p ∈ led) → Ctr w 2 16 174 led [.ref la, .ref lp, .int 0 t] (Tup3p 0 l0 0)))
   (i1 : Float64.isInf (divF (thirdI 1 tls) 262144) = false) (l1 : UInt64) (e1 : (Float64.cmp l1 (divF (thirdI 1 tls) 262144) == some Ordering.eq) = true)
   (H1 : Flt.Hid (∀ led t, (∀ p ∈ news, p ∈ led) → Ctr w 2 16 174 led [.ref la, .ref lp, .int 1 t] (Tup3p 0 l1 0)))
   (i2 : Float64.isInf (divF (thirdI 2 tls) 262144) = false) (l2 : UInt64) (e2 : (Float64.cmp l2 (divF (thirdI 2 tls) 262144) == some Ordering.eq) = true)
   (H2 : Flt.Hid (∀ led t, (∀ p ∈ news, p ∈ led) → Ctr w 2 16 174 led [.ref la, .ref lp, .int 2 t] (Tup3p 0 l2 0)))
   (i3 : Float64.isInf (divF (thirdI 3 tls) 262144) = false) (q3 : Flt.Hid (2 * thirdI 3 tls ≠ 0)) (j3 : Float64.isInf (divF (36 * prod) (2 * thirdI 3 tls)) = false) (h3 l3 s3 : UInt64) (f3 : (Float64.cmp h3 4604930618986332160 == some Ordering.eq) = true) (e3 : (Float64.cmp l3 (divF (thirdI 3 tls) 262144) == some Ordering.eq) = true) (g3 : (Float64.cmp s3 (divF (36 * prod) (2 * thirdI 3 tls)) == some Ordering.eq) = true)
   (H3 : Flt.Hid (∀ led t, (∀ p ∈ news, p ∈ led) → Ctr w 2 16 174 led [.ref la, .ref lp, .int 3 t] (Tup3p h3 l3 s3)))
   : Ctr w 3 24 179 news [.ref la, .ref lp, .ref lt, .int prod tq] (fun v more => more = [] ∧ v = .bool true) := by
  unfold Ctr; k_fill; intros; rename_i hret
  refine wpAny_call ?_
  k_dflt (walk_at "cells_in")
  k_steps
  k_here
  refine For_turns (by k_asm) ?_
  k_steps
  rename Fr _ _ _ _ => F9
  have F8 := fr_map F9 (mapC_of (la := la) (lp := lp) (lt := lt) (pr := .int prod tq) rfl rfl rfl rfl)
  clear F9
  refine' iter_rangeTurns (n := 4) rfl ?h1 ?h2 ?h3 ?h4 ?h5 ?_
  case h1 => assumption
  case h2 => decide
  case h3 => rfl
  case h4 => exact F8
  case h5 => k_asm
  intro I hI
  have hI0 := hI
  rename Below _ _ _ _ => B9
  rename Top _ _ _ _ _ _ => T9
  rename Frag.In _ _ => X9
  rename (∀ p ∈ news, p.1 < _) => l9
  rename (Obj.data _ = Data.cell _) => d9
  k_lt hI
  show ItemsRest _ _ _ _ _ _ _ _ _ _ _ _ [.tok fun t => .int 0 t, .tok fun t => .int 1 t, .tok fun t => .int 2 t, .tok fun t => .int 3 t] _ _
  refine ItemsRest.tok fun t0 h0' tk0' F0' => AllObj.cons fun z0 hz0 => AllObj.nil fun N0' => ?_
  dsimp only at N0'
  refine low_turn w (s := { heap := h0', gens := _, drawn := _, toks := tk0', os := _ }) (n := 0) X9 T9 B9 (by assumption) (by assumption) hT hlen hlt ⟨by decide, by decide⟩ i0 e0 H0 l9 d9 (all_o hI0 _) F0' N0' ?_
  intro h80 tk80 m80 o80 c80 d80 F80 N80
  clear F0' N0'
  refine unrEnd1 F80 N80 (hI0 _ (List.mem_cons_self ..)) (fun p hp => hI0 p (List.mem_cons_of_mem _ hp)) ⟨trivial, ?_⟩
  refine ItemsRest.tok fun t1 h1' tk1' F1' => AllObj.cons fun z1 hz1 => AllObj.nil fun N1' => ?_
  dsimp only at N1'
  refine low_turn w (s := { heap := h1', gens := _, drawn := _, toks := tk1', os := _ }) (n := 1) X9 T9 B9 (by assumption) (by assumption) hT hlen hlt ⟨by decide, by decide⟩ i1 e1 H1 l9 d80 (all_o hI0 _) F1' N1' ?_
  intro h81 tk81 m81 o81 c81 d81 F81 N81
  clear F1' N1'
  refine unrEnd1 F81 N81 (hI0 _ (List.mem_cons_self ..)) (fun p hp => hI0 p (List.mem_cons_of_mem _ hp)) ⟨trivial, ?_⟩
  refine ItemsRest.tok fun t2 h2' tk2' F2' => AllObj.cons fun z2 hz2 => AllObj.nil fun N2' => ?_
  dsimp only at N2'
  refine low_turn w (s := { heap := h2', gens := _, drawn := _, toks := tk2', os := _ }) (n := 2) X9 T9 B9 (by assumption) (by assumption) hT hlen hlt ⟨by decide, by decide⟩ i2 e2 H2 l9 d81 (all_o hI0 _) F2' N2' ?_
  intro h82 tk82 m82 o82 c82 d82 F82 N82
  clear F2' N2'
  refine unrEnd1 F82 N82 (hI0 _ (List.mem_cons_self ..)) (fun p hp => hI0 p (List.mem_cons_of_mem _ hp)) ⟨trivial, ?_⟩
  refine ItemsRest.tok fun t3 h3' tk3' F3' => AllObj.cons fun z3 hz3 => AllObj.nil fun N3' => ?_
  dsimp only at N3'
  k_steps
  refine LCg.CompSrc.ledger rfl (by k_asm) (by k_asm) (.tail _ (.tail _ hlt)) (by rw [List.size_toArray, List.length_map, sizeLine_eq]; omega) ?_
  intro g38
  dsimp only
  refine comp_map (fun i y => ∃ t, y = Value.int ((tls.map fun x => x.1 ^ 3).getD i 0) t) (Or.inr ⟨_, .tail _ (.tail _ hlt), rfl, _, rfl⟩) ?_ ?_
  · intro i v I1 oI C oC D ys m₂ h1 tk1 E' Q' hi hPi hC hx F1 N1 off ne ret
    obtain ⟨x, hx9, rfl, hx8⟩ := item_of (f := fun x => x.1 ^ 3) hPi
    have hx7 := hT x hx9
    k_steps
    exact ret _ _ _ F1 N1 ⟨_, by rw [hx8]; rfl⟩
  intro ys3 hl39 hR39
  have hI39 := ints_of (ns := tls.map fun x => x.1 ^ 3) (by simpa using hl39) hR39
  k_steps
  · exact absurd (by assumption : 2 * thirdI 3 tls = 0) q3.out
  refine' Ctr.use (H3.out _ _ ?sub3) ?k31 ?k32 ?k33 ?k34 ?k35 ?kK3 ?kd3 ?ku3 ?_
  case k34 => k_asm
  case sub3 => intro p hp; (repeat' first | exact hp | refine List.mem_cons_of_mem _ ?_)
  case k31 => k_asm
  case k32 => k_asm
  case k33 => k_asm
  case k35 => k_asm
  case kK3 => exact rfl
  case kd3 => ktr_room
  case ku3 => ktr_units
  intro v3 more3 hh3 tkk3 hR3 F3 N3
  obtain ⟨D3, a3, b3, c3, n39, e39, e38, p31, p32, p33⟩ := hR3
  subst e39 e38
  dsimp only [List.cons_append, List.nil_append] at N3 ⊢
  walk1
  k_here
  refine ne_tup3 (News.isTup N3 (by k_mem)) (News.isTup N3 (by k_mem)) p31 p32 p33 (by assumption) (Nat.le_add_left _ _) (Nat.le_add_left _ _) (booked (Frag.In.keeps (by k_asm) (Fr.keep F3))) ?_ f3 e3 g3 ?_
  · ktr_units
  k_steps
  have M3 := News.tl (News.tl (News.tl (News.tl N3)))
  k_here
  refine unrEnd1 F3 M3 (hI0 _ (List.mem_cons_self ..)) (fun p hp => hI0 p (List.mem_cons_of_mem _ hp)) ⟨trivial, ?_⟩
  refine ItemsRest.zero fun hz tkz Fz Nz => ?_
  dsimp only
  k_steps
  refine hret _ [] _ _ ?_ ?_ ?_
  rotate_left
  · k_asm
  · walk_at "ctr_news"
  exact ⟨rfl, rfl⟩
end
section
open PySem PySem.W PyProof.Rows PySem.Spec PySem.Calls
set_option Elab.async false
theorem fresh_MG8 : True := by
  w_top off
  trivial
local macro_rules | `(tactic| walk_at "subscriptTail") => `(tactic| (k_here; (with_reducible show wpAny _ _ (subscriptTail (Expr.Name (Str.ofString "lamp") _) _ (Value.ref _) (Value.int _ _)) _ _ _); k_dflt (refine' item_tupleT ?t ?a ?b ?c ?d ?_; (case t => exact News.isTup (by k_asm) (by repeat' (first | (with_reducible assumption) | refine List.mem_cons_of_mem _ ?_))); (case a => decide); (case b => decide); (case c => rfl); (case d => rfl); k_whole)))
noncomputable abbrev sh_for : { x : Expr × Expr × List Stmt × Pos // d_law_shelves.1.2.1[1]? = some (Stmt.For x.1 x.2.1 x.2.2.1 [] x.2.2.2) } := ⟨(_, _, _, _), rfl⟩
noncomputable abbrev envS (L' : Addr) : Env := envOf (Str.ofString "_law_shelves") d_law_shelves.1.2.2 L' 169 (Value.ref 168)
noncomputable abbrev mapS (S : Addr) (mR : Str → Option Value) (kv pv lv : Option Value) : Str → Option Value := fun y => if y = Str.ofString "k" then kv else if y = Str.ofString "place" then pv else if y = Str.ofString "lamp" then lv else if y = Str.ofString "shelves" then some (.ref S) else mR y
noncomputable def SepS (S a0 a1 a2 : Nat) (news : Led) : Prop := S ≠ a0 ∧ S ≠ a1 ∧ S ≠ a2 ∧ a0 ≠ a1 ∧ a0 ≠ a2 ∧ a1 ≠ a2 ∧ ∀ p ∈ news, p.1 ≠ a0 ∧ p.1 ≠ a1 ∧ p.1 ≠ a2
theorem updS0 {I S a0 a1 a2 : Nat} {z s o o' o1 o2 : Obj} {news : Led} (h : SepS S a0 a1 a2 news) (hI : a0 < I) : Upd a0 o o' ((I, z) :: (S, s) :: (a0, o) :: (a1, o1) :: (a2, o2) :: news) ((I, z) :: (S, s) :: (a0, o') :: (a1, o1) :: (a2, o2) :: news) :=
  .tail (Nat.ne_of_gt hI) (.tail h.1 (.head (List.forall_mem_cons.2 ⟨Ne.symm h.2.2.2.1, List.forall_mem_cons.2 ⟨Ne.symm h.2.2.2.2.1, fun p hp => (h.2.2.2.2.2.2 p hp).1⟩⟩)))
theorem updS1 {I S a0 a1 a2 : Nat} {z s o o' o1 o2 : Obj} {news : Led} (h : SepS S a0 a1 a2 news) (hI : a1 < I) : Upd a1 o o' ((I, z) :: (S, s) :: (a0, o1) :: (a1, o) :: (a2, o2) :: news) ((I, z) :: (S, s) :: (a0, o1) :: (a1, o') :: (a2, o2) :: news) :=
  .tail (Nat.ne_of_gt hI) (.tail h.2.1 (.tail h.2.2.2.1 (.head (List.forall_mem_cons.2 ⟨Ne.symm h.2.2.2.2.2.1, fun p hp => (h.2.2.2.2.2.2 p hp).2.1⟩))))
theorem updS2 {I S a0 a1 a2 : Nat} {z s o o' o1 o2 : Obj} {news : Led} (h : SepS S a0 a1 a2 news) (hI : a2 < I) : Upd a2 o o' ((I, z) :: (S, s) :: (a0, o1) :: (a1, o2) :: (a2, o) :: news) ((I, z) :: (S, s) :: (a0, o1) :: (a1, o2) :: (a2, o') :: news) :=
  .tail (Nat.ne_of_gt hI) (.tail h.2.2.1 (.tail h.2.2.2.2.1 (.tail h.2.2.2.2.2.1 (.head (fun p hp => (h.2.2.2.2.2.2 p hp).2.2)))))
theorem ltS {I a0 a1 a2 : Nat} {o0 o1 o2 : Obj} {news : Led} (h0 : a0 < I) (h1 : a1 < I) (h2 : a2 < I) (h : ∀ p ∈ news, @LT.lt Nat _ p.1 I) : ∀ p ∈ ((a0, o0) :: (a1, o1) :: (a2, o2) :: news : Led), @LT.lt Nat _ p.1 I :=
  List.forall_mem_cons.2 ⟨h0, List.forall_mem_cons.2 ⟨h1, List.forall_mem_cons.2 ⟨h2, h⟩⟩⟩
noncomputable def addAt (ns : List Int) (p : Int) (x : UInt64) : List Int := ns.set p.toNat (ns.getD p.toNat 0 + Flt.toInt Float64.truncOf x)
theorem addAt_length (ns : List Int) (p : Int) (x : UInt64) : (addAt ns p x).length = ns.length := List.length_set ..
noncomputable abbrev Sh := List Int × List Int × List Int
noncomputable def shS (n : Sh) (x : Lamp) (p : Int) : Sh := (addAt n.1 p x.2.1, addAt n.2.1 p x.2.2.1, addAt n.2.2 p x.2.2.2)
noncomputable def shF : Sh → List Lamp → List Int → Sh
  | n, x :: xs, p :: ps => shF (shS n x p) xs ps
  | n, _, _ => n
theorem shF_nil (l : Sh) (ps : List Int) : shF l [] ps = l := by cases ps <;> rfl
theorem shF_nil2 (l : Sh) (xs : List Lamp) : shF l xs [] = l := by cases xs <;> rfl
theorem map3 {S : Addr} {mR : Str → Option Value} {kv pv lv k2 k1 k0 p l : Option Value} : (fun y => if y = Str.ofString "k" then k2 else if y = Str.ofString "k" then k1 else if y = Str.ofString "k" then k0 else if y = Str.ofString "place" then p else if y = Str.ofString "lamp" then l else mapS S mR kv pv lv y) = mapS S mR k2 p l := by
  funext y
  unfold mapS
  by_cases h1 : y = Str.ofString "k"
  · simp only [if_pos h1]
  · by_cases h2 : y = Str.ofString "place"
    · simp only [if_neg h1, if_pos h2]
    · by_cases h3 : y = Str.ofString "lamp"
      · simp only [if_neg h1, if_neg h2, if_pos h3]
      · simp only [if_neg h1, if_neg h2, if_neg h3]
set_option maxRecDepth 100000 in
set_option maxHeartbeats 1000000 in
theorem shelves_turn (w : World) {p : Program} {loose : List Str} {mean : ExcName → Option Value} {mg mb : Str → Option Value} {dp un : Nat} {gd : Option (List Code)} {cn : Str} {cs : Scope} {L a : Addr} {ccd : Value} {cl : List (Str × Addr)} {outer : List Env} {base g : Heap} {L' : Nat} {s : Shared} {E : Value → Shared → Prop} {P : Flow → Shared → Prop}
   (X : (heapK w.params).In g) (T : Top p loose mean mg mb g) (B : Below (ktrTop dp un gd cn cs L a ccd cl outer) base (envX cn cs L a ccd cl :: outer) g) {news : Led} {mR : Str → Option Value}
   {S a0 a1 a2 : Nat} {nS m0 m1 m2 : Nat} {vs0 vs1 vs2 : List Value} {ns0 ns1 ns2 : List Int} (j0 : IntsAre vs0 ns0) (j1 : IntsAre vs1 ns1) (j2 : IntsAre vs2 ns2)
   {p0 : Int} {tp : Tok} (hp0 : 0 ≤ p0 ∧ p0 ≤ 30) (k0 : p0 < (ns0.length : Int)) (k1 : p0 < (ns1.length : Int)) (k2 : p0 < (ns2.length : Int))
   {b0 : Addr} {r0 g0 b1 : UInt64} {t5 t6 t7 : Tok} {n5 : Nat} (f1 : Float64.isNaN r0 = false) (f2 : Float64.isInf r0 = false) (f3 : Float64.isNaN g0 = false) (f4 : Float64.isInf g0 = false) (f5 : Float64.isNaN b1 = false) (f6 : Float64.isInf b1 = false)
   (hE : Flt.Hid (PassesOwn (model Challenge.rw_qu0064_01.row.prog w) ((ktrTop dp un gd cn cs L a ccd cl outer).deeper (envS L')) (envS L') E)) (hb0 : (b0, ({ cls := .type "tuple", data := .seq #[.float r0 t5, .float g0 t6, .float b1 t7] n5 } : Obj)) ∈ news)
   {T0 : Addr} (hT : IsTup s.heap T0 #[.ref b0, .int p0 tp]) {kv pv lv : Option Value}
   (hS : Flt.Hid (SepS S a0 a1 a2 news)) (F : Fr g L' s.heap (mapS S mR kv pv lv)) (N : News g L' s.heap ((S, listOf #[.ref a0, .ref a1, .ref a2] nS) :: (a0, listOf vs0.toArray m0) :: (a1, listOf vs1.toArray m1) :: (a2, listOf vs2.toArray m2) :: news))
   (post : ∀ (h' : Heap) (tk' : Nat) (us0 us1 us2 : List Value) (t2 : Tok), IntsAre us0 (addAt ns0 p0 r0) → IntsAre us1 (addAt ns1 p0 g0) → IntsAre us2 (addAt ns2 p0 b1) → Fr g L' h' (mapS S mR (some (.int 2 t2)) (some (.int p0 tp)) (some (.ref b0))) →
     News g L' h' ((S, listOf #[.ref a0, .ref a1, .ref a2] nS) :: (a0, listOf us0.toArray m0) :: (a1, listOf us1.toArray m1) :: (a2, listOf us2.toArray m2) :: news) → P .next { s with heap := h', toks := tk' }) :
   wpAny (model Challenge.rw_qu0064_01.row.prog w) ((ktrTop dp un gd cn cs L a ccd cl outer).deeper (envS L')) (assign sh_for.1.1 (envS L') (.ref T0)) (fun _ s₂ => wpAny (model Challenge.rw_qu0064_01.row.prog w) ((ktrTop dp un gd cn cs L a ccd cl outer).deeper (envS L')) (execs sh_for.1.2.2.1 (envS L')) P E s₂) E s := by
  revert X; k_fill; intro X
  k_steps
  k_here
  refine For_turns (hE := hE.out) (by k_asm) ?_
  k_steps
  refine' iter_rangeTurns (n := 3) rfl ?h1 ?h2 ?h3 ?h4 ?h5 ?_
  case h1 => assumption
  case h2 => decide
  case h3 => rfl
  case h4 => k_asm
  case h5 => k_asm
  intro I hI
  have hI0 := hI
  have hIn : ∀ p ∈ news, @LT.lt Nat _ p.1 I := fun p hp => hI0 p (.tail _ (.tail _ (.tail _ (.tail _ hp))))
  k_lt hI
  show ItemsRest _ _ _ _ _ _ _ _ _ _ _ _ [.tok fun t => .int 0 t, .tok fun t => .int 1 t, .tok fun t => .int 2 t] _ _
  refine ItemsRest.tok fun t0 h0' tk0' F0' => AllObj.cons fun z0 hz0 => AllObj.nil fun N0' => ?_
  dsimp only at N0'
  k_steps
  k_here
  refine' ksa_set ?F0 ?N0 (updS0 hS.out hI.2.1) ?j0 ?p0 ?kl0 ?fit0 ?_
  case F0 => k_asm
  case N0 => k_asm
  case j0 => exact j0
  case p0 => exact hp0.1
  case kl0 => exact k0
  case fit0 => have := hp0.2; omega
  intro hh0 FF0 NN0 jj0 hl0 hs0
  clear hs0
  k_steps
  k_here
  refine unrEnd1 FF0 NN0 hI.1 (ltS hI.2.1 hI.2.2.1 hI.2.2.2.1 hIn) ⟨trivial, ?_⟩
  refine ItemsRest.tok fun t1 h1' tk1' F1' => AllObj.cons fun z1 hz1 => AllObj.nil fun N1' => ?_
  dsimp only at N1'
  k_steps
  k_here
  refine' ksa_set ?F1 ?N1 (updS1 hS.out hI.2.2.1) ?j1 ?p1 ?kl1 ?fit1 ?_
  case F1 => k_asm
  case N1 => k_asm
  case j1 => exact j1
  case p1 => exact hp0.1
  case kl1 => exact k1
  case fit1 => have := hp0.2; omega
  intro hh1 FF1 NN1 jj1 hl1 hs1
  clear hs1
  k_steps
  k_here
  refine unrEnd1 FF1 NN1 hI.1 (ltS hI.2.1 hI.2.2.1 hI.2.2.2.1 hIn) ⟨trivial, ?_⟩
  refine ItemsRest.tok fun t2 h2' tk2' F2' => AllObj.cons fun z2 hz2 => AllObj.nil fun N2' => ?_
  dsimp only at N2'
  k_steps
  k_here
  refine' ksa_set ?F2 ?N2 (updS2 hS.out hI.2.2.2.1) ?j2 ?p2 ?kl2 ?fit2 ?_
  case F2 => k_asm
  case N2 => k_asm
  case j2 => exact j2
  case p2 => exact hp0.1
  case kl2 => exact k2
  case fit2 => have := hp0.2; omega
  intro hh2 FF2 NN2 jj2 hl2 hs2
  clear hs2
  k_steps
  k_here
  refine unrEnd1 FF2 NN2 hI.1 (ltS hI.2.1 hI.2.2.1 hI.2.2.2.1 hIn) ⟨trivial, ?_⟩
  refine ItemsRest.zero fun hz tkz Fz Nz => ?_
  dsimp only
  k_steps
  exact post _ _ _ _ _ _ jj0 jj1 jj2 (fr_map Fz map3) Nz
set_option maxRecDepth 100000 in
set_option maxHeartbeats 1000000 in
theorem shelves_items (w : World) {p : Program} {loose : List Str} {mean : ExcName → Option Value} {mg mb : Str → Option Value} {dp un : Nat} {gd : Option (List Code)} {cn : Str} {cs : Scope} {L a : Addr} {ccd : Value} {cl : List (Str × Addr)} {outer : List Env} {base g : Heap} {L' la lp : Nat} {E : Value → Shared → Prop} {s : Shared} {Q : Flow → Shared → Prop}
   (X : (heapK w.params).In g) (T : Top p loose mean mg mb g) (B : Below (ktrTop dp un gd cn cs L a ccd cl outer) base (envX cn cs L a ccd cl :: outer) g) {news : Led} {mR : Str → Option Value}
   {S a0 a1 a2 : Nat} {nS m0 m1 m2 : Nat} (hS : SepS S a0 a1 a2 news) {I : Nat} (hn : ∀ q ∈ news, @LT.lt Nat _ q.1 I) (hIS : S < I ∧ a0 < I ∧ a1 < I ∧ a2 < I)
   (hE : Flt.Hid (PassesOwn (model Challenge.rw_qu0064_01.row.prog w) ((ktrTop dp un gd cn cs L a ccd cl outer).deeper (envS L')) (envS L') E)) {lo1 lo2 : Obj} (hla : (la, lo1) ∈ news) (hlp : (lp, lo2) ∈ news) :
   ∀ (lam : List Lamp) (pls : List (Int × Tok)) (n : Sh) (vs0 vs1 vs2 : List Value) (kv pv lv : Option Value), LampsIn news lam → (∀ x ∈ lam, (Float64.isNaN x.2.1 = false ∧ Float64.isInf x.2.1 = false) ∧ (Float64.isNaN x.2.2.1 = false ∧ Float64.isInf x.2.2.1 = false) ∧ Float64.isNaN x.2.2.2 = false ∧ Float64.isInf x.2.2.2 = false) →
     (∀ x ∈ pls, (0 ≤ x.1 ∧ x.1 ≤ 30) ∧ x.1 < (n.1.length : Int) ∧ x.1 < (n.2.1.length : Int) ∧ x.1 < (n.2.2.length : Int)) → IntsAre vs0 n.1 → IntsAre vs1 n.2.1 → IntsAre vs2 n.2.2 →
     (∀ (h' : Heap) (tk' : Nat) (us0 us1 us2 : List Value) (kv' pv' lv' : Option Value), IntsAre us0 (shF n lam (pls.map (·.1))).1 → IntsAre us1 (shF n lam (pls.map (·.1))).2.1 → IntsAre us2 (shF n lam (pls.map (·.1))).2.2 →
       Fr g L' h' (mapS S mR kv' pv' lv') →
       News g L' h' ((S, listOf #[.ref a0, .ref a1, .ref a2] nS) :: (a0, listOf us0.toArray m0) :: (a1, listOf us1.toArray m1) :: (a2, listOf us2.toArray m2) :: news) → Q .next { s with heap := h', toks := tk' }) →
     ItemsRest Challenge.rw_qu0064_01.row.prog w ((ktrTop dp un gd cn cs L a ccd cl outer).deeper (envS L')) E g (envS L') sh_for.1.1 sh_for.1.2.2.1 Q s (itWs I) [(la, lo1), (lp, lo2)] (zipItems (lam.map fun x => .ref x.1) (pls.map fun x => .int x.1 x.2)) (mapS S mR kv pv lv)
       ((S, listOf #[.ref a0, .ref a1, .ref a2] nS) :: (a0, listOf vs0.toArray m0) :: (a1, listOf vs1.toArray m1) :: (a2, listOf vs2.toArray m2) :: news) := by
  intro lam
  induction lam with
  | nil =>
    intro pls n vs0 vs1 vs2 kv pv lv _ _ _ j0 j1 j2 hQ
    show ItemsRest _ _ _ _ _ _ _ _ _ _ _ _ [] _ _
    refine ItemsRest.zero fun h tk F N => ?_
    refine hQ h tk vs0 vs1 vs2 kv pv lv ?_ ?_ ?_ F N <;> rw [shF_nil] <;> assumption
  | cons x lam ihL =>
    intro pls
    cases pls with
    | nil =>
      intro n vs0 vs1 vs2 kv pv lv _ _ _ j0 j1 j2 hQ
      show ItemsRest _ _ _ _ _ _ _ _ _ _ _ _ [] _ _
      refine ItemsRest.zero fun h tk F N => ?_
      refine hQ h tk vs0 vs1 vs2 kv pv lv ?_ ?_ ?_ F N <;> rw [List.map_nil, shF_nil2] <;> assumption
    | cons y pls =>
      intro n vs0 vs1 vs2 kv pv lv hL hf hP j0 j1 j2 hQ
      obtain ⟨t5, t6, t7, n5, hb0⟩ := hL x (List.mem_cons_self ..)
      obtain ⟨hy, k0, k1, k2⟩ := hP y (List.mem_cons_self ..)
      obtain ⟨⟨f1, f2⟩, ⟨f3, f4⟩, f5, f6⟩ := hf x (List.mem_cons_self ..)
      show ItemsRest _ _ _ _ _ _ _ _ _ _ _ _ (.pair (fun _ => .ref x.1) (.int y.1 y.2) :: zipItems (lam.map fun x => .ref x.1) (pls.map fun x => .int x.1 x.2)) _ _
      refine ItemsRest.pair fun T0 t h tk hT F => ?_
      refine AllObj.cons fun z1 hz1 => AllObj.cons fun z2 hz2 => AllObj.cons fun z3 hz3 => AllObj.cons fun z4 hz4 => AllObj.cons fun z5 hz5 => AllObj.nil fun N => ?_
      have hge : ∀ q ∈ (((I : Nat) + 4, z1) :: (I + 2, z2) :: (I + 3, z3) :: (I, z4) :: (I + 1, z5) :: [] : Led), @LE.le Nat _ I q.1 := by
        intro q hq
        simp only [List.mem_cons, List.not_mem_nil, or_false] at hq
        rcases hq with rfl | rfl | rfl | rfl | rfl
        · exact Nat.le_add_right _ _
        · exact Nat.le_add_right _ _
        · exact Nat.le_add_right _ _
        · exact Nat.le_refl _
        · exact Nat.le_add_right _ _
      have hS' : SepS S a0 a1 a2 (((I : Nat) + 4, z1) :: (I + 2, z2) :: (I + 3, z3) :: (I, z4) :: (I + 1, z5) :: news) := by
        refine ⟨hS.1, hS.2.1, hS.2.2.1, hS.2.2.2.1, hS.2.2.2.2.1, hS.2.2.2.2.2.1, fun q hq => ?_⟩
        rcases List.mem_append.1 (show q ∈ (((I : Nat) + 4, z1) :: (I + 2, z2) :: (I + 3, z3) :: (I, z4) :: (I + 1, z5) :: [] : Led) ++ news from hq) with h | h
        · have := hge q h
          exact ⟨Nat.ne_of_gt (Nat.lt_of_lt_of_le hIS.2.1 this), Nat.ne_of_gt (Nat.lt_of_lt_of_le hIS.2.2.1 this), Nat.ne_of_gt (Nat.lt_of_lt_of_le hIS.2.2.2 this)⟩
        · exact hS.2.2.2.2.2.2 q h
      refine shelves_turn w (s := { s with heap := h, toks := tk }) (news := ((I : Nat) + 4, z1) :: (I + 2, z2) :: (I + 3, z3) :: (I, z4) :: (I + 1, z5) :: news) (p0 := y.1) (tp := y.2) (b0 := x.1) (r0 := x.2.1) (g0 := x.2.2.1) (b1 := x.2.2.2) (T0 := T0) (nS := nS) (m0 := m0) (m1 := m1) (m2 := m2)
        X T B j0 j1 j2 hy k0 k1 k2 (t5 := t5) (t6 := t6) (t7 := t7) (n5 := n5) f1 f2 f3 f4 f5 f6 hE (List.mem_cons_of_mem _ (List.mem_cons_of_mem _ (List.mem_cons_of_mem _ (List.mem_cons_of_mem _ (List.mem_cons_of_mem _ hb0))))) hT ⟨hS'⟩ F ?_ ?_
      · refine News.sub N fun q hq => ?_
        simp only [List.mem_cons, List.mem_append, List.not_mem_nil, or_false] at hq ⊢
        rcases hq with h | h | h | h | h | h | h | h | h | h <;> simp only [h, true_or, or_true]
      · intro h' tk' us0 us1 us2 t2 i0 i1 i2 F' N'
        have ih := ihL pls (shS n x y.1) us0 us1 us2 (some (.int 2 t2)) (some (.int y.1 y.2)) (some (.ref x.1)) (fun z hz => hL z (List.mem_cons_of_mem _ hz)) (fun z hz => hf z (List.mem_cons_of_mem _ hz))
          (fun z hz => by
            have := hP z (List.mem_cons_of_mem _ hz)
            refine ⟨this.1, ?_, ?_, ?_⟩
            · show z.1 < ((addAt n.1 y.1 x.2.1).length : Int); rw [addAt_length]; exact this.2.1
            · show z.1 < ((addAt n.2.1 y.1 x.2.2.1).length : Int); rw [addAt_length]; exact this.2.2.1
            · show z.1 < ((addAt n.2.2 y.1 x.2.2.2).length : Int); rw [addAt_length]; exact this.2.2.2) i0 i1 i2 hQ
        refine ⟨h', tk', _, _, rfl, F', ?_, ?_, ?_, ih⟩
        · refine News.sub N' fun q hq => ?_
          simp only [List.mem_cons, List.mem_append, List.not_mem_nil, or_false] at hq ⊢
          rcases hq with (h | h | h | h | h) | h | h | h | h | h <;> simp only [h, true_or, or_true]
        · intro q hq r hr
          have k1 := hge r hr
          have k2 : @LT.lt Nat _ q.1 I := by
            simp only [List.mem_cons] at hq
            rcases hq with rfl | rfl | rfl | rfl | hq
            · exact hIS.1
            · exact hIS.2.1
            · exact hIS.2.2.1
            · exact hIS.2.2.2
            · exact hn q hq
          exact Nat.ne_of_lt (Nat.lt_of_lt_of_le k2 k1)
        · exact ⟨.tail _ (.tail _ (.tail _ (.tail _ hla))), .tail _ (.tail _ (.tail _ (.tail _ hlp))), trivial⟩
end
section
open PySem PySem.W PyProof.Rows PySem.Spec PySem.Calls
set_option Elab.async false
local macro_rules | `(tactic| walk_at "zz0") => `(tactic| skip)
theorem fresh_MG9 : True := by
  w_top off
  trivial
local macro_rules | `(tactic| walk_at "exec For Tuple Call cons nil") => `(tactic| (k_here; refine For_turns (by k_asm) ?_))
noncomputable def Shelves (n : Sh) (v : Value) (more : Led) : Prop := ∃ S a0 a1 a2 k m0 m1 m2 us0 us1 us2, v = .ref S ∧ more = [(S, listOf #[.ref a0, .ref a1, .ref a2] k), (a0, listOf us0.toArray m0), (a1, listOf us1.toArray m1), (a2, listOf us2.toArray m2)] ∧ IntsAre us0 n.1 ∧ IntsAre us1 n.2.1 ∧ IntsAre us2 n.2.2
theorem mapS_of {S : Addr} {mR : Str → Option Value} (h1 : mR (Str.ofString "k") = none) (h2 : mR (Str.ofString "place") = none) (h3 : mR (Str.ofString "lamp") = none) : (fun y => if y = Str.ofString "shelves" then some (Value.ref S) else mR y) = mapS S mR none none none := by
  funext y
  unfold mapS
  by_cases e1 : y = Str.ofString "k"
  · subst e1
    rw [if_neg (by decide), if_pos rfl, h1]
  · by_cases e2 : y = Str.ofString "place"
    · subst e2
      rw [if_neg (by decide), if_neg (by decide), if_pos rfl, h2]
    · by_cases e3 : y = Str.ofString "lamp"
      · subst e3
        rw [if_neg (by decide), if_neg (by decide), if_neg (by decide), if_pos rfl, h3]
      · rw [if_neg e1, if_neg e2, if_neg e3]
theorem sepS_of {S x0 y0 x1 y1 x2 y2 : Nat} {o0 o1 o2 : Obj} {news : Led} (hn : ∀ p ∈ news, @LT.lt Nat _ p.1 x0) (h0 : x0 < y0) (h1 : y0 < x1) (h2 : x1 < y1) (h3 : y1 < x2) (h4 : x2 < y2) (h5 : y2 < S) :
    SepS S y0 y1 y2 ((x2, o2) :: (x1, o1) :: (x0, o0) :: news) := by
  refine ⟨by omega, by omega, by omega, by omega, by omega, by omega, ?_⟩
  refine List.forall_mem_cons.2 ⟨?_, List.forall_mem_cons.2 ⟨?_, List.forall_mem_cons.2 ⟨?_, fun p hp => ?_⟩⟩⟩
  · exact ⟨Nat.ne_of_gt (by omega), Nat.ne_of_gt (by omega), Nat.ne_of_lt (by omega)⟩
  · exact ⟨Nat.ne_of_gt (by omega), Nat.ne_of_lt (by omega), Nat.ne_of_lt (by omega)⟩
  · exact ⟨Nat.ne_of_lt (by omega), Nat.ne_of_lt (by omega), Nat.ne_of_lt (by omega)⟩
  · have := hn p hp
    exact ⟨Nat.ne_of_lt (by omega), Nat.ne_of_lt (by omega), Nat.ne_of_lt (by omega)⟩
theorem dropS {g h : Heap} {L : Addr} {x1 x2 x3 x4 y1 y2 y3 : Addr × Obj} {r : Led} (N : News g L h (x1 :: x2 :: x3 :: x4 :: y1 :: y2 :: y3 :: r)) : News g L h ([x1, x2, x3, x4] ++ r) := News.sub N fun q hq => by
  simp only [List.mem_cons, List.mem_append, List.not_mem_nil, or_false] at hq ⊢
  rcases hq with (h | h | h | h) | h <;> simp only [h, true_or, or_true]
theorem rep_flat {vs : List Value} {k : Nat} (h : IntsAre vs (List.replicate k [(0 : Int)]).flatten) : IntsAre vs (List.replicate k 0) := by rwa [List.flatten_replicate_singleton] at h
set_option maxRecDepth 100000 in
set_option maxHeartbeats 1000000 in
theorem c_shelves (w : World) (news : Led) (la lp : Nat) (lam : List Lamp) (pls : List (Int × Tok)) (n1 n2 : Nat) (hL : LampsIn news lam) (hf : Flt.Hid (∀ x ∈ lam, (Float64.isNaN x.2.1 = false ∧ Float64.isInf x.2.1 = false) ∧ (Float64.isNaN x.2.2.1 = false ∧ Float64.isInf x.2.2.1 = false) ∧ Float64.isNaN x.2.2.2 = false ∧ Float64.isInf x.2.2.2 = false))
   (size : Int) (ts : Tok) (hs : 0 ≤ size ∧ size ≤ 31) (hP : Flt.Hid (∀ x ∈ pls, 0 ≤ x.1 ∧ x.1 < size))
   (hla : (la, listOf (lam.map fun x => Value.ref x.1).toArray n1) ∈ news) (hlp : (lp, listOf (pls.map fun x => Value.int x.1 x.2).toArray n2) ∈ news) :
   Ctr w 2 16 169 news [.ref la, .ref lp, .int size ts] (Shelves (shF (List.replicate size.toNat 0, List.replicate size.toNat 0, List.replicate size.toNat 0) lam (pls.map (·.1)))) := by
  unfold Ctr; k_fill; intros; rename_i hret
  refine wpAny_call ?_
  k_dflt cell_enter
  k_steps
  rename Fr _ _ _ _ => F9
  rename News _ _ _ _ => N9
  rename Below _ _ _ _ => B9
  rename Top _ _ _ _ _ _ => T9
  rename Frag.In _ _ => X9
  rename (∀ p ∈ news, p.1 < _) => hn9
  rename (_ ∧ _ ∧ _ ∧ _ ∧ _ ∧ _ ∧ AllLt _ _) => l9
  rename (_ ∧ _ ∧ _ ∧ _ ∧ _ ∧ AllLt _ _) => l8
  rename (_ ∧ _ ∧ _ ∧ _ ∧ AllLt _ _) => l7
  rename (_ ∧ _ ∧ _ ∧ AllLt _ _) => l6
  rename (_ ∧ _ ∧ AllLt _ _) => l5
  rename (_ ∧ AllLt _ _) => l4
  have F8 := fr_map F9 (mapS_of rfl rfl rfl)
  have N8 := News.sub N9 (b := (_, _) :: (_, listOf (List.replicate size.toNat [Value.int 0 _]).flatten.toArray 0) :: (_, listOf (List.replicate size.toNat [Value.int 0 (_ + 1)]).flatten.toArray 0) :: (_, listOf (List.replicate size.toNat [Value.int 0 (_ + 1 + 1)]).flatten.toArray 0) :: (_, listOf #[Value.int 0 (_ + 1 + 1)] 0) :: (_, listOf #[Value.int 0 (_ + 1)] 0) :: (_, listOf #[Value.int 0 _] 0) :: news) (by
    intro q hq
    simp only [List.mem_cons] at hq ⊢
    rcases hq with h | h | h | h | h | h | h | h
    · exact .inl h
    · exact .inr (.inr (.inr (.inr (.inr (.inl h)))))
    · exact .inr (.inr (.inr (.inl h)))
    · exact .inr (.inl h)
    · exact .inr (.inr (.inl h))
    · exact .inr (.inr (.inr (.inr (.inl h))))
    · exact .inr (.inr (.inr (.inr (.inr (.inr (.inl h))))))
    · exact .inr (.inr (.inr (.inr (.inr (.inr (.inr h)))))))
  refine' ktu_zip (xs := lam.map fun x => Value.ref x.1) (ys := pls.map fun x => Value.int x.1 x.2) rfl F8 N8 (.tail _ (.tail _ (.tail _ (.tail _ (.tail _ (.tail _ (.tail _ hla))))))) rfl rfl (.tail _ (.tail _ (.tail _ (.tail _ (.tail _ (.tail _ (.tail _ hlp))))))) rfl rfl ?_
  intro I hI
  have hz : ((List.replicate size.toNat (0 : Int)).length : Int) = size := by rw [List.length_replicate]; omega
  refine shelves_items w X9 T9 B9 (sepS_of hn9 l4.1 l5.1 l6.1 l7.1 l8.1 l9.1) (fun q hq => hI q (.tail _ (.tail _ (.tail _ (.tail _ hq))))) ⟨hI _ (.head _), hI _ (.tail _ (.head _)), hI _ (.tail _ (.tail _ (.head _))), hI _ (.tail _ (.tail _ (.tail _ (.head _))))⟩ ⟨by passes_own⟩ (.tail _ (.tail _ (.tail _ hla))) (.tail _ (.tail _ (.tail _ hlp))) lam pls (List.replicate size.toNat 0, List.replicate size.toNat 0, List.replicate size.toNat 0) _ _ _ _ _ _ ?_ hf.out ?_ (rep_flat (by assumption)) (rep_flat (by assumption)) (rep_flat (by assumption)) ?_
  · intro x hx
    obtain ⟨a, b, c, n, h⟩ := hL x hx
    exact ⟨a, b, c, n, .tail _ (.tail _ (.tail _ h))⟩
  · intro x hx
    have := hP.out x hx
    exact ⟨by omega, by rw [hz]; exact this.2, by rw [hz]; exact this.2, by rw [hz]; exact this.2⟩
  intro h' tk' us0 us1 us2 kv' pv' lv' q0 q1 q2 F' N'
  clear F8 F9 N9 N8 hI
  dsimp only
  k_steps
  rename News _ _ _ _ => N2
  refine hret _ _ _ _ ?eR ?eF (dropS N2)
  case eF => k_asm
  case eR => exact ⟨_, _, _, _, _, _, _, _, _, _, _, rfl, rfl, q0, q1, q2⟩
end
section
open PySem PySem.W PyProof.Rows PySem.Spec PySem.Calls
set_option Elab.async false
noncomputable def TabSt (P : Addr) (ln col : Int) (qual : Str) (t : Obj) (rest : Led) : Prop :=
  t = tabObj #[] ∨ ∃ (c' : Nat) (oc : Obj) (vs : Array Value) (tk : Tok), t = tabObj #[rawInt ln, rawInt col, .ref c'] ∧ 191 < c' ∧ (c', oc) ∈ rest ∧ oc.data = .fields vs ∧ vs[1]? = some (.str qual tk)
section
variable {M : Model} {A : Around} {E : Value → Shared → Prop} {s : Shared} {h₀ : Heap} {L a c P : Nat} {m mg mb : Str → Option Value} {cn : Str} {cs : Scope} {ccd : Value} {cl : List (Str × Addr)} {rest : List (Addr × Obj)}
  {p : Program} {loose : List Str} {mean : ExcName → Option Value} {name qual : Str} {params : Arguments} {body : List Stmt} {scope : Scope} {pos : Pos} {firstLine : Nat} {clos : List (Str × Addr)} {t : Obj}
theorem nest_X {Q : Value → Shared → Prop} {cells : Led} (F : Fr h₀ L s.heap m) (N : News h₀ L s.heap ((P, t) :: (cells ++ rest))) (T : Top p loose mean mg mb h₀) (C : CodeHd h₀ c P) (hcd : ccd = .ref c) (hst : TabSt P pos.line pos.col qual t rest) (hr : ∀ q ∈ cells ++ rest, q.1 ≠ P) (hbig : ∃ q ∈ cells, @LT.lt Nat _ 191 q.1) (hcr : ∀ q ∈ cells, ∀ p ∈ rest, p.1 ≠ q.1)
    (hcl : closureFor scope (envX cn cs L a ccd cl) = pure clos)
    (h : ∀ (f c' : Nat) oc vs tk ctv doc h' tk', Fr h₀ L h' m →
      News h₀ L h' ((f, fnMade name qual params body scope clos doc ((mg "__name__").getD .none) c' ctv) :: (P, tabObj #[rawInt pos.line, rawInt pos.col, .ref c']) :: (c', oc) :: (cells ++ rest)) →
      oc.data = .fields vs → vs[1]? = some (.str qual tk) → 191 < c' → (∀ q ∈ cells, q.1 ≠ c') → (∀ q ∈ cells ++ rest, @LT.lt Nat _ q.1 f) → P < f → c' < f → (tabObj #[rawInt pos.line, rawInt pos.col, .ref c'] = t ∨ ∀ q ∈ rest, @LT.lt Nat _ q.1 c') → Q (.ref f) { s with heap := h', toks := tk' }) :
    wpAny M A (makeFunction name qual params (.stmts body) scope (envX cn cs L a ccd cl) [] [] [] pos firstLine) Q E s := by
  rcases hst with rfl | ⟨c', oc, vs, tk, rfl, hcP, hm, hd, hv⟩
  · refine nest_K F N T C hcd (UpdF.head hr) trivial rfl hcl fun f c' oc vs tk ctv doc h' tk' F' N' hd hv l1 l2 => ?_
    have lP : P < c' := l1 _ (.head _)
    refine h f c' oc vs tk ctv doc h' tk' F' (fun q hq => N' q ?_) hd hv (let ⟨q, hq, h9⟩ := hbig; Nat.lt_trans h9 (l1 q (.tail _ (List.mem_append_left _ hq)))) (fun q hq => Nat.ne_of_lt (l1 q (.tail _ (List.mem_append_left _ hq)))) (fun q hq => Nat.lt_trans (l1 q (.tail _ hq)) l2) (Nat.lt_trans lP l2) l2 (.inr fun q hq => l1 q (.tail _ (List.mem_append_right _ hq)))
    simp only [List.mem_cons, Array.empty_append] at hq ⊢
    rcases hq with h | h | h | h <;> simp only [h, true_or, or_true]
  · refine nestHit_K (c' := c') F N T C hcd (.head _) (by simp [TriplesOk, rawInt]) (by simp [codeAmong, rawInt]) hcl fun f ctv doc h' tk' F' N' l1 => ?_
    refine h f c' oc vs tk ctv doc h' tk' F' (fun q hq => N' q ?_) hd hv hcP (fun q hq => Ne.symm (hcr q hq _ hm)) (fun q hq => l1 q (.tail _ hq)) (l1 _ (.head _)) (l1 _ (.tail _ (List.mem_append_right _ hm))) (.inl rfl)
    simp only [List.mem_cons] at hq ⊢
    rcases hq with h | h | h | h
    · simp only [h, true_or]
    · simp only [h, true_or, or_true]
    · subst h; exact .inr (.inr (List.mem_append_right _ hm))
    · simp only [h, or_true]
end
noncomputable abbrev in_d2i : { x : Arguments × List Stmt × Scope × Pos // d_digits2int.1.2.1[0]? = some (Stmt.FunctionDef (Str.ofString "inner") x.1 x.2.1 [] none [] x.2.2.1 none (Str.ofString "inner") x.2.2.2) } := ⟨(_, _, _, _), rfl⟩
noncomputable abbrev in_i2d : { x : Arguments × List Stmt × Scope × Pos // d_int2digits.1.2.1[1]? = some (Stmt.FunctionDef (Str.ofString "inner") x.1 x.2.1 [] none [] x.2.2.1 none (Str.ofString "inner") x.2.2.2) } := ⟨(_, _, _, _), rfl⟩
theorem cd119 {P : Params} {h : Heap} (X : (heapK P).In h) : CodeHd h 119 115 := codeHd_of_K X (by kernel_rfl)
theorem cd112 {P : Params} {h : Heap} (X : (heapK P).In h) : CodeHd h 112 108 := codeHd_of_K X (by kernel_rfl)
theorem big_L {P : Params} {g h : Heap} {L : Addr} {m : Str → Option Value} (X : (heapK P).In g) (F : Fr g L h m) : @LT.lt Nat _ 191 L := by
  have e : ((heapK P).lookup 191).isSome = true := by kernel_rfl
  obtain ⟨o, ho⟩ := Option.isSome_iff_exists.mp e
  exact Nat.lt_of_lt_of_le (Heap.lt_size (X 191 o ho)) F.above
noncomputable def CtrN (w : World) (D U : Nat) (f : Addr) (news : Led) (vs : List Value) (R : Value → Led → Prop) : Prop :=
  ∀ (p : Program) (loose : List Str) (mean : ExcName → Option Value) (mg mb : Str → Option Value) (dp un : Nat) (gd : Option (List Code)) (cn : Str) (cs : Scope) (a : Addr) (ccd : Value) (cl : List (Str × Addr)) (outer : List Env) (A₀ : Around) (base h₀ : Heap) (L : Addr) (m : Str → Option Value) (s : Shared) (Q E : Value → Shared → Prop),
    Below A₀ base outer h₀ → Fr h₀ L s.heap m → (heapK w.params).In h₀ → News h₀ L s.heap news → Top p loose mean mg mb h₀ → cs.kind = .function →
    dp + D < recursionLimit → un + U < cLine →
    (∀ (v : Value) (news' : Led) (h' : Heap) (tk' : Nat), R v news' → Fr h₀ L h' m → News h₀ L h' news' → Q v { s with heap := h', toks := tk' }) →
      wpAny (model Challenge.rw_qu0064_01.row.prog w) (ktrTop dp un gd cn cs L a ccd cl outer) (call (.ref f) vs) Q E s
theorem CtrN.use {w : World} {D U : Nat} {f : Addr} {news : Led} {vs : List Value} {R : Value → Led → Prop} {p : Program} {loose : List Str} {mean : ExcName → Option Value} {mg mb : Str → Option Value} {dp un : Nat} {gd : Option (List Code)} {cn : Str} {cs : Scope} {a : Addr} {ccd : Value} {cl : List (Str × Addr)} {outer : List Env} {A₀ : Around} {base h₀ : Heap} {L : Addr} {m : Str → Option Value} {s : Shared} {Q E : Value → Shared → Prop}
    (C : CtrN w D U f news vs R) (B : Below A₀ base outer h₀) (F : Fr h₀ L s.heap m) (X : (heapK w.params).In h₀) (N : News h₀ L s.heap news) (T : Top p loose mean mg mb h₀) (hk : cs.kind = .function) (hd : dp + D < recursionLimit) (hu : un + U < cLine)
    (ret : ∀ (v : Value) (news' : Led) (h' : Heap) (tk' : Nat), R v news' → Fr h₀ L h' m → News h₀ L h' news' → Q v { s with heap := h', toks := tk' }) :
      wpAny (model Challenge.rw_qu0064_01.row.prog w) (ktrTop dp un gd cn cs L a ccd cl outer) (call (.ref f) vs) Q E s :=
  C p loose mean mg mb dp un gd cn cs a ccd cl outer A₀ base h₀ L m s Q E B F X N T hk hd hu ret
noncomputable abbrev TabD (t : Obj) (rest : Led) : Prop := TabSt 115 102 4 (Str.ofString "_digits2int.<locals>.inner") t rest
noncomputable abbrev TabI (t : Obj) (rest : Led) : Prop := TabSt 108 87 4 (Str.ofString "_int2digits.<locals>.inner") t rest
end
section
open PySem PySem.W PyProof.Rows PySem.Spec PySem.Calls
set_option Elab.async false
theorem fresh_MN2 : True := by
  w_top off
  trivial
local macro_rules | `(tactic| walk_at "eval Name") => `(tactic| (k_here; k_dflt (refine' nameX_F ?N ?c ?m ?d ?_ ?a ?b; (case a => rfl); (case b => rfl); (case N => k_asm); (case c => rfl); (case m => with_reducible assumption); (case d => with_reducible assumption); k_whole)))
local macro_rules | `(tactic| walk_at "callWith ref") => `(tactic| (k_here; k_dflt (refine' callWith_F ?k1 ?_; (case k1 => exact FnAt.of (by k_asm) (by with_reducible assumption)); k_whole)))
local macro_rules | `(tactic| walk_at "FnAt") => `(tactic| (k_dflt (exact FnAt.of (by k_asm) (by with_reducible assumption))))
noncomputable def polyI (n : Nat) : List Int → Int
  | [] => 0
  | d :: ds => d + 2 ^ n * polyI n ds
theorem polyI_append (n : Nat) : ∀ xs ys : List Int, polyI n (xs ++ ys) = polyI n xs + 2 ^ (n * xs.length) * polyI n ys
  | [], ys => by simp [polyI]
  | x :: xs, ys => by
    show x + 2 ^ n * polyI n (xs ++ ys) = x + 2 ^ n * polyI n xs + 2 ^ (n * (xs.length + 1)) * polyI n ys
    rw [polyI_append n xs ys, Nat.mul_add, Nat.mul_one, Nat.add_comm, Int.pow_add, Int.mul_add, Int.mul_assoc, Int.add_assoc]
noncomputable def segD (ns : List Int) (n a b : Int) : Int := polyI n.toNat ((ns.drop a.toNat).take (b - a).toNat)
theorem seg_one {ns : List Int} {n a b : Int} (h0 : 0 ≤ a) (h : a + 1 = b) (hb : b ≤ ns.length) : segD ns n a b = ns.getD a.toNat 0 := by
  have e : (b - a).toNat = 1 := by omega
  have l : a.toNat < ns.length := by omega
  unfold segD
  rw [e, List.drop_eq_getElem_cons l, List.getD_eq_getElem?_getD, List.getElem?_eq_getElem l]
  simp only [List.take_succ_cons, List.take_zero, polyI, Int.mul_zero, Int.add_zero, Option.getD_some]
theorem seg_split {ns : List Int} {n a m b : Int} (hn : 0 ≤ n) (h0 : 0 ≤ a) (h1 : a ≤ m) (h2 : m ≤ b) (hb : b ≤ ns.length) : segD ns n a b = segD ns n m b * 2 ^ ((m - a) * n).toNat + segD ns n a m := by
  unfold segD
  have e1 : (b - a).toNat = (m - a).toNat + (b - m).toNat := by omega
  have e2 : m.toNat = a.toNat + (m - a).toNat := by omega
  have e4 : ((m - a) * n).toNat = n.toNat * (m - a).toNat := by rw [Int.toNat_mul (by omega) hn, Nat.mul_comm]
  rw [e1, List.take_add, polyI_append, List.drop_drop, ← e2, e4, List.length_take, List.length_drop, Nat.min_eq_left (by omega), Int.add_comm, Int.mul_comm]
theorem mid_facts {a b : Int} (h : a < b) (hne : a + 1 ≠ b) : a < (a + b).fdiv (2 ^ Int.toNat 1) ∧ (a + b).fdiv (2 ^ Int.toNat 1) < b ∧ (b - (a + b).fdiv (2 ^ Int.toNat 1)) * 2 ≤ b - a + 1 ∧ ((a + b).fdiv (2 ^ Int.toNat 1) - a) * 2 ≤ b - a + 1 := by
  have e : (2 : Int) ^ Int.toNat 1 = 2 := by decide
  rw [e, Int.fdiv_eq_ediv_of_nonneg _ (by omega)]
  omega
local macro_rules | `(tactic| walk_at "binaryOp LShift int int") => `(tactic| (k_here; (with_reducible refine lshift_int ?kbn ?kbs ?_); (case kbn => with_reducible assumption); (case kbs => with_reducible assumption)))
theorem shl_mid {x n a b m : Int} {len : Nat} (hx : Builtin.Int.intBits x ≤ 100000) (h0 : 0 ≤ a) (q1 : a < m) (q2 : m < b) (h2 : b ≤ len) (hl : len ≤ 32) (hn : 0 ≤ n ∧ n ≤ 100) : 0 ≤ (m - a) * n ∧ (Builtin.Int.intBits x : Int) + (m - a) * n ≤ 2 ^ 27 := by
  generalize hy : m - a = y
  have h : 0 ≤ y ∧ y ≤ 32 := by omega
  have e : (2 : Int) ^ 27 = 134217728 := by decide
  have h1 : 0 ≤ y * n := Int.mul_nonneg h.1 hn.1
  have h2 : y * n ≤ 32 * 100 := Int.mul_le_mul h.2 hn.2 hn.1 (by omega)
  rw [e]
  omega
set_option maxRecDepth 100000 in
set_option maxHeartbeats 1000000 in
theorem inD_step (w : World) (news : Led) (f c' cN cI cD la k1 : Nat) (vs : List Value) (ns : List Int) (n : Int) (tn tkc : Tok) (oN oI oD oc : Obj) (vsc : Array Value) (doc pm ctv : Value)
   (hf : (f, fnMade (Str.ofString "inner") (Str.ofString "_digits2int.<locals>.inner") in_d2i.1.1 in_d2i.1.2.1 in_d2i.1.2.2.1 [(Str.ofString "n", cN), (Str.ofString "inner", cI), (Str.ofString "digits", cD)] doc pm c' ctv) ∈ news)
   (hc : (c', oc) ∈ news) (hd : oc.data = .fields vsc) (hv : vsc[1]? = some (.str (Str.ofString "_digits2int.<locals>.inner") tkc))
   (hN : (cN, oN) ∈ news) (dN : oN.data = .cell (some (.int n tn))) (hI : (cI, oI) ∈ news) (dI : oI.data = .cell (some (.ref f))) (hD : (cD, oD) ∈ news) (dD : oD.data = .cell (some (.ref la)))
   (hla : (la, listOf vs.toArray k1) ∈ news) (hi : IntsAre vs ns) (hn : 0 ≤ n ∧ n ≤ 100) (hl : ns.length ≤ 32) (hB : Flt.Hid (∀ a b : Int, 0 ≤ a → a ≤ b → b ≤ ns.length → Builtin.Int.intBits (segD ns n a b) ≤ 100000)) (D U : Nat) (hDU : D ≤ 8 ∧ U ≤ 100) (Lo Hi : Int) (t1 t2 : Tok) (h0 : 0 ≤ Lo) (h1 : Lo < Hi) (h2 : Hi ≤ ns.length)
   (ih : Flt.Hid (Lo + 1 ≠ Hi → ∀ (a b : Int) t t', 0 ≤ a → a < b → b ≤ ns.length → (b - a) * 2 ≤ Hi - Lo + 1 → Ctr w D U f news [.int a t, .int b t'] (fun v more => more = [] ∧ ∃ t, v = .int (segD ns n a b) t))) :
   Ctr w (D + 1) (U + 8) f news [.int Lo t1, .int Hi t2] (fun v more => more = [] ∧ ∃ t, v = .int (segD ns n Lo Hi) t) := by
  unfold Ctr; k_fill; intros; rename_i hret
  refine wpAny_call ?_
  k_dflt (refine' code_nest ?k1 ?k2 ?k3 ?k4 ?k5 ?kA ?kF ?kK ?k6 ?k7 ?k8 ?k9 ?kB ?_ ?c2 ?c3 ?c4 ?c5; (case kA => exact rfl); (case kF => exact rfl); (case kK => assumption); (case k1 => k_asm); (case k2 => k_asm); (case k3 => k_asm); (case k4 => k_asm); (case k5 => k_asm); (case k6 => exact hf); (case k7 => exact codeRec_news (by k_asm) hc hd hv); (case k8 => ktr_room); (case k9 => exact BindsTo.of_eq rfl); (case c5 => decide); (case kB => exact locs rfl); (case c2 => exact rfl); (case c3 => exact rfl); (case c4 => exact rfl); k_whole; intro g' L' h' FG' F' N' B' X' T'; (try dsimp only); (try k_lift B'); (try k_fold))
  k_steps
  · refine' hret _ [] _ _ ?eR ?eF ?eN
    case eF => k_asm
    case eN => walk_at "ctr_news"
    rename (Lo + 1 = Hi) => hq
    exact ⟨rfl, _, by rw [seg_one h0 hq h2]⟩
  rename (Lo + 1 ≠ Hi) => hne
  obtain ⟨q1, q2, q3, q4⟩ := mid_facts h1 hne
  refine' Ctr.use (ih.out hne _ _ _ _ ?i1 q2 h2 q3) ?k1 ?k2 ?k3 ?k4 ?k5 ?kK ?kd ?ku ?_
  case i1 => exact Int.le_of_lt (Int.lt_of_le_of_lt h0 q1)
  walk_at "ctr_use"
  intro v9 more9 h9 tk9 hR9 F9 N9
  obtain ⟨e9, t9, e8⟩ := hR9
  subst e9 e8
  dsimp only
  obtain ⟨s1, s2⟩ := shl_mid (hB.out _ Hi (Int.le_of_lt (Int.lt_of_le_of_lt h0 q1)) (Int.le_of_lt q2) h2) h0 q1 q2 h2 hl hn
  dsimp only [List.nil_append] at N9
  k_steps
  refine' Ctr.use (ih.out hne _ _ _ _ h0 q1 ?i2 q4) ?k21 ?k22 ?k23 ?k24 ?k25 ?kK2 ?kd2 ?ku2 ?_
  case i2 => exact Int.le_of_lt (Int.lt_of_lt_of_le q2 h2)
  case k21 => k_asm
  case k22 => k_asm
  case k23 => k_asm
  case k24 => k_asm
  case k25 => k_asm
  case kK2 => exact rfl
  case kd2 => ktr_room
  case ku2 => ktr_units
  intro v7 more7 h7 tk7 hR7 F7 N7
  obtain ⟨e7, t7, e6⟩ := hR7
  subst e7 e6
  dsimp only
  dsimp only [List.nil_append] at N7
  k_steps
  refine' hret _ [] _ _ ?zR ?zF ?zN
  case zF => k_asm
  case zN => walk_at "ctr_news"
  exact ⟨rfl, _, by rw [seg_split hn.1 h0 (Int.le_of_lt q1) (Int.le_of_lt q2) h2]⟩
theorem c_inD (w : World) (news : Led) (f c' cN cI cD la k1 : Nat) (vs : List Value) (ns : List Int) (n : Int) (tn tkc : Tok) (oN oI oD oc : Obj) (vsc : Array Value) (doc pm ctv : Value)
   (hf : (f, fnMade (Str.ofString "inner") (Str.ofString "_digits2int.<locals>.inner") in_d2i.1.1 in_d2i.1.2.1 in_d2i.1.2.2.1 [(Str.ofString "n", cN), (Str.ofString "inner", cI), (Str.ofString "digits", cD)] doc pm c' ctv) ∈ news)
   (hc : (c', oc) ∈ news) (hd : oc.data = .fields vsc) (hv : vsc[1]? = some (.str (Str.ofString "_digits2int.<locals>.inner") tkc))
   (hN : (cN, oN) ∈ news) (dN : oN.data = .cell (some (.int n tn))) (hI : (cI, oI) ∈ news) (dI : oI.data = .cell (some (.ref f))) (hD : (cD, oD) ∈ news) (dD : oD.data = .cell (some (.ref la)))
   (hla : (la, listOf vs.toArray k1) ∈ news) (hi : IntsAre vs ns) (hn : 0 ≤ n ∧ n ≤ 100) (hl : ns.length ≤ 32) (hB : Flt.Hid (∀ a b : Int, 0 ≤ a → a ≤ b → b ≤ ns.length → Builtin.Int.intBits (segD ns n a b) ≤ 100000)) :
   ∀ (d : Nat), d ≤ 6 → ∀ (Lo Hi : Int) (t1 t2 : Tok), 0 ≤ Lo → Lo < Hi → Hi ≤ ns.length → Hi - Lo ≤ 2 ^ d → Ctr w (d + 1) (8 * d + 8) f news [.int Lo t1, .int Hi t2] (fun v more => more = [] ∧ ∃ t, v = .int (segD ns n Lo Hi) t)
  | 0, _, Lo, Hi, t1, t2, h0, h1, h2, h3 => inD_step w news f c' cN cI cD la k1 vs ns n tn tkc oN oI oD oc vsc doc pm ctv hf hc hd hv hN dN hI dI hD dD hla hi hn hl hB 0 0 ⟨by omega, by omega⟩ Lo Hi t1 t2 h0 h1 h2 ⟨fun hne a b t t' a0 a1 a2 a3 => by
      have e : (2 : Int) ^ 0 = 1 := by decide
      rw [e] at h3
      omega⟩
  | d + 1, hd6, Lo, Hi, t1, t2, h0, h1, h2, h3 => inD_step w news f c' cN cI cD la k1 vs ns n tn tkc oN oI oD oc vsc doc pm ctv hf hc hd hv hN dN hI dI hD dD hla hi hn hl hB (d + 1) (8 * d + 8) ⟨by omega, by omega⟩ Lo Hi t1 t2 h0 h1 h2 ⟨fun hne a b t t' a0 a1 a2 a3 =>
      c_inD w news f c' cN cI cD la k1 vs ns n tn tkc oN oI oD oc vsc doc pm ctv hf hc hd hv hN dN hI dI hD dD hla hi hn hl hB d (by omega) a b t t' a0 a1 a2 (by
        have e : (2 : Int) ^ (d + 1) = 2 ^ d * 2 := Int.pow_succ 2 d
        rw [e] at h3
        omega)⟩
end
section
open PySem PySem.W PyProof.Rows PySem.Spec PySem.Calls
set_option Elab.async false
theorem nat_and_low (x s : Nat) : x &&& (x / 2 ^ s * 2 ^ s) = x / 2 ^ s * 2 ^ s := by
  apply Nat.eq_of_testBit_eq
  intro i
  rw [Nat.testBit_and, ← Nat.shiftRight_eq_div_pow, ← Nat.shiftLeft_eq, Nat.testBit_shiftLeft, Nat.testBit_shiftRight]
  by_cases h : s ≤ i
  · have e : s + (i - s) = i := by omega
    simp [h, e]
  · simp [h]
noncomputable def digs (n : Nat) (x : Nat) : Nat → List Int
  | 0 => []
  | k + 1 => ((x % 2 ^ n : Nat) : Int) :: digs n (x / 2 ^ n) k
noncomputable def Laid (n x lo k : Nat) (ns ns' : List Int) : Prop := ns'.length = ns.length ∧ ∀ i, i < ns.length → ns'.getD i 0 = if lo ≤ i ∧ i < lo + k then ((x / 2 ^ (n * (i - lo)) % 2 ^ n : Nat) : Int) else ns.getD i 0
theorem laid_one {n x lo : Nat} {ns : List Int} (hx : x < 2 ^ n) : Laid n x lo 1 ns (ns.set lo (x : Int)) := by
  refine ⟨List.length_set .., fun i hi => ?_⟩
  rw [List.getD_eq_getElem?_getD, List.getElem?_set, List.getD_eq_getElem?_getD]
  by_cases h : lo = i
  · subst h
    rw [if_pos rfl, if_pos hi, if_pos ⟨Nat.le_refl _, Nat.lt_succ_self _⟩, Nat.sub_self, Nat.mul_zero, Nat.pow_zero, Nat.div_one, Nat.mod_eq_of_lt hx]
    rfl
  · rw [if_neg h, if_neg (by omega)]
theorem low_div (n x j a : Nat) (h : j < a) : x % 2 ^ (n * a) / 2 ^ (n * j) % 2 ^ n = x / 2 ^ (n * j) % 2 ^ n := by
  have e : n * a = n * j + (n + n * (a - j - 1)) := by
    have : a = j + (1 + (a - j - 1)) := by omega
    rw [← Nat.mul_one n, this]
    simp only [Nat.mul_one, Nat.mul_add]
    congr 3
    omega
  rw [e, Nat.pow_add, Nat.mod_mul_right_div_self, Nat.pow_add, Nat.mod_mul_right_mod]
theorem laid_two {n x lo a b : Nat} {ns ns1 ns2 : List Int} (h1 : Laid n (x % 2 ^ (n * a)) lo a ns ns1) (h2 : Laid n (x / 2 ^ (n * a)) (lo + a) b ns1 ns2) : Laid n x lo (a + b) ns ns2 := by
  refine ⟨h2.1.trans h1.1, fun i hi => ?_⟩
  rw [h2.2 i (by rw [h1.1]; exact hi), h1.2 i hi]
  by_cases c1 : lo + a ≤ i ∧ i < lo + a + b
  · rw [if_pos c1, if_pos (by omega), Nat.div_div_eq_div_mul, ← Nat.pow_add, ← Nat.mul_add, show a + (i - (lo + a)) = i - lo from by omega]
  · rw [if_neg c1]
    by_cases c2 : lo ≤ i ∧ i < lo + a
    · rw [if_pos c2, if_pos (by omega), low_div _ _ _ _ (by omega)]
    · rw [if_neg c2, if_neg (by omega)]
theorem digs_get (n : Nat) : ∀ (k x i : Nat), i < k → (digs n x k).getD i 0 = ((x / 2 ^ (n * i) % 2 ^ n : Nat) : Int)
  | k + 1, x, 0, _ => by simp [digs]
  | k + 1, x, i + 1, h => by
    show (digs n (x / 2 ^ n) k).getD i 0 = _
    rw [digs_get n k _ i (by omega), Nat.div_div_eq_div_mul, ← Nat.pow_add, Nat.mul_add, Nat.mul_one, Nat.add_comm]
theorem digs_length (n : Nat) : ∀ (k x : Nat), (digs n x k).length = k
  | 0, _ => rfl
  | k + 1, x => by show (digs n (x / 2 ^ n) k).length + 1 = _; rw [digs_length n k]
theorem laid_all {n x k : Nat} {ns ns' : List Int} (hl : ns.length = k) (h : Laid n x 0 k ns ns') : ns' = digs n x k := by
  apply List.ext_getElem
  · rw [h.1, digs_length, hl]
  · intro i h1 h2
    have hi : i < ns.length := by rw [← h.1]; exact h1
    have e := h.2 i hi
    rw [if_pos (by omega), Nat.sub_zero] at e
    have e2 := digs_get n k x i (by omega)
    rw [List.getD_eq_getElem?_getD, List.getElem?_eq_getElem h1] at e
    rw [List.getD_eq_getElem?_getD, List.getElem?_eq_getElem h2] at e2
    exact e.trans e2.symm
end
section
open PySem PySem.W PyProof.Rows PySem.Spec PySem.Calls
set_option Elab.async false
theorem fresh_MN3 : True := by
  w_top off
  trivial
theorem fnAt_tail {h₀ h : Heap} {L q : Addr} {oc : Value} {od : Option Addr} {fd : FuncData} {sl : Array (Option Value)} {x : Addr × Obj} {rest : Led} (N : News h₀ L h (x :: rest)) (hm : (q, (⟨oc, od, .func fd, sl⟩ : Obj)) ∈ rest) : FnAt q h := FnAt.of N (.tail _ hm)
local macro_rules | `(tactic| walk_at "eval Name") => `(tactic| (k_here; k_dflt (refine' nameX_F ?N ?c ?m ?d ?_ ?a ?b; (case a => rfl); (case b => rfl); (case N => k_asm); (case c => rfl); (case m => (refine List.mem_cons_of_mem _ ?_; with_reducible assumption)); (case d => with_reducible assumption); k_whole)))
local macro_rules | `(tactic| walk_at "callWith ref") => `(tactic| (k_here; k_dflt (refine' callWith_F ?k1 ?_; (case k1 => exact fnAt_tail (by k_asm) (by with_reducible assumption)); k_whole)))
local macro_rules | `(tactic| walk_at "FnAt") => `(tactic| (k_dflt (exact fnAt_tail (by k_asm) (by with_reducible assumption))))
local macro_rules | `(tactic| walk_at "binaryOp LShift int int") => `(tactic| (k_here; (with_reducible refine lshift_int ?kbn ?kbs ?_); (case kbn => with_reducible assumption); (case kbs => with_reducible assumption)))
local macro_rules | `(tactic| walk_at "binaryOp RShift int int") => `(tactic| (k_here; (with_reducible refine rshift_int ?kbn ?_); (case kbn => with_reducible assumption)))
theorem xor_low (x s : Nat) : Builtin.bitXor (x : Int) ((x : Int).fdiv (2 ^ s) * 2 ^ s) = ((x % 2 ^ s : Nat) : Int) := by
  have p : (0 : Int) ≤ 2 ^ s := Int.pow_nonneg (by omega)
  have e : (x : Int).fdiv (2 ^ s) * 2 ^ s = ((x / 2 ^ s * 2 ^ s : Nat) : Int) := by
    rw [Int.fdiv_eq_ediv_of_nonneg _ p]
    simp
  rw [e, bitXor_and, bitAnd_pp (Int.natCast_nonneg _) (Int.natCast_nonneg _), Int.toNat_natCast, Int.toNat_natCast, nat_and_low]
  have := Nat.div_add_mod x (2 ^ s)
  rw [Nat.mul_comm] at this
  omega
theorem fdiv_nat (x s : Nat) : (x : Int).fdiv (2 ^ s) = ((x / 2 ^ s : Nat) : Int) := by
  rw [Int.fdiv_eq_ediv_of_nonneg _ (Int.pow_nonneg (by omega))]
  simp
noncomputable def Fits (x : Nat) (n Lo Hi : Int) : Prop := x < 2 ^ (n.toNat * (Hi - Lo).toNat)
theorem shl_nat {n Lo M : Int} (hn : 0 ≤ n) (h : Lo ≤ M) : ((M - Lo) * n).toNat = n.toNat * (M - Lo).toNat := by rw [Int.toNat_mul (by omega) hn, Nat.mul_comm]
theorem xor_mid {x : Nat} {n Lo M : Int} (hn : 0 ≤ n) (h : Lo ≤ M) : Builtin.bitXor (x : Int) ((x : Int).fdiv (2 ^ ((M - Lo) * n).toNat) * 2 ^ ((M - Lo) * n).toNat) = ((x % 2 ^ (n.toNat * (M - Lo).toNat) : Nat) : Int) := by rw [shl_nat hn h, xor_low]
theorem fdiv_mid {x : Nat} {n Lo M : Int} (hn : 0 ≤ n) (h : Lo ≤ M) : (x : Int).fdiv (2 ^ ((M - Lo) * n).toNat) = ((x / 2 ^ (n.toNat * (M - Lo).toNat) : Nat) : Int) := by rw [shl_nat hn h, fdiv_nat]
theorem fits_low {x : Nat} {n Lo M : Int} : Fits (x % 2 ^ (n.toNat * (M - Lo).toNat)) n Lo M := Nat.mod_lt _ (Nat.pow_pos (by decide))
theorem fits_up {x : Nat} {n Lo M Hi : Int} (h : Fits x n Lo Hi) (q1 : Lo ≤ M) (q2 : M ≤ Hi) : Fits (x / 2 ^ (n.toNat * (M - Lo).toNat)) n M Hi := by
  unfold Fits at h ⊢
  rw [Nat.div_lt_iff_lt_mul (Nat.pow_pos (by decide)), ← Nat.pow_add, ← Nat.mul_add, show (Hi - M).toNat + (M - Lo).toNat = (Hi - Lo).toNat from by omega]
  exact h
theorem laid_one' {x : Nat} {n Lo Hi : Int} {ns : List Int} (hq : Lo + 1 = Hi) (h : Fits x n Lo Hi) : Laid n.toNat x Lo.toNat (Hi - Lo).toNat ns (ns.set Lo.toNat (x : Int)) := by
  unfold Fits at h
  have e : (Hi - Lo).toNat = 1 := by omega
  rw [e] at h ⊢
  exact laid_one (by simpa using h)
theorem laid_mid {x n : Nat} {Lo M Hi : Int} {ns ns1 ns2 : List Int} (h0 : 0 ≤ Lo) (q1 : Lo ≤ M) (q2 : M ≤ Hi) (h1 : Laid n (x % 2 ^ (n * (M - Lo).toNat)) Lo.toNat (M - Lo).toNat ns ns1) (h2 : Laid n (x / 2 ^ (n * (M - Lo).toNat)) M.toNat (Hi - M).toNat ns1 ns2) : Laid n x Lo.toNat (Hi - Lo).toNat ns ns2 := by
  have e1 : M.toNat = Lo.toNat + (M - Lo).toNat := by omega
  have e2 : (Hi - Lo).toNat = (M - Lo).toNat + (Hi - M).toNat := by omega
  rw [e1] at h2
  rw [e2]
  exact laid_two h1 h2
theorem fits_bits {x : Nat} {n Lo Hi : Int} {len : Nat} (h : Fits x n Lo Hi) (hn : n ≤ 100) (h0 : 0 ≤ Lo) (h2 : Hi ≤ (len : Int)) (hl : len ≤ 32) : Builtin.Int.intBits (x : Int) ≤ 100000 := by
  refine intBits_le_iff.mpr ?_
  have e1 : n.toNat ≤ 100 := by omega
  have e2 : (Hi - Lo).toNat ≤ 32 := by omega
  have e3 : n.toNat * (Hi - Lo).toNat ≤ 100 * 32 := Nat.mul_le_mul e1 e2
  refine Nat.lt_of_lt_of_le h (Nat.pow_le_pow_right (by decide) (Nat.le_trans e3 (by decide)))
theorem shl_midX {x : Nat} {n a b m : Int} {len : Nat} (h : Fits x n a b) (h0 : 0 ≤ a) (q1 : a < m) (q2 : m < b) (h2 : b ≤ len) (hl : len ≤ 32) (hn : 0 ≤ n ∧ n ≤ 100) : 0 ≤ (m - a) * n ∧ (Builtin.Int.intBits ((x : Int).fdiv (2 ^ ((m - a) * n).toNat)) : Int) + (m - a) * n ≤ 2 ^ 27 :=
  shl_mid (intBits_fdiv_le (fits_bits h hn.2 h0 h2 hl)) h0 q1 q2 h2 hl hn
set_option maxRecDepth 100000 in
set_option maxHeartbeats 1000000 in
theorem inI_step (w : World) (rest : Led) (f c' cN cI cD D k1 : Nat) (vs : List Value) (ns : List Int) (n : Int) (tn tkc : Tok) (oN oI oD oc : Obj) (vsc : Array Value) (doc pm ctv : Value)
   (hf : (f, fnMade (Str.ofString "inner") (Str.ofString "_int2digits.<locals>.inner") in_i2d.1.1 in_i2d.1.2.1 in_i2d.1.2.2.1 [(Str.ofString "n", cN), (Str.ofString "inner", cI), (Str.ofString "a_digits", cD)] doc pm c' ctv) ∈ rest)
   (hc : (c', oc) ∈ rest) (hd : oc.data = .fields vsc) (hv : vsc[1]? = some (.str (Str.ofString "_int2digits.<locals>.inner") tkc))
   (hN : (cN, oN) ∈ rest) (dN : oN.data = .cell (some (.int n tn))) (hI : (cI, oI) ∈ rest) (dI : oI.data = .cell (some (.ref f))) (hD : (cD, oD) ∈ rest) (dD : oD.data = .cell (some (.ref D)))
   (hr : Flt.Hid (∀ p ∈ rest, p.1 ≠ D)) (hi : IntsAre vs ns) (hn : 0 ≤ n ∧ n ≤ 100) (len : Nat) (hlen : ns.length = len) (hl : len ≤ 32) (dD' dU : Nat) (hDU : dD' ≤ 8 ∧ dU ≤ 100) (Lo Hi x : Int) (xn : Nat) (t1 t2 tx : Tok) (h0 : 0 ≤ Lo) (h1 : Lo < Hi) (h2 : Hi ≤ (len : Int)) (hx : x = (xn : Int)) (hxF : Flt.Hid (Fits xn n Lo Hi))
   (ih : Flt.Hid (Lo + 1 ≠ Hi → ∀ (a b y : Int) (yn : Nat) t t' ty (vs : List Value) (ns : List Int), IntsAre vs ns → ns.length = len → 0 ≤ a → a < b → b ≤ (len : Int) → (b - a) * 2 ≤ Hi - Lo + 1 → y = (yn : Int) → Fits yn n a b →
      CtrN w dD' dU f ((D, listOf vs.toArray k1) :: rest) [.int y ty, .int a t, .int b t'] (fun v news' => ∃ vs' ns', news' = (D, listOf vs'.toArray k1) :: rest ∧ IntsAre vs' ns' ∧ Laid n.toNat yn a.toNat (b - a).toNat ns ns' ∧ v = .none))) :
   CtrN w (dD' + 1) (dU + 8) f ((D, listOf vs.toArray k1) :: rest) [.int x tx, .int Lo t1, .int Hi t2] (fun v news' => ∃ vs' ns', news' = (D, listOf vs'.toArray k1) :: rest ∧ IntsAre vs' ns' ∧ Laid n.toNat xn Lo.toNat (Hi - Lo).toNat ns ns' ∧ v = .none) := by
  subst hx
  unfold CtrN; k_fill; intros; rename_i hret
  refine wpAny_call ?_
  k_dflt (refine' code_nest ?k1 ?k2 ?k3 ?k4 ?k5 ?kA ?kF ?kK ?k6 ?k7 ?k8 ?k9 ?kB ?_ ?c2 ?c3 ?c4 ?c5; (case kA => exact rfl); (case kF => exact rfl); (case kK => assumption); (case k1 => k_asm); (case k2 => k_asm); (case k3 => k_asm); (case k4 => k_asm); (case k5 => k_asm); (case k6 => exact .tail _ hf); (case k7 => exact codeRec_news (by k_asm) (.tail _ hc) hd hv); (case k8 => ktr_room); (case k9 => exact BindsTo.of_eq rfl); (case c5 => decide); (case kB => exact locs rfl); (case c2 => exact rfl); (case c3 => exact rfl); (case c4 => exact rfl); k_whole; intro g' L' h' FG' F' N' B' X' T'; (try dsimp only); (try k_lift B'); (try k_fold))
  iterate 12 (first | (k_unfold; (try dsimp only)) | walk1 | (dsimp only; walk1))
  · rename (Lo + 1 = Hi) => hq
    clear ih
    k_steps
    k_here
    refine' ksa_set ?ks1 ?ks2 (Upd.head hr.out) ?ks3 ?ks4 ?ks5 ?ks6 ?_
    case ks1 => k_asm
    case ks2 => k_asm
    case ks3 => exact hi
    case ks4 => exact h0
    case ks5 => rw [hlen]; omega
    case ks6 => omega
    intro hh FF NN jj hll hss
    clear hss
    k_steps
    rename News _ _ _ _ => K9
    exact hret _ _ _ _ ⟨_, _, rfl, jj, laid_one' hq hxF.out, rfl⟩ (by k_asm) K9
  · rename (Lo + 1 ≠ Hi) => hq
    obtain ⟨q1, q2, q3, q4⟩ := mid_facts h1 hq
    obtain ⟨s1, s2⟩ := shl_midX hxF.out h0 q1 q2 h2 hl hn
    k_steps
    refine' CtrN.use (ih.out hq Lo _ _ _ _ _ _ vs ns hi hlen h0 q1 ?i1 q4 (xor_mid hn.1 (Int.le_of_lt q1)) fits_low) ?ka1 ?kb1 ?kc1 ?kd1 ?ke1 ?kK1 ?kf1 ?kg1 ?_
    case i1 => exact Int.le_of_lt (Int.lt_of_lt_of_le q2 h2)
    case ka1 => k_asm
    case kb1 => k_asm
    case kc1 => k_asm
    case kd1 => k_asm
    case ke1 => k_asm
    case kK1 => exact rfl
    case kf1 => ktr_room
    case kg1 => ktr_units
    intro v9 news9 h9 tk9 hR9 F9 N9
    obtain ⟨vs9, ns9, e9, j9, l9, e8⟩ := hR9
    subst e9 e8
    dsimp only
    k_steps
    refine' CtrN.use (ih.out hq _ Hi _ _ _ _ _ vs9 ns9 j9 (l9.1.trans hlen) ?i2 q2 h2 q3 (fdiv_mid hn.1 (Int.le_of_lt q1)) (fits_up hxF.out (Int.le_of_lt q1) (Int.le_of_lt q2))) ?ka2 ?kb2 ?kc2 ?kd2 ?ke2 ?kK2 ?kf2 ?kg2 ?_
    case i2 => exact Int.le_of_lt (Int.lt_of_le_of_lt h0 q1)
    case ka2 => k_asm
    case kb2 => k_asm
    case kc2 => k_asm
    case kd2 => k_asm
    case ke2 => k_asm
    case kK2 => exact rfl
    case kf2 => ktr_room
    case kg2 => ktr_units
    intro v7 news7 h7 tk7 hR7 F7 N7
    obtain ⟨vs7, ns7, e7, j7, l7, e6⟩ := hR7
    subst e7 e6
    dsimp only
    k_steps
    rename News _ _ _ _ => K9
    exact hret _ _ _ _ ⟨_, _, rfl, j7, laid_mid h0 (Int.le_of_lt q1) (Int.le_of_lt q2) l9 l7, rfl⟩ (by k_asm) K9
theorem c_inI (w : World) (rest : Led) (f c' cN cI cD D k1 : Nat) (n : Int) (tn tkc : Tok) (oN oI oD oc : Obj) (vsc : Array Value) (doc pm ctv : Value)
   (hf : (f, fnMade (Str.ofString "inner") (Str.ofString "_int2digits.<locals>.inner") in_i2d.1.1 in_i2d.1.2.1 in_i2d.1.2.2.1 [(Str.ofString "n", cN), (Str.ofString "inner", cI), (Str.ofString "a_digits", cD)] doc pm c' ctv) ∈ rest)
   (hc : (c', oc) ∈ rest) (hd : oc.data = .fields vsc) (hv : vsc[1]? = some (.str (Str.ofString "_int2digits.<locals>.inner") tkc))
   (hN : (cN, oN) ∈ rest) (dN : oN.data = .cell (some (.int n tn))) (hI : (cI, oI) ∈ rest) (dI : oI.data = .cell (some (.ref f))) (hD : (cD, oD) ∈ rest) (dD : oD.data = .cell (some (.ref D)))
   (hr : Flt.Hid (∀ p ∈ rest, p.1 ≠ D)) (hn : 0 ≤ n ∧ n ≤ 100) (len : Nat) (hl : len ≤ 32) :
   ∀ (d : Nat), d ≤ 6 → ∀ (Lo Hi x : Int) (xn : Nat) (t1 t2 tx : Tok) (vs : List Value) (ns : List Int), IntsAre vs ns → ns.length = len → 0 ≤ Lo → Lo < Hi → Hi ≤ (len : Int) → Hi - Lo ≤ 2 ^ d → x = (xn : Int) → Fits xn n Lo Hi →
     CtrN w (d + 1) (8 * d + 8) f ((D, listOf vs.toArray k1) :: rest) [.int x tx, .int Lo t1, .int Hi t2] (fun v news' => ∃ vs' ns', news' = (D, listOf vs'.toArray k1) :: rest ∧ IntsAre vs' ns' ∧ Laid n.toNat xn Lo.toNat (Hi - Lo).toNat ns ns' ∧ v = .none)
  | 0, _, Lo, Hi, x, xn, t1, t2, tx, vs, ns, hi, hlen, h0, h1, h2, h3, hx, hF => inI_step w rest f c' cN cI cD D k1 vs ns n tn tkc oN oI oD oc vsc doc pm ctv hf hc hd hv hN dN hI dI hD dD hr hi hn len hlen hl 0 0 ⟨by omega, by omega⟩ Lo Hi x xn t1 t2 tx h0 h1 h2 hx ⟨hF⟩ ⟨fun hne => by
      have e : (2 : Int) ^ 0 = 1 := by decide
      rw [e] at h3
      omega⟩
  | d + 1, hd6, Lo, Hi, x, xn, t1, t2, tx, vs, ns, hi, hlen, h0, h1, h2, h3, hx, hF => inI_step w rest f c' cN cI cD D k1 vs ns n tn tkc oN oI oD oc vsc doc pm ctv hf hc hd hv hN dN hI dI hD dD hr hi hn len hlen hl (d + 1) (8 * d + 8) ⟨by omega, by omega⟩ Lo Hi x xn t1 t2 tx h0 h1 h2 hx ⟨hF⟩ ⟨fun hne a b y yn t t' ty vs' ns' hi' hlen' a0 a1 a2 a3 hy hFy =>
      c_inI w rest f c' cN cI cD D k1 n tn tkc oN oI oD oc vsc doc pm ctv hf hc hd hv hN dN hI dI hD dD hr hn len hl d (by omega) a b y yn t t' ty vs' ns' hi' hlen' a0 a1 a2 (by
        have e : (2 : Int) ^ (d + 1) = 2 ^ d * 2 := Int.pow_succ 2 d
        rw [e] at h3
        omega) hy hFy⟩
end
section
open PySem PySem.W PyProof.Rows PySem.Spec PySem.Calls
set_option Elab.async false
theorem fresh_MN1 : True := by
  w_top off
  trivial
local macro_rules | `(tactic| walk_at "callWith ref") => `(tactic| (k_here; k_dflt (refine' callWith_F ?k1 ?_; (case k1 => exact FnAt.of (by k_asm) (.tail _ (.head _))); k_whole)))
local macro_rules | `(tactic| walk_at "FnAt") => `(tactic| (k_dflt (exact FnAt.of (by k_asm) (.tail _ (.head _)))))
theorem allLt_mem {d : Addr} {l : List (Addr × Obj)} (h : AllLt d l) : ∀ p ∈ l, @LT.lt Nat _ p.1 d := by
  induction l with
  | nil => intro p hp; cases hp
  | cons x r ih =>
    intro p hp
    have h' : @LT.lt Nat _ x.1 d ∧ AllLt d r := h
    rcases List.mem_cons.1 hp with e | e
    · rw [e]; exact h'.1
    · exact ih h'.2 p e
theorem n1 {a b : Nat} (h : b < a) (k : Nat) : a + k ≠ b := by omega
theorem ne2a {a b : Nat} (h : b < a) (k : Nat) : b ≠ a + k := by omega
theorem sub7 {g h : Heap} {L : Addr} {a b c d e f i : Addr × Obj} {r : Led} (N : News g L h (a :: b :: c :: d :: e :: f :: i :: r)) : News g L h (c :: d :: r) := News.sub N fun q hq => by
  simp only [List.mem_cons] at hq ⊢
  rcases hq with h | h | h <;> simp only [h, true_or, or_true]
theorem seg_all (ns : List Int) (n : Int) : segD ns n 0 ns.length = polyI n.toNat ns := by
  have e : ((ns.length : Int) - 0).toNat = ns.length := by omega
  unfold segD
  rw [e, show (0 : Int).toNat = 0 from rfl, List.drop_zero, List.take_length]
set_option maxRecDepth 100000 in
set_option maxHeartbeats 1000000 in
theorem c_d2i (w : World) (t : Obj) (rest : Led) (la : Nat) (vs : List Value) (ns : List Int) (k1 : Nat) (n : Int) (tn : Tok) (hn : 0 ≤ n ∧ n ≤ 100) (hi : IntsAre vs ns) (hl : ns.length ≤ 32) (hB : Flt.Hid (∀ a b : Int, 0 ≤ a → a ≤ b → b ≤ ns.length → Builtin.Int.intBits (segD ns n a b) ≤ 100000))
   (hst : TabD t rest) (hr : Flt.Hid (∀ q ∈ rest, q.1 ≠ 115)) (hla : (la, listOf vs.toArray k1) ∈ rest) :
   CtrN w 8 70 120 ((115, t) :: rest) [.ref la, .int n tn] (fun v news' => ∃ (c' : Nat) (oc t' : Obj) (tk : Tok), news' = (115, t') :: (c', oc) :: rest ∧ TabD t' [(c', oc)] ∧ 191 < c' ∧ (t' = t ∨ ∀ q ∈ rest, @LT.lt Nat _ q.1 c') ∧ v = .int (polyI n.toNat ns) tk) := by
  unfold CtrN; k_fill; intros; rename_i hret
  refine wpAny_call ?_
  k_dflt (walk_at "cells_in")
  k_steps
  rename Fr _ _ _ _ => F9
  rename News _ _ _ _ => N9
  rename Top _ _ _ _ _ _ => T9
  rename Frag.In _ _ => X9
  rename (_ ∧ AllLt _ _) => l9
  have l8 := allLt_mem l9.2
  have hbL := big_L X9 F9
  have N8 := News.sub N9 (b := (115, t) :: ([(_, _), (_, _), (_, _)] ++ rest)) (by
    intro q hq
    simp only [List.mem_cons, List.mem_append, List.not_mem_nil, or_false] at hq ⊢
    rcases hq with h | (h | h | h) | h
    · exact .inr (.inr (.inr (.inl h)))
    · exact .inl h
    · exact .inr (.inl h)
    · exact .inr (.inr (.inl h))
    · exact .inr (.inr (.inr (.inr h))))
  k_dflt (refine' nestDef_K rfl rfl rfl ?_)
  k_dflt (refine' nest_X (P := 115) (c := 119) (qual := Str.ofString "_digits2int.<locals>.inner") F9 N8 T9 (cd119 X9) rfl hst ?hrr ⟨_, .head _, Nat.lt_of_lt_of_le hbL (Nat.le_add_right _ 3)⟩ ?hcr rfl ?_)
  case hrr =>
    intro q hq
    simp only [List.mem_cons, List.mem_append, List.not_mem_nil, or_false] at hq
    rcases hq with (rfl | rfl | rfl) | h
    · exact n1 l9.1 3
    · exact n1 l9.1 2
    · exact n1 l9.1 1
    · exact hr.out q h
  case hcr =>
    intro q hq p hp
    have := l8 p hp
    simp only [List.mem_cons, List.not_mem_nil, or_false] at hq
    rcases hq with rfl | rfl | rfl
    · exact ne2a this 3
    · exact ne2a this 2
    · exact ne2a this 1
  intro f c' oc vsc tkc ctv doc h8 tk8 F8 N7 hd8 hv8 hcB hcc lf1 lf2 lf3 lf4
  clear F9 N9 N8
  dsimp only [List.cons_append, List.nil_append] at N7
  refine' storeX_C F8 N7 rfl (UpdF.tail (Nat.ne_of_gt (lf1 _ (.head _))) (UpdF.tail (ne2a l9.1 3) (UpdF.tail (Ne.symm (hcc _ (.head _))) (UpdF.head ?hh)))) ?dd ?_
  case dd => assumption
  case hh =>
    intro p hp
    simp only [List.mem_cons] at hp
    rcases hp with rfl | rfl | h
    · exact ne2a (Nat.lt_succ_self _) 0
    · exact ne2a (Nat.lt_succ_of_lt (Nat.lt_succ_self _)) 0
    · exact ne2a (l8 p h) 3
  intro h6 o6 F6 N6 d6
  have N5 := News.sub N6 (b := (la, listOf vs.toArray k1) :: _) (fun q hq => (List.mem_cons.1 hq).elim (fun e => e ▸ .tail _ (.tail _ (.tail _ (.tail _ (.tail _ (.tail _ hla)))))) id)
  clear N6 N7
  k_steps
  · rename (0 < ns.length) => hpos
    refine' Ctr.use (c_inD w _ f c' _ _ _ la k1 vs ns n tn tkc _ _ _ oc vsc doc _ ctv (.tail _ (.head _)) (.tail _ (.tail _ (.tail _ (.head _)))) hd8 hv8 (.tail _ (.tail _ (.tail _ (.tail _ (.tail _ (.head _)))))) ?dn (.tail _ (.tail _ (.tail _ (.tail _ (.head _))))) d6 (.tail _ (.tail _ (.tail _ (.tail _ (.tail _ (.tail _ (.head _))))))) ?dD (.head _) hi hn hl hB 5 (by decide) 0 (ns.length : Int) _ _ (Int.le_refl _) ?i1 (Int.le_refl _) ?i2) ?k1 ?k2 ?k3 ?k4 ?k5 ?kK ?kd ?ku ?_
    case dn => assumption
    case dD => assumption
    case i1 => omega
    case i2 => have e : (2 : Int) ^ 5 = 32 := by decide
               omega
    case k1 => k_asm
    case k2 => k_asm
    case k3 => k_asm
    case k4 => exact N5
    case k5 => k_asm
    case kK => exact rfl
    case kd => ktr_room
    case ku => ktr_units
    intro v9 more9 h9 tk9 hR9 F9 N9
    obtain ⟨e9, t9, e8⟩ := hR9
    subst e9 e8
    dsimp only
    dsimp only [List.nil_append] at N9
    k_steps
    rename News _ _ _ _ => K9
    refine hret _ _ _ _ ⟨c', oc, _, _, rfl, .inr ⟨c', oc, vsc, tkc, rfl, hcB, .head _, hd8, hv8⟩, hcB, lf4, by rw [seg_all]⟩ (by k_asm) (sub7 K9)
  · rename News _ _ _ _ => K9
    rename (¬0 < ns.length) => hz
    have hnil : ns = [] := List.eq_nil_of_length_eq_zero (by omega)
    refine hret _ _ _ _ ⟨c', oc, _, _, rfl, .inr ⟨c', oc, vsc, tkc, rfl, hcB, .head _, hd8, hv8⟩, hcB, lf4, by rw [hnil]; rfl⟩ (by k_asm) (sub7 K9)
end
section
open PySem PySem.W PyProof.Rows PySem.Spec PySem.Calls
set_option Elab.async false
local macro_rules | `(tactic| walk_at "zz0") => `(tactic| skip)
theorem fresh_MN4 : True := by
  w_top off
  trivial
local macro_rules | `(tactic| walk_at "callWith ref") => `(tactic| (k_here; k_dflt (refine' callWith_F ?k1 ?_; (case k1 => exact FnAt.of (by k_asm) (.tail _ (.head _))); k_whole)))
local macro_rules | `(tactic| walk_at "FnAt") => `(tactic| (k_dflt (exact FnAt.of (by k_asm) (.tail _ (.head _)))))
theorem size_nat {b : Nat} {n : Int} (hn : 1 ≤ n) : ((b : Int) + n - 1).fdiv n = (((b + n.toNat - 1) / n.toNat : Nat) : Int) := by
  obtain ⟨m, rfl⟩ : ∃ m : Nat, n = m := ⟨n.toNat, by omega⟩
  rw [Int.fdiv_eq_ediv_of_nonneg _ (by omega), Int.toNat_natCast, Int.natCast_ediv]
  congr 1
  omega
theorem size_ok4 {b : Nat} {n : Int} (hn : 1 ≤ n) (h : (b + n.toNat - 1) / n.toNat ≤ 32) : 0 ≤ ((b : Int) + n - 1).fdiv n ∧ ((b : Int) + n - 1).fdiv n ≤ 32 := by
  rw [size_nat hn]
  generalize (b + n.toNat - 1) / n.toNat = k at h ⊢
  omega
theorem sub8 {g h : Heap} {L : Addr} {a b c d e f i : Addr × Obj} {r : Led} (N : News g L h (a :: b :: c :: d :: e :: f :: i :: r)) : News g L h (a :: c :: d :: r) := News.sub N fun q hq => by
  simp only [List.mem_cons] at hq ⊢
  rcases hq with h | h | h | h <;> simp only [h, true_or, or_true]
theorem ceil_ge {b m : Nat} (hm : 1 ≤ m) : b ≤ m * ((b + m - 1) / m) := by
  have h1 := Nat.div_add_mod (b + m - 1) m
  have h2 := Nat.mod_lt (b + m - 1) hm
  omega
theorem ceil_pos {b m : Nat} (hm : 1 ≤ m) (hb : 1 ≤ b) : 1 ≤ (b + m - 1) / m := (Nat.le_div_iff_mul_le hm).2 (by omega)
theorem fits_all {x : Nat} {n : Int} {k : Nat} (hn : 1 ≤ n) (hk : (Builtin.Int.intBits (x : Int) + n.toNat - 1) / n.toNat = k) : Fits x n 0 k := by
  unfold Fits
  have h1 : (x : Int).natAbs < 2 ^ Builtin.Int.intBits (x : Int) := intBits_le_iff.mp (Nat.le_refl _)
  have h2 : Builtin.Int.intBits (x : Int) ≤ n.toNat * k := by rw [← hk]; exact ceil_ge (by omega)
  have h3 : ((k : Int) - 0).toNat = k := by omega
  rw [h3]
  exact Nat.lt_of_lt_of_le (by simpa using h1) (Nat.pow_le_pow_right (by decide) h2)
theorem bits_pos {x : Nat} (h : (x : Int) ≠ 0) : 1 ≤ Builtin.Int.intBits (x : Int) := by
  rcases Nat.eq_zero_or_pos (Builtin.Int.intBits (x : Int)) with e | e
  · have h1 : (x : Int).natAbs < 2 ^ 0 := intBits_le_iff.mp (Nat.le_of_eq e)
    omega
  · exact e
theorem rep_len {k m : Nat} (h : (List.replicate k [(0 : Int)]).flatten.length = m) : k = m := by rwa [List.flatten_replicate_singleton, List.length_replicate] at h
theorem digs_zero {x n k : Nat} (hx : (x : Int) = 0) (hk : (Builtin.Int.intBits (x : Int) + n - 1) / n = k) (hn : 1 ≤ n) : k = 0 := by
  have e : Builtin.Int.intBits (x : Int) = 0 := Nat.le_zero.1 (intBits_le_iff.mpr (by rw [hx]; decide))
  rw [e] at hk
  rw [← hk]
  exact Nat.div_eq_of_lt (by omega)
theorem laid_all' {n x k : Nat} {ns ns' : List Int} (hl : ns.length = k) (h : Laid n x (Int.toNat 0) ((k : Int) - 0).toNat ns ns') : ns' = digs n x k := by
  have e : ((k : Int) - 0).toNat = k := by omega
  rw [e] at h
  exact laid_all hl h
theorem ints_nil {vs : List Value} {m n x : Nat} (h : IntsAre vs (List.replicate m 0)) (e : m = 0) : IntsAre vs (digs n x 0) := by
  subst e
  exact h
set_option maxRecDepth 100000 in
set_option maxHeartbeats 1000000 in
theorem c_i2d (w : World) (t : Obj) (rest : Led) (xn : Nat) (a n : Int) (ta tn : Tok) (hn : 1 ≤ n ∧ n ≤ 100) (ha : a = (xn : Int)) (hb : Builtin.Int.intBits (xn : Int) ≤ 1000) (hk : (Builtin.Int.intBits (xn : Int) + n.toNat - 1) / n.toNat ≤ 32)
   (hst : TabI t rest) (hr : Flt.Hid (∀ q ∈ rest, q.1 ≠ 108)) :
   CtrN w 8 70 113 ((108, t) :: rest) [.int a ta, .int n tn] (fun v news' => ∃ (D c' : Nat) (oc t' : Obj) (vs : List Value) (k : Nat), news' = (D, listOf vs.toArray k) :: (108, t') :: (c', oc) :: rest ∧ TabI t' [(c', oc)] ∧ 191 < c' ∧ (t' = t ∨ ∀ q ∈ rest, @LT.lt Nat _ q.1 c') ∧ 191 < D ∧ v = .ref D ∧ IntsAre vs (digs n.toNat xn ((Builtin.Int.intBits (xn : Int) + n.toNat - 1) / n.toNat))) := by
  unfold CtrN; k_fill; intros; rename_i hret
  subst ha
  have hsz := size_ok4 hn.1 hk
  refine wpAny_call ?_
  k_dflt (walk_at "cells_in")
  k_steps
  rename Fr _ _ _ _ => F9
  rename News _ _ _ _ => N9
  rename Top _ _ _ _ _ _ => T9
  rename Frag.In _ _ => X9
  rename (_ ∧ _ ∧ _ ∧ _ ∧ _ ∧ AllLt _ _) => l9
  rename (108 < _ ∧ AllLt _ _) => l7
  have l8 := allLt_mem l7.2
  have l6 := allLt_mem l9.2.2.2.2.2
  have hbL := big_L X9 F9
  rename ((List.replicate _ [(0 : Int)]).flatten.length = _) => e1
  rename IntsAre _ _ => i1
  have hK := rep_len e1
  have hKn : (Builtin.Int.intBits (xn : Int) + n.toNat - 1) / n.toNat = _ := Eq.trans (by rw [size_nat hn.1, Int.toNat_natCast]) hK
  have i0 := rep_flat i1
  have N8 := News.sub N9 (b := (108, t) :: ([(_, listOf (List.replicate _ _).flatten.toArray 0), (_ + 1 + 1 + 1, _), (_ + 1 + 1, _), (_ + 1, _)] ++ rest)) (by
    intro q hq
    simp only [List.mem_cons, List.mem_append, List.not_mem_nil, or_false] at hq ⊢
    rcases hq with h | (h | h | h | h) | h
    · exact .inr (.inr (.inr (.inr (.inr (.inl h)))))
    · exact .inl h
    · exact .inr (.inr (.inl h))
    · exact .inr (.inr (.inr (.inl h)))
    · exact .inr (.inr (.inr (.inr (.inl h))))
    · exact .inr (.inr (.inr (.inr (.inr (.inr h))))))
  clear N9
  dsimp only [List.cons_append, List.nil_append] at N8
  refine' storeX_C F9 N8 rfl (UpdF.tail (ne2a l7.1 2) (UpdF.tail (Nat.ne_of_gt l9.2.2.1) (UpdF.tail (ne2 _) (UpdF.head ?hh)))) ?dd ?_
  case dd => assumption
  case hh =>
    intro p hp
    simp only [List.mem_cons] at hp
    rcases hp with rfl | h
    · exact (Nat.ne_of_lt (Nat.lt_succ_self _))
    · exact ne2a (l8 p h) 2
  intro h7 o7 F7 N7 d7
  k_steps
  k_dflt (refine' nestDef_K rfl rfl rfl ?_)
  k_dflt (refine' nest_X (cells := [(_, listOf (List.replicate _ _).flatten.toArray 0), (_ + 1 + 1 + 1, _), (_ + 1 + 1, _), (_ + 1, _)]) (rest := rest) (P := 108) (c := 112) (qual := Str.ofString "_int2digits.<locals>.inner") F7 N7 (by k_asm) (cd112 (by k_asm)) rfl hst ?hrr ⟨_, .tail _ (.head _), Nat.lt_of_lt_of_le hbL (Nat.le_add_right _ 3)⟩ ?hcr rfl ?_)
  case hrr =>
    intro q hq
    simp only [List.mem_cons, List.mem_append, List.not_mem_nil, or_false] at hq
    rcases hq with (rfl | rfl | rfl | rfl) | h
    · exact Nat.ne_of_gt l9.2.2.2.2.1
    · exact n1 l7.1 3
    · exact n1 l7.1 2
    · exact n1 l7.1 1
    · exact hr.out q h
  case hcr =>
    intro q hq p hp
    have := l8 p hp
    have h6 := l6 p hp
    simp only [List.mem_cons, List.not_mem_nil, or_false] at hq
    rcases hq with rfl | rfl | rfl | rfl
    · exact Nat.ne_of_lt h6
    · exact ne2a this 3
    · exact ne2a this 2
    · exact ne2a this 1
  intro f c' oc vsc tkc ctv doc h8 tk8 F8 N6 hd8 hv8 hcB hcc lf1 lf2 lf3 lf4
  dsimp only [List.cons_append, List.nil_append] at N6
  refine' storeX_C F8 N6 rfl (UpdF.tail (Nat.ne_of_gt (lf1 _ (.tail _ (.head _)))) (UpdF.tail (ne2a l7.1 3) (UpdF.tail (Ne.symm (hcc _ (.tail _ (.head _)))) (UpdF.tail (Nat.ne_of_gt l9.2.1) (UpdF.head ?hg))))) ?dg ?_
  case dg => assumption
  case hg =>
    intro p hp
    simp only [List.mem_cons] at hp
    rcases hp with rfl | rfl | h
    · exact ne2a (Nat.lt_succ_self _) 0
    · exact ne2a (Nat.lt_succ_of_lt (Nat.lt_succ_self _)) 0
    · exact ne2a (l8 p h) 3
  intro h6 o6 F6 N5 d6
  have N4 := News.sub N5 (b := (_, listOf (List.replicate _ _).flatten.toArray 0) :: (f, _) :: (108, _) :: (c', oc) :: (_ + 1 + 1 + 1, _) :: (_ + 1 + 1, _) :: (_ + 1, _) :: rest) (by
    intro q hq
    simp only [List.mem_cons] at hq ⊢
    rcases hq with h | h | h | h | h
    · exact .inr (.inr (.inr (.inl h)))
    · exact .inl h
    · exact .inr (.inl h)
    · exact .inr (.inr (.inl h))
    · exact .inr (.inr (.inr (.inr h))))
  clear N5 N6 N7 N8 F7 F8 F9
  k_steps
  · rename ((xn : Int) ≠ 0) => hne
    have hpos := ceil_pos (b := Builtin.Int.intBits (xn : Int)) (m := n.toNat) (by omega) (bits_pos hne)
    rw [hKn] at hpos hk
    refine' CtrN.use (c_inI w _ f c' _ _ _ _ 0 n tn tkc _ _ _ oc vsc doc _ ctv (.head _) (.tail _ (.tail _ (.head _))) hd8 hv8 (.tail _ (.tail _ (.tail _ (.tail _ (.tail _ (.head _)))))) ?dn (.tail _ (.tail _ (.tail _ (.head _)))) d6 (.tail _ (.tail _ (.tail _ (.tail _ (.head _))))) d7 ⟨?hD⟩ ⟨by omega, hn.2⟩ _ hk 5 (by decide) 0 (_ : Nat) (xn : Int) xn _ _ _ _ _ i0 ((List.length_replicate ..).trans hK) (Int.le_refl _) ?i1 (Int.le_refl _) ?i2 rfl (fits_all hn.1 hKn)) ?ka1 ?kb1 ?kc1 ?kd1 ?ke1 ?kK1 ?kf1 ?kg1 ?_
    case i1 => omega
    case i2 => have e : (2 : Int) ^ 5 = 32 := by decide
               omega
    case ka1 => k_asm
    case kb1 => k_asm
    case kc1 => k_asm
    case kd1 => exact N4
    case dn => assumption
    case hD =>
      intro p hp
      simp only [List.mem_cons] at hp
      rcases hp with rfl | rfl | rfl | rfl | rfl | rfl | h
      · exact Nat.ne_of_gt (lf1 _ (.head _))
      · exact Nat.ne_of_lt l9.2.2.2.2.1
      · exact Ne.symm (hcc _ (.head _))
      · exact Nat.ne_of_lt l9.2.1
      · exact Nat.ne_of_lt l9.2.2.1
      · exact Nat.ne_of_lt l9.2.2.2.1
      · exact Nat.ne_of_lt (l6 p h)
    case ke1 => k_asm
    case kK1 => exact rfl
    case kf1 => ktr_room
    case kg1 => ktr_units
    intro v9 news9 h9 tk9 hR9 F9 N9
    obtain ⟨vs9, ns9, e9, j9, q9, e8⟩ := hR9
    subst e9 e8
    dsimp only
    k_steps
    rename News _ _ _ _ => K9
    refine hret _ _ _ _ ⟨_, c', oc, _, _, _, rfl, .inr ⟨c', oc, vsc, tkc, rfl, hcB, .head _, hd8, hv8⟩, hcB, lf4, Nat.lt_trans hbL (Nat.lt_of_le_of_lt (Nat.le_add_right _ 1) l9.2.2.2.1), rfl, by rw [hKn, ← laid_all' ((List.length_replicate ..).trans hK) q9]; exact j9⟩ (by k_asm) (sub8 K9)
  · rename News _ _ _ _ => K9
    rename ((xn : Int) = 0) => hz
    have hz0 := digs_zero hz hKn (by omega)
    refine hret _ _ _ _ ⟨_, c', oc, _, _, _, rfl, .inr ⟨c', oc, vsc, tkc, rfl, hcB, .head _, hd8, hv8⟩, hcB, lf4, Nat.lt_trans hbL (Nat.lt_of_le_of_lt (Nat.le_add_right _ 1) l9.2.2.2.1), rfl, by rw [hKn, hz0]; exact ints_nil i0 (hK.trans hz0)⟩ (by k_asm) (sub8 K9)
end
section
open PySem PySem.W PyProof.Rows PySem.Spec PySem.Calls
set_option Elab.async false
theorem fresh_MN5 : True := by
  w_top off
  trivial
set_option maxRecDepth 100000 in
set_option maxHeartbeats 1000000 in
theorem c_div (w : World) (news : Led) (a b n : Int) (ta tb tn : Tok) (hn : 1 ≤ n ∧ n ≤ 100) (hb : 0 < b) (hlog : b.natAbs.log2 < 9000) (hbits : Builtin.Int.intBits a ≤ 4000) :
   Ctr w 1 8 99 news [.int a ta, .int b tb, .int n tn] (fun v more => ∃ (P : Nat) (t1 t2 : Tok), v = .ref P ∧ more = [(P, { cls := .type "tuple", data := .seq #[.int (a.fdiv b) t1, .int (a.fmod b) t2] })]) := by
  unfold Ctr; k_fill; intros; rename_i hret
  refine wpAny_call ?_
  k_dflt cell_enter
  k_steps
  k_here
  refine divmod_N (by k_asm) (by k_asm) (Int.ne_of_gt hb) ?_ (Or.inl (PyProof.noPylong_of_log2 hlog))
  intro h9 F9 N9
  k_steps
  rename News _ _ _ _ => K9
  exact hret _ [_] _ _ ⟨_, _, _, rfl, rfl⟩ (by k_asm) K9
end
section
open PySem PySem.W PyProof.Rows PySem.Spec PySem.Calls
set_option Elab.async false
noncomputable def longS (n : Nat) (b : Int) (st : Int × List Int) (d : Int) : Int × List Int := ((st.1 * 2 ^ n + d).fmod b, st.2 ++ [(st.1 * 2 ^ n + d).fdiv b])
noncomputable def longF (n : Nat) (b : Int) : Int × List Int → List Int → Int × List Int
  | st, [] => st
  | st, d :: ds => longF n b (longS n b st d) ds
theorem polyI_snoc (n : Nat) (xs : List Int) (d : Int) : polyI n (xs ++ [d]).reverse = polyI n xs.reverse * 2 ^ n + d := by
  rw [List.reverse_append]
  show d + 2 ^ n * polyI n xs.reverse = _
  rw [Int.mul_comm]
  omega
theorem polyI_rev_cons (n : Nat) (pre : List Int) (d : Int) (ds : List Int) : polyI n (pre ++ d :: ds).reverse = polyI n ((pre ++ [d]) ++ ds).reverse := by simp
theorem longS_inv {n : Nat} {b r V d : Int} {qs : List Int} (hb : 0 < b) (h : V = polyI n qs.reverse * b + r) : V * 2 ^ n + d = polyI n (longS n b (r, qs) d).2.reverse * b + (longS n b (r, qs) d).1 := by
  unfold longS
  dsimp only
  rw [polyI_snoc, h]
  have e := Int.mul_fdiv_add_fmod (r * 2 ^ n + d) b
  generalize (r * 2 ^ n + d).fdiv b = x at e ⊢
  generalize (r * 2 ^ n + d).fmod b = y at e ⊢
  generalize polyI n qs.reverse = p
  generalize (2 : Int) ^ n = m at e ⊢
  rw [Int.add_mul, Int.add_mul, Int.mul_comm x b, Int.mul_assoc p b m, Int.mul_comm b m, ← Int.mul_assoc p m b]
  omega
theorem longF_inv {n : Nat} {b : Int} (hb : 0 < b) : ∀ (ds : List Int) (r : Int) (qs pre : List Int), polyI n pre.reverse = polyI n qs.reverse * b + r → polyI n (pre ++ ds).reverse = polyI n (longF n b (r, qs) ds).2.reverse * b + (longF n b (r, qs) ds).1
  | [], r, qs, pre, h => by rw [List.append_nil]; exact h
  | d :: ds, r, qs, pre, h => by
    have h1 := longS_inv (d := d) hb h
    rw [← polyI_snoc] at h1
    rw [polyI_rev_cons]
    exact longF_inv hb ds _ _ _ h1
theorem longS_range {n : Nat} {b : Int} (hb : 0 < b) (st : Int × List Int) (d : Int) : 0 ≤ (longS n b st d).1 ∧ (longS n b st d).1 < b := ⟨Int.fmod_nonneg_of_pos _ hb, Int.fmod_lt_of_pos _ hb⟩
theorem longF_range {n : Nat} {b : Int} (hb : 0 < b) : ∀ (ds : List Int) (st : Int × List Int), 0 ≤ st.1 ∧ st.1 < b → 0 ≤ (longF n b st ds).1 ∧ (longF n b st ds).1 < b
  | [], _, h => h
  | d :: ds, st, _ => longF_range hb ds _ (longS_range hb st d)
theorem longF_length {n : Nat} {b : Int} : ∀ (ds : List Int) (st : Int × List Int), (longF n b st ds).2.length = st.2.length + ds.length
  | [], _ => rfl
  | d :: ds, st => by
    show (longF n b (longS n b st d) ds).2.length = _
    rw [longF_length]
    simp only [longS, List.length_append, List.length_cons, List.length_nil]
    omega
theorem polyI_digs (n : Nat) : ∀ (k x : Nat), x < 2 ^ (n * k) → polyI n (digs n x k) = (x : Int)
  | 0, x, h => by
    have : x = 0 := by simpa using h
    subst this
    rfl
  | k + 1, x, h => by
    have h2 : x / 2 ^ n < 2 ^ (n * k) := by
      rw [Nat.div_lt_iff_lt_mul (Nat.pow_pos (by decide)), ← Nat.pow_add]
      exact h
    show ((x % 2 ^ n : Nat) : Int) + 2 ^ n * polyI n (digs n (x / 2 ^ n) k) = x
    rw [polyI_digs n k _ h2]
    have := Nat.mod_add_div x (2 ^ n)
    have e : ((2 : Int) ^ n) = ((2 ^ n : Nat) : Int) := by simp
    rw [e, ← Int.natCast_mul, ← Int.natCast_add, this]
theorem longF_law {n k x : Nat} {b : Int} (hb : 0 < b) (h : x < 2 ^ (n * k)) : polyI n (longF n b (0, []) (digs n x k).reverse).2.reverse = (x : Int).fdiv b ∧ (longF n b (0, []) (digs n x k).reverse).1 = (x : Int).fmod b := by
  have h1 := longF_inv (n := n) hb (digs n x k).reverse 0 [] [] (by simp [polyI])
  rw [List.nil_append, List.reverse_reverse, polyI_digs n k x h] at h1
  have h2 := longF_range (n := n) hb (digs n x k).reverse (0, []) ⟨Int.le_refl _, hb⟩
  generalize polyI n (longF n b (0, []) (digs n x k).reverse).2.reverse = q at h1 ⊢
  generalize (longF n b (0, []) (digs n x k).reverse).1 = r at h1 h2 ⊢
  rw [Int.fdiv_eq_ediv_of_nonneg _ (Int.le_of_lt hb), Int.fmod_eq_emod_of_nonneg _ (Int.le_of_lt hb), h1]
  constructor
  · rw [Int.add_comm, Int.add_mul_ediv_right _ _ (Int.ne_of_gt hb), Int.ediv_eq_zero_of_lt h2.1 h2.2, Int.zero_add]
  · rw [Int.add_comm, Int.add_mul_emod_self_right, Int.emod_eq_of_lt h2.1 h2.2]
theorem polyI_bits {n m : Nat} : ∀ (ds : List Int), (∀ d ∈ ds, d.natAbs < 2 ^ m) → (polyI n ds).natAbs < 2 ^ (m + (n + 1) * ds.length)
  | [], _ => by simp [polyI]; exact Nat.pow_pos (by decide)
  | d :: ds, h => by
    have ih := polyI_bits (n := n) ds fun x hx => h x (List.mem_cons_of_mem _ hx)
    have hd := h d (List.mem_cons_self ..)
    have e1 : (d + 2 ^ n * polyI n ds).natAbs ≤ d.natAbs + 2 ^ n * (polyI n ds).natAbs := by
      refine Nat.le_trans (Int.natAbs_add_le _ _) ?_
      rw [Int.natAbs_mul, Int.natAbs_pow]
      exact Nat.le_refl _
    have e2 : m + (n + 1) * (ds.length + 1) = n + (m + (n + 1) * ds.length) + 1 := by rw [Nat.mul_add]; omega
    show (d + 2 ^ n * polyI n ds).natAbs < 2 ^ (m + (n + 1) * (ds.length + 1))
    rw [e2, Nat.pow_succ, Nat.pow_add]
    have e3 : 2 ^ m ≤ 2 ^ n * 2 ^ (m + (n + 1) * ds.length) := by
      rw [← Nat.pow_add]
      exact Nat.pow_le_pow_right (by decide) (by omega)
    have e4 : 2 ^ n * (polyI n ds).natAbs ≤ 2 ^ n * 2 ^ (m + (n + 1) * ds.length) := Nat.mul_le_mul_left _ (Nat.le_of_lt ih)
    generalize 2 ^ n * 2 ^ (m + (n + 1) * ds.length) = y at e3 e4 ⊢
    omega
theorem seg_bits {ns : List Int} {n : Int} {m : Nat} (hn : 0 ≤ n ∧ n ≤ 100) (hl : ns.length ≤ 32) (hm : m ≤ 1000) (h : ∀ d ∈ ns, d.natAbs < 2 ^ m) (a b : Int) : Builtin.Int.intBits (segD ns n a b) ≤ 100000 := by
  refine intBits_le_iff.mpr ?_
  have h1 := polyI_bits (n := n.toNat) ((ns.drop a.toNat).take (b - a).toNat) (fun d hd => h d (List.mem_of_mem_drop (List.mem_of_mem_take hd)))
  refine Nat.lt_of_lt_of_le h1 (Nat.pow_le_pow_right (by decide) ?_)
  have h2 : ((ns.drop a.toNat).take (b - a).toNat).length ≤ 32 := by
    rw [List.length_take, List.length_drop]
    omega
  have h3 : (n.toNat + 1) * ((ns.drop a.toNat).take (b - a).toNat).length ≤ 101 * 32 := Nat.mul_le_mul (by omega) h2
  omega
end
section
open PySem PySem.W PyProof.Rows PySem.Spec PySem.Calls
set_option Elab.async false
theorem fresh_MN7 : True := by
  w_top off
  trivial
local macro_rules | `(tactic| walk_at "binaryOp LShift int int") => `(tactic| (k_here; (with_reducible refine lshift_int ?kbn ?kbs ?_); (case kbn => with_reducible assumption); (case kbs => with_reducible assumption)))
theorem shl_r {r n : Int} (h : Builtin.Int.intBits r ≤ 100) (hn : n ≤ 100) : (Builtin.Int.intBits r : Int) + n ≤ 2 ^ 27 := by
  have e : (2 : Int) ^ 27 = 134217728 := by decide
  rw [e]
  omega
theorem ne_tl {g h : Heap} {L : Addr} {P Q k1 k2 : Nat} {a b : Array Value} {r : Led} (N : News g L h ((P, ({ cls := .type "tuple", data := .seq a k1 } : Obj)) :: (Q, listOf b k2) :: r)) : P ≠ Q := fun e => by
  have a1 := (N _ (.head _)).1
  have a2 := (N _ (.tail _ (.head _))).1
  dsimp only at a1 a2
  rw [e, a2] at a1
  have h3 := congrArg Obj.cls (Option.some.inj a1)
  exact absurd (Value.type.inj h3) (by decide)
theorem updPQ {P Q : Nat} {x o o' : Obj} {r : Led} (h : P ≠ Q) (hq : ∀ q ∈ r, q.1 ≠ Q) : Upd Q o o' ((P, x) :: (Q, o) :: r) ((P, x) :: (Q, o') :: r) := .tail h (.head hq)
theorem ints_snoc {x : Int} {t : Tok} : ∀ {vs : List Value} {ns : List Int}, IntsAre vs ns → IntsAre (vs ++ [.int x t]) (ns ++ [x])
  | _, _, .nil => .cons x t .nil
  | _, _, .cons i u h => .cons i u (ints_snoc h)
theorem push_list {vs : List Value} {x : Value} {k : Nat} : listOf (vs.toArray.push x) k = listOf (vs ++ [x]).toArray k := by rw [List.push_toArray]
noncomputable abbrev dp_for : { x : Str × Expr × List Stmt × Pos × Pos // d_divmod_pos.1.2.1[4]? = some (Stmt.For (Expr.Name x.1 x.2.2.2.1) x.2.1 x.2.2.1 [] x.2.2.2.2) } := ⟨(_, _, _, _, _), rfl⟩
noncomputable abbrev envP (L' : Addr) : Env := envOf (Str.ofString "_divmod_pos") d_divmod_pos.1.2.2 L' 127 (Value.ref 126)
noncomputable abbrev mapP (rv ad qd : Option Value) (Q : Addr) (n b : Value) (mO : Str → Option Value) : Str → Option Value := fun y => if y = Str.ofString "r" then rv else if y = Str.ofString "q_digit" then qd else if y = Str.ofString "a_digit" then ad else if y = Str.ofString "q_digits" then some (.ref Q) else if y = Str.ofString "n" then some n else if y = Str.ofString "b" then some b else mO y
theorem mapP_end {rv ad qd r2 q2 : Option Value} {Q : Addr} {n b : Value} {mO : Str → Option Value} : (fun y => if y = Str.ofString "r" then r2 else if y = Str.ofString "q_digit" then q2 else mapP rv ad qd Q n b mO y) = mapP r2 ad q2 Q n b mO := by
  funext y
  unfold mapP
  by_cases h1 : y = Str.ofString "r"
  · simp only [if_pos h1]
  · by_cases h2 : y = Str.ofString "q_digit"
    · simp only [if_neg h1, if_pos h2]
    · simp only [if_neg h1, if_neg h2]
theorem mapP_ad {rv ad ad2 qd : Option Value} {Q : Addr} {n b : Value} {mO : Str → Option Value} : (fun y => if y = Str.ofString "a_digit" then ad2 else mapP rv ad qd Q n b mO y) = mapP rv ad2 qd Q n b mO := by
  funext y
  unfold mapP
  by_cases h1 : y = Str.ofString "a_digit"
  · subst h1
    rw [if_pos rfl, if_neg (by decide), if_neg (by decide), if_pos rfl]
  · simp only [if_neg h1]
set_option maxRecDepth 100000 in
set_option maxHeartbeats 1000000 in
theorem dp_turn (w : World) {p : Program} {loose : List Str} {mean : ExcName → Option Value} {mg mb : Str → Option Value} {dp un : Nat} {gd : Option (List Code)} {cn : Str} {cs : Scope} {L a : Addr} {ccd : Value} {cl : List (Str × Addr)} {outer : List Env} {base g : Heap} {L' : Nat} {s : Shared} {E : Value → Shared → Prop} {P : Flow → Shared → Prop}
   (X : (heapK w.params).In g) (T : Top p loose mean mg mb g) (B : Below (ktrTop dp un gd cn cs L a ccd cl outer) base (envX cn cs L a ccd cl :: outer) g) (hdp : dp + 9 < recursionLimit) (hun : un + 60 < cLine) {news : Led} {mO : Str → Option Value}
   {Q kQ : Nat} {vsQ : List Value} {qs : List Int} (jQ : IntsAre vsQ qs) (hlq : qs.length ≤ 32) {r d b n : Int} {tr td tb tn : Tok} (hr : 0 ≤ r ∧ r < b) (hn : 1 ≤ n ∧ n ≤ 100) (hb : 0 < b) (hlog : b.natAbs.log2 < 9000) (hbr : Builtin.Int.intBits r ≤ 100) (hbits : Builtin.Int.intBits (r * 2 ^ n.toNat + d) ≤ 4000)
   {qd : Option Value} (hq : Flt.Hid (∀ q ∈ news, q.1 ≠ Q))
   (F : Fr g L' s.heap (mapP (some (.int r tr)) (some (.int d td)) qd Q (.int n tn) (.int b tb) mO)) (N : News g L' s.heap ((Q, listOf vsQ.toArray kQ) :: news))
   (post : ∀ (h' : Heap) (tk' P9 : Nat) (oP : Obj) (t8 t9 : Tok), Fr g L' h' (mapP (some (.int ((r * 2 ^ n.toNat + d).fmod b) t9)) (some (.int d td)) (some (.int ((r * 2 ^ n.toNat + d).fdiv b) t8)) Q (.int n tn) (.int b tb) mO) →
     News g L' h' ((P9, oP) :: (Q, listOf (vsQ ++ [Value.int ((r * 2 ^ n.toNat + d).fdiv b) t8]).toArray (kQ + 1)) :: news) → P9 ≠ Q → IntsAre (vsQ ++ [Value.int ((r * 2 ^ n.toNat + d).fdiv b) t8]) (qs ++ [(r * 2 ^ n.toNat + d).fdiv b]) → P .next { s with heap := h', toks := tk' }) :
   wpAny (model Challenge.rw_qu0064_01.row.prog w) ((ktrTop dp un gd cn cs L a ccd cl outer).deeper (envP L')) (execs dp_for.1.2.2.1 (envP L')) P E s := by
  revert X; k_fill; intro X
  have s1 : 0 ≤ n := Int.le_trans (by decide) hn.1
  have s2 := shl_r hbr hn.2
  k_steps
  refine' Ctr.use (c_div w _ (r * 2 ^ n.toNat + d) b n _ _ _ hn hb hlog hbits) ?k1 ?k2 ?k3 ?k4 ?k5 ?kK ?kd ?ku ?_
  case k1 => k_asm
  case k2 => k_asm
  case k3 => k_asm
  case k4 => k_asm
  case k5 => k_asm
  case kK => exact rfl
  case kd => ktr_room
  case ku => ktr_units
  intro v9 more9 h9 tk9 hR9 F9 N9
  obtain ⟨P9, t8, t9, e9, e8⟩ := hR9
  subst e9 e8
  dsimp only
  dsimp only [List.cons_append, List.nil_append] at N9
  k_steps
  rename News _ _ _ _ => N8
  have hPQ := ne_tl N8
  k_here
  refine' append_K ?ka ?kb (updPQ hPQ hq.out) ?_ ?kz
  case ka => k_asm
  case kb => k_asm
  case kz => rw [List.size_toArray, jQ.length, sizeLine_eq]; omega
  intro h7 F7 N7
  k_steps
  rw [push_list] at N7
  exact post _ _ _ _ _ _ (fr_map F7 mapP_end) N7 hPQ (ints_snoc jQ)
end
section
open PySem PySem.W PyProof.Rows PySem.Spec PySem.Calls
set_option Elab.async false
theorem dp_bits {n b r d : Int} (h : 0 ≤ r ∧ r < b) (hbb : Builtin.Int.intBits b ≤ 100) (hn : 1 ≤ n ∧ n ≤ 100) (hd : 0 ≤ d ∧ d < 2 ^ n.toNat) : Builtin.Int.intBits r ≤ 100 ∧ Builtin.Int.intBits (r * 2 ^ n.toNat + d) ≤ 4000 := by
  have h1 : Builtin.Int.intBits r ≤ 100 := intBits_le_of_natAbs (by omega) hbb
  have h2 : Builtin.Int.intBits ((2 : Int) ^ n.toNat) ≤ 201 := Nat.le_trans (intBits_pow_le (m := 2) (intBits_le_iff.mpr (by decide)) n.toNat) (by omega)
  have h3 : Builtin.Int.intBits d ≤ 201 := intBits_le_of_natAbs (by omega) h2
  have h4 := intBits_add_le (intBits_mul_le h1 h2) h3
  exact ⟨h1, Nat.le_trans h4 (by decide)⟩
theorem dp_items (w : World) {p : Program} {loose : List Str} {mean : ExcName → Option Value} {mg mb : Str → Option Value} {dp un : Nat} {gd : Option (List Code)} {cn : Str} {cs : Scope} {L a : Addr} {ccd : Value} {cl : List (Str × Addr)} {outer : List Env} {base g : Heap} {L' : Nat} {s : Shared} {E : Value → Shared → Prop} {Qf : Flow → Shared → Prop}
   (X : (heapK w.params).In g) (T : Top p loose mean mg mb g) (B : Below (ktrTop dp un gd cn cs L a ccd cl outer) base (envX cn cs L a ccd cl :: outer) g) (hdp : dp + 9 < recursionLimit) (hun : un + 60 < cLine) {news : Led} {mO : Str → Option Value}
   {Q I ax : Nat} {lo : Obj} {b n : Int} {tb tn : Tok} (hn : 1 ≤ n ∧ n ≤ 100) (hb : 0 < b) (hlog : b.natAbs.log2 < 9000) (hbb : Builtin.Int.intBits b ≤ 100)
   (hax : (ax, lo) ∈ news) (hq : ∀ q ∈ news, q.1 ≠ Q) (hI : ∀ q ∈ news, q.1 ≠ I) (hQI : Q ≠ I) : ∀ (vs : List Value) (ds : List Int) (vsQ : List Value) (qs : List Int) (kQ : Nat) (r : Int) (tr : Tok) (ad qd : Option Value), IntsAre vs ds → (∀ d ∈ ds, 0 ≤ d ∧ d < 2 ^ n.toNat) → IntsAre vsQ qs → qs.length + ds.length ≤ 32 → (0 ≤ r ∧ r < b) →
     (∀ (h' : Heap) (tk' k' : Nat) (vs' : List Value) (t9 : Tok) (ad' qd' : Option Value), IntsAre vs' (longF n.toNat b (r, qs) ds).2 → Fr g L' h' (mapP (some (.int (longF n.toNat b (r, qs) ds).1 t9)) ad' qd' Q (.int n tn) (.int b tb) mO) →
       News g L' h' ((Q, listOf vs'.toArray k') :: news) → Qf .next { s with heap := h', toks := tk' }) →
     RevRest Challenge.rw_qu0064_01.row.prog w ((ktrTop dp un gd cn cs L a ccd cl outer).deeper (envP L')) E g (envP L') dp_for.1.1 dp_for.1.2.2.1 Qf s I (ax, lo) vs (mapP (some (.int r tr)) ad qd Q (.int n tn) (.int b tb) mO) ((Q, listOf vsQ.toArray kQ) :: news) := by
  intro vs ds vsQ qs kQ r tr ad qd hvd
  induction hvd generalizing vsQ qs kQ r tr ad qd with
  | nil =>
    intro hd jQ hl hr hQ
    refine RevRest.zero fun h tk F N => ?_
    exact hQ h tk kQ vsQ tr ad qd jQ F N
  | cons d td hvs ihR =>
    intro hd jQ hl hr hQ
    refine RevRest.succ fun it h tk hic F N => ?_
    have hd0 := hd d (List.mem_cons_self ..)
    obtain ⟨b1, b2⟩ := dp_bits hr hbb hn hd0
    rw [List.length_cons] at hl
    refine dp_turn w (s := { s with heap := h, toks := tk }) (news := (I, it) :: news) X T B hdp hun (kQ := kQ) jQ (by omega) (r := r) (d := d) (tr := tr) (td := td) hr hn hb hlog b1 b2 (qd := qd) ⟨List.forall_mem_cons.2 ⟨Ne.symm hQI, hq⟩⟩ (fr_map F mapP_ad) ?_ ?_
    · refine News.sub N fun q hq => ?_
      simp only [List.mem_cons] at hq ⊢
      rcases hq with h | h | h <;> simp only [h, true_or, or_true]
    · intro h' tk' P9 oP t8 t9 F' N' hPQ jQ'
      have ih := ihR (vsQ ++ [Value.int ((r * 2 ^ n.toNat + d).fdiv b) t8]) (qs ++ [(r * 2 ^ n.toNat + d).fdiv b]) (kQ + 1) ((r * 2 ^ n.toNat + d).fmod b) t9 (some (.int d td)) (some (.int ((r * 2 ^ n.toNat + d).fdiv b) t8)) (fun x hx => hd x (List.mem_cons_of_mem _ hx)) jQ' (by rw [List.length_append, List.length_cons, List.length_nil]; omega) (longS_range hb (r, qs) d) hQ
      refine ⟨h', tk', _, (Q, listOf (vsQ ++ [Value.int ((r * 2 ^ n.toNat + d).fdiv b) t8]).toArray (kQ + 1)) :: news, rfl, F', ?_, ?_, .tail _ hax, ih⟩
      · refine News.sub N' fun q hq => ?_
        simp only [List.mem_cons] at hq ⊢
        rcases hq with h | h | h <;> simp only [h, true_or, or_true]
      · intro q hq
        rcases List.mem_cons.1 hq with rfl | h
        · exact hQI
        · exact hI q h
end
section
open PySem PySem.W PyProof.Rows PySem.Spec PySem.Calls
set_option Elab.async false
theorem fresh_MN6 : True := by
  w_top off
  trivial
theorem bits_pos_int {b : Int} (h : 0 < b) : 1 ≤ Builtin.Int.intBits b := by
  obtain ⟨x, rfl⟩ : ∃ x : Nat, b = x := ⟨b.toNat, by omega⟩
  exact bits_pos (by omega)
theorem offI_of {I : Addr} {it : Obj} {l : List (Addr × Obj)} (h : ∀ p ∈ l, p.1 ≠ I) : OffI I it l := by
  induction l with
  | nil => trivial
  | cons x r ih => exact ⟨Or.inl (h x (.head _)), ih fun p hp => h p (.tail _ hp)⟩
theorem ints_rev : ∀ {vs : List Value} {ns : List Int}, IntsAre vs ns → IntsAre vs.reverse ns.reverse
  | _, _, .nil => .nil
  | _, _, .cons i u h => by
    rw [List.reverse_cons, List.reverse_cons]
    exact ints_snoc (ints_rev h)
theorem digs_range (n : Nat) : ∀ (k x : Nat), ∀ d ∈ digs n x k, 0 ≤ d ∧ d < 2 ^ n
  | k + 1, x, d, h => by
    rcases List.mem_cons.1 h with rfl | h
    · have h1 : x % 2 ^ n < 2 ^ n := Nat.mod_lt _ (Nat.pow_pos (by decide))
      refine ⟨Int.natCast_nonneg _, ?_⟩
      have e : ((2 : Int) ^ n) = ((2 ^ n : Nat) : Int) := by simp
      rw [e]
      exact Int.ofNat_lt.2 h1
    · exact digs_range n k _ d h
theorem log_of {b : Int} (hb : 0 < b) (h : Builtin.Int.intBits b ≤ 100) : b.natAbs.log2 < 9000 := by
  have h1 := intBits_le_iff.mp h
  exact Nat.lt_trans ((Nat.log2_lt (by omega)).mpr h1) (by decide)
theorem dp_bits2 {b r d : Int} {n : Nat} (h : 0 ≤ r ∧ r < b) (hbb : Builtin.Int.intBits b ≤ 100) (hn : 1 ≤ n ∧ n ≤ 100) (hd : 0 ≤ d ∧ d < 2 ^ n) : ((r * 2 ^ n + d).fdiv b).natAbs < 2 ^ 1000 := by
  have h1 : Builtin.Int.intBits r ≤ 100 := intBits_le_of_natAbs (by omega) hbb
  have h2 : Builtin.Int.intBits ((2 : Int) ^ n) ≤ 201 := Nat.le_trans (intBits_pow_le (m := 2) (intBits_le_iff.mpr (by decide)) n) (by omega)
  have h3 : Builtin.Int.intBits d ≤ 201 := intBits_le_of_natAbs (by omega) h2
  have h4 := intBits_add_le (intBits_mul_le h1 h2) h3
  exact intBits_le_iff.mp (intBits_fdiv_le (Nat.le_trans h4 (by decide)))
theorem longF_bits {b : Int} {n : Nat} (hb : 0 < b) (hbb : Builtin.Int.intBits b ≤ 100) (hn : 1 ≤ n ∧ n ≤ 100) : ∀ (ds : List Int) (st : Int × List Int), (0 ≤ st.1 ∧ st.1 < b) → (∀ d ∈ ds, 0 ≤ d ∧ d < 2 ^ n) → (∀ q ∈ st.2, q.natAbs < 2 ^ 1000) → ∀ q ∈ (longF n b st ds).2, q.natAbs < 2 ^ 1000
  | [], _, _, _, hq => hq
  | d :: ds, st, hr, hd, hq => longF_bits hb hbb hn ds _ (longS_range hb st d) (fun x hx => hd x (List.mem_cons_of_mem _ hx)) (fun q hq' => by
      rcases List.mem_append.1 (show q ∈ st.2 ++ [(st.1 * 2 ^ n + d).fdiv b] from hq') with h | h
      · exact hq q h
      · rw [List.mem_singleton.1 h]
        exact dp_bits2 hr hbb hn (hd d (List.mem_cons_self ..)))
theorem TabSt.mono {P : Addr} {ln col : Int} {qual : Str} {t : Obj} {r1 r2 : Led} (h : TabSt P ln col qual t r1) (hs : ∀ p ∈ r1, p ∈ r2) : TabSt P ln col qual t r2 := by
  rcases h with h | ⟨c', oc, vs, tk, h1, h2, h3, h4⟩
  · exact .inl h
  · exact .inr ⟨c', oc, vs, tk, h1, h2, hs _ h3, h4⟩
noncomputable def Divided (t10 t20 : Obj) (qv rv : Int) (rest : Led) (v : Value) (news' : Led) : Prop := ∃ (P c1 c2 : Nat) (o1 o2 t1 t2 : Obj) (tq tr : Tok) (k : Nat), v = .ref P ∧ news' = (P, { cls := .type "tuple", data := .seq #[.int qv tq, .int rv tr] k }) :: (108, t1) :: (115, t2) :: (c1, o1) :: (c2, o2) :: rest ∧
  TabI t1 [(c1, o1)] ∧ TabD t2 [(c2, o2)] ∧ 191 < c1 ∧ 191 < c2 ∧ (t1 = t10 ∨ ∀ q ∈ rest, @LT.lt Nat _ q.1 c1) ∧ (t2 = t20 ∨ ∀ q ∈ rest, @LT.lt Nat _ q.1 c2)
theorem fits_nat {x m : Nat} (hm : 1 ≤ m) : x < 2 ^ (m * ((Builtin.Int.intBits (x : Int) + m - 1) / m)) := by
  have h1 : (x : Int).natAbs < 2 ^ Builtin.Int.intBits (x : Int) := intBits_le_iff.mp (Nat.le_refl _)
  exact Nat.lt_of_lt_of_le (by simpa using h1) (Nat.pow_le_pow_right (by decide) (ceil_ge hm))
theorem mapP_of {r AD : Option Value} {Q : Addr} {n b : Value} {m0 : Str → Option Value} (h1 : m0 (Str.ofString "q_digit") = none) (h2 : m0 (Str.ofString "a_digit") = none) (h3 : m0 (Str.ofString "b") = some b) :
    (fun y => if y = Str.ofString "q_digits" then some (.ref Q) else if y = Str.ofString "r" then r else if y = Str.ofString "a_digits" then AD else if y = Str.ofString "n" then some n else m0 y) = mapP r none none Q n b (fun y => if y = Str.ofString "a_digits" then AD else m0 y) := by
  funext y
  unfold mapP
  by_cases e1 : y = Str.ofString "r"
  · subst e1
    rw [if_neg (by decide), if_pos rfl, if_pos rfl]
  · by_cases e2 : y = Str.ofString "q_digits"
    · subst e2
      rw [if_pos rfl, if_neg (by decide), if_neg (by decide), if_neg (by decide), if_pos rfl]
    · by_cases e3 : y = Str.ofString "q_digit"
      · subst e3
        rw [if_neg (by decide), if_neg (by decide), if_neg (by decide), if_neg (by decide), if_neg (by decide), if_pos rfl, h1]
      · by_cases e4 : y = Str.ofString "a_digit"
        · subst e4
          rw [if_neg (by decide), if_neg (by decide), if_neg (by decide), if_neg (by decide), if_neg (by decide), if_neg (by decide), if_pos rfl, h2]
        · by_cases e5 : y = Str.ofString "n"
          · subst e5
            rw [if_neg (by decide), if_neg (by decide), if_neg (by decide), if_pos rfl, if_neg (by decide), if_neg (by decide), if_neg (by decide), if_neg (by decide), if_pos rfl]
          · by_cases e6 : y = Str.ofString "b"
            · subst e6
              rw [if_neg (by decide), if_neg (by decide), if_neg (by decide), if_neg (by decide), if_neg (by decide), if_neg (by decide), if_neg (by decide), if_neg (by decide), if_neg (by decide), if_pos rfl, h3]
            · simp only [if_neg e1, if_neg e2, if_neg e3, if_neg e4, if_neg e5, if_neg e6]
set_option maxRecDepth 100000 in
set_option maxHeartbeats 1000000 in
theorem c_dp (w : World) (t1 t2 : Obj) (rest : Led) (xn : Nat) (a b : Int) (ta tb : Tok) (hb : 0 < b) (ha : a = (xn : Int)) (hbb : Builtin.Int.intBits b ≤ 100) (hab : Builtin.Int.intBits (xn : Int) ≤ 1000) (hk : (Builtin.Int.intBits (xn : Int) + Builtin.Int.intBits b - 1) / Builtin.Int.intBits b ≤ 32)
   (h1 : TabI t1 rest) (h2 : TabD t2 rest) (hr1 : Flt.Hid (∀ q ∈ rest, q.1 ≠ 108)) (hr2 : Flt.Hid (∀ q ∈ rest, q.1 ≠ 115)) :
   CtrN w 9 80 127 ((108, t1) :: (115, t2) :: rest) [.int a ta, .int b tb] (Divided t1 t2 ((xn : Int).fdiv b) ((xn : Int).fmod b) rest) := by
  unfold CtrN; k_fill; intros; rename_i hret
  subst ha
  refine wpAny_call ?_
  k_dflt cell_enter
  k_steps
  have hbp := bits_pos_int hb
  refine' CtrN.use (c_i2d w t1 ((115, t2) :: rest) xn (xn : Int) _ ta _ ⟨?n1, ?n2⟩ rfl hab ?n3 (TabSt.mono h1 fun p hp => .tail _ hp) ⟨?hr⟩) ?ka1 ?kb1 ?kc1 ?kd1 ?ke1 ?kK1 ?kf1 ?kg1 ?_
  case n1 => omega
  case n2 => omega
  case n3 => rw [Int.toNat_natCast]; exact hk
  case hr =>
    intro q hq
    rcases List.mem_cons.1 hq with rfl | h
    · exact Nat.ne_of_gt (show 108 < 115 by decide)
    · exact hr1.out q h
  case ka1 => k_asm
  case kb1 => k_asm
  case kc1 => k_asm
  case kd1 => k_asm
  case ke1 => k_asm
  case kK1 => exact rfl
  case kf1 => ktr_room
  case kg1 => ktr_units
  intro v9 news9 h9 tk9 hR9 F9 N9
  obtain ⟨D, c1, oc1, t1', vsD, kD, e9, h1', hc1, hf1, hD, e8, iD⟩ := hR9
  subst e9 e8
  rw [Int.toNat_natCast] at iD
  dsimp only
  k_steps
  rename Fr _ _ _ _ => F9
  rename News _ _ _ _ => N9
  rename (_ ∧ _ ∧ _ ∧ _ ∧ _ ∧ AllLt _ _) => l9
  rename (_ ∧ _ ∧ _ ∧ _ ∧ AllLt _ _) => l8
  have F8 := fr_map F9 (mapP_of rfl rfl rfl)
  rename Below _ _ _ _ => B9
  rename Top _ _ _ _ _ _ => T9
  rename Frag.In _ _ => X9
  have m8 := allLt_mem l8.2.2.2.2
  have m9 := allLt_mem l9.2.2.2.2.2
  have hkd := (digs_length (Builtin.Int.intBits b) ((Builtin.Int.intBits (xn : Int) + Builtin.Int.intBits b - 1) / Builtin.Int.intBits b) xn)
  refine' iter_revUnr (ax := D) (vs := vsD) rfl F8 N9 (offI_of ?ho) (.tail _ (.head _)) rfl rfl ?_
  case ho =>
    intro p hp
    simp only [List.mem_cons] at hp
    rcases hp with rfl | rfl | rfl | rfl | rfl | h
    · exact Nat.ne_of_lt l9.1
    · exact Nat.ne_of_lt l9.2.1
    · exact Nat.ne_of_lt l9.2.2.1
    · exact Nat.ne_of_lt l9.2.2.2.1
    · exact Nat.ne_of_lt l9.2.2.2.2.1
    · exact Nat.ne_of_lt (m9 p h)
  refine dp_items w X9 T9 B9 ?hdp ?hun (n := (Builtin.Int.intBits b : Nat)) (b := b) ⟨by omega, by omega⟩ hb (log_of hb hbb) hbb (.head _) ?hq ?hI (Nat.ne_of_lt l9.1) _ _ [] [] 0 0 _ none none (ints_rev iD) ?hd .nil ?hl ⟨Int.le_refl _, hb⟩ ?_
  case hdp => ktr_room
  case hun => ktr_units
  case hq =>
    intro p hp
    simp only [List.mem_cons] at hp
    rcases hp with rfl | rfl | rfl | rfl | h
    · exact Nat.ne_of_lt l8.1
    · exact Nat.ne_of_lt l8.2.1
    · exact Nat.ne_of_lt l8.2.2.1
    · exact Nat.ne_of_lt l8.2.2.2.1
    · exact Nat.ne_of_lt (m8 p h)
  case hI =>
    intro p hp
    simp only [List.mem_cons] at hp
    rcases hp with rfl | rfl | rfl | rfl | h
    · exact Nat.ne_of_lt l9.2.1
    · exact Nat.ne_of_lt l9.2.2.1
    · exact Nat.ne_of_lt l9.2.2.2.1
    · exact Nat.ne_of_lt l9.2.2.2.2.1
    · exact Nat.ne_of_lt (m9 p h)
  case hd =>
    intro d hd
    rw [Int.toNat_natCast]
    exact digs_range _ _ _ d (List.mem_reverse.1 hd)
  case hl =>
    rw [List.length_reverse, hkd, List.length_nil]
    omega
  intro h7 tk7 k7 vs7 t7 ad7 qd7 j7 F7 N7
  rw [Int.toNat_natCast] at j7 F7
  clear F8 F9 N9
  dsimp only
  generalize hlf : longF _ b (0, []) _ = st at j7 F7
  k_steps
  dsimp only
  k_here
  have hl7 : st.2.length ≤ 32 := by rw [← hlf, longF_length, List.length_reverse, hkd, List.length_nil]; omega
  refine' kl_reverse (its := vs7.toArray) (l := vs7.reverse) ?F1 ?N1 rfl (Upd.head ?u1) ?z1 ?_
  case F1 => k_asm
  case N1 => k_asm
  case u1 =>
    intro p hp
    simp only [List.mem_cons] at hp
    rcases hp with rfl | rfl | rfl | rfl | h
    · exact Nat.ne_of_lt l8.1
    · exact Nat.ne_of_lt l8.2.1
    · exact Nat.ne_of_lt l8.2.2.1
    · exact Nat.ne_of_lt l8.2.2.2.1
    · exact Nat.ne_of_lt (m8 p h)
  case z1 => rw [j7.length, sizeLine_eq]; omega
  intro h6 F6 N6
  clear F7 N7
  k_steps
  have N5 := News.sub N6 (b := (115, t2) :: (_, listOf vs7.reverse.toArray k7) :: (D, listOf vsD.toArray kD) :: (108, t1') :: (c1, oc1) :: rest) (by
    intro q hq
    simp only [List.mem_cons] at hq ⊢
    rcases hq with h | h | h | h | h | h
    · exact .inr (.inr (.inr (.inr (.inl h))))
    · exact .inl h
    · exact .inr (.inl h)
    · exact .inr (.inr (.inl h))
    · exact .inr (.inr (.inr (.inl h)))
    · exact .inr (.inr (.inr (.inr (.inr h)))))
  clear N6
  refine' CtrN.use (c_d2i w t2 _ _ vs7.reverse st.2.reverse k7 (Builtin.Int.intBits b : Nat) _ ⟨by omega, by omega⟩ (ints_rev j7) (by rw [List.length_reverse]; exact hl7) ⟨?hB⟩ ?hT ⟨?hR⟩ (.head _)) ?ka2 ?kb2 ?kc2 ?kd2 ?ke2 ?kK2 ?kf2 ?kg2 ?_
  case kd2 => exact N5
  case ka2 => k_asm
  case kb2 => k_asm
  case kc2 => k_asm
  case ke2 => k_asm
  case kK2 => exact rfl
  case kf2 => ktr_room
  case kg2 => ktr_units
  case hB =>
    intro x y _ _ _
    refine seg_bits ⟨by omega, by omega⟩ (by rw [List.length_reverse]; exact hl7) (m := 1000) (Nat.le_refl _) (fun d hd => ?_) x y
    refine longF_bits hb hbb ⟨hbp, hbb⟩ (digs (Builtin.Int.intBits b) xn ((Builtin.Int.intBits (xn : Int) + Builtin.Int.intBits b - 1) / Builtin.Int.intBits b)).reverse (0, []) ⟨Int.le_refl _, hb⟩ (fun d hd => digs_range _ _ _ d (List.mem_reverse.1 hd)) (fun q hq => by cases hq) d ?_
    rw [hlf]
    exact List.mem_reverse.1 hd
  case hT => exact TabSt.mono h2 fun p hp => .tail _ (.tail _ (.tail _ (.tail _ hp)))
  case hR =>
    intro p hp
    simp only [List.mem_cons] at hp
    rcases hp with rfl | rfl | rfl | rfl | h
    · exact Nat.ne_of_gt l8.2.2.2.1
    · exact Nat.ne_of_gt (Nat.lt_trans (by decide) hD)
    · exact Nat.ne_of_lt (show 108 < 115 by decide)
    · exact Nat.ne_of_gt (Nat.lt_trans (by decide) hc1)
    · exact hr2.out p h
  intro v3 news3 h3 tk3 hR3 F3 N3
  obtain ⟨c2, oc2, t2', tq, e3, h2', hc2, hf2, e4⟩ := hR3
  subst e3 e4
  rw [Int.toNat_natCast] at *
  dsimp only
  k_steps
  rename News _ _ _ _ => K9
  have law := longF_law (n := Builtin.Int.intBits b) (k := (Builtin.Int.intBits (xn : Int) + Builtin.Int.intBits b - 1) / Builtin.Int.intBits b) (x := xn) hb (fits_nat hbp)
  rw [hlf] at law
  rw [← law.1, ← law.2] at hret
  refine hret _ _ _ _ ⟨_, c1, c2, oc1, oc2, t1', t2', tq, t7, 0, rfl, rfl, h1', h2', hc1, hc2, hf1.imp id fun h q hq => h q (.tail _ hq), hf2.imp id fun h q hq => h q (.tail _ (.tail _ (.tail _ (.tail _ hq))))⟩ (by k_asm) (News.sub K9 ?_)
  · intro q hq
    simp only [List.mem_cons] at hq ⊢
    rcases hq with h | h | h | h | h | h <;> simp only [h, true_or, or_true]
end
section
open PySem PySem.W PyProof.Rows PySem.Spec PySem.Calls
set_option Elab.async false
theorem fresh_MN9b : True := by
  w_top off
  trivial
theorem subI {g h : Heap} {L : Addr} {a b c d e f : Addr × Obj} {r : Led} (N : News g L h (a :: b :: c :: d :: e :: f :: r)) : News g L h (a :: c :: d :: e :: f :: r) := News.sub N fun q hq => by
  simp only [List.mem_cons] at hq ⊢
  rcases hq with h | h | h | h | h | h <;> simp only [h, true_or, or_true]
theorem neg_div {a b : Int} {x : Nat} (hb : 0 < b) (ha : -a - 1 = (x : Int)) : a.fdiv b = Builtin.bitNot ((x : Int).fdiv b) ∧ a.fmod b = b + Builtin.bitNot ((x : Int).fmod b) := by
  have e := Int.mul_fdiv_add_fmod (x : Int) b
  have r1 := Int.fmod_nonneg_of_pos (x : Int) hb
  have r2 := Int.fmod_lt_of_pos (x : Int) hb
  generalize (x : Int).fdiv b = q at e ⊢
  generalize (x : Int).fmod b = r at e r1 r2 ⊢
  unfold Builtin.bitNot
  have h : a = (b - 1 - r) + b * (-q - 1) := by
    rw [Int.mul_sub, Int.mul_neg]
    omega
  rw [Int.fdiv_eq_ediv_of_nonneg _ (Int.le_of_lt hb), Int.fmod_eq_emod_of_nonneg _ (Int.le_of_lt hb), h]
  constructor
  · rw [Int.add_mul_ediv_left _ _ (Int.ne_of_gt hb), Int.ediv_eq_zero_of_lt (by omega) (by omega)]
    omega
  · rw [Int.add_mul_emod_self_left, Int.emod_eq_of_lt (by omega) (by omega)]
    omega
set_option maxRecDepth 100000 in
set_option maxHeartbeats 1000000 in
theorem c_idm_pos (w : World) (t1 t2 : Obj) (rest : Led) (xn : Nat) (a b : Int) (ta tb : Tok) (hb : 0 < b) (ha : a = (xn : Int)) (hbb : Builtin.Int.intBits b ≤ 100) (hab : Builtin.Int.intBits (xn : Int) ≤ 1000) (hk : (Builtin.Int.intBits (xn : Int) + Builtin.Int.intBits b - 1) / Builtin.Int.intBits b ≤ 32)
   (h1 : TabI t1 rest) (h2 : TabD t2 rest) (hr1 : Flt.Hid (∀ q ∈ rest, q.1 ≠ 108)) (hr2 : Flt.Hid (∀ q ∈ rest, q.1 ≠ 115)) :
   CtrN w 10 88 134 ((108, t1) :: (115, t2) :: rest) [.int a ta, .int b tb] (Divided t1 t2 ((xn : Int).fdiv b) ((xn : Int).fmod b) rest) := by
  unfold CtrN; k_fill; intros; rename_i hret
  subst ha
  have hx0 : (0 : Int) ≤ xn := Int.natCast_nonneg _
  refine wpAny_call ?_
  k_dflt cell_enter
  k_steps
  · rename (b = 0) => hz
    exact absurd hb (by rw [hz]; decide)
  refine' CtrN.use (c_dp w t1 t2 rest xn (xn : Int) b ta tb hb rfl hbb hab hk h1 h2 hr1 hr2) ?ka1 ?kb1 ?kc1 ?kd1 ?ke1 ?kK1 ?kf1 ?kg1 ?_
  case ka1 => k_asm
  case kb1 => k_asm
  case kc1 => k_asm
  case kd1 => k_asm
  case ke1 => k_asm
  case kK1 => exact rfl
  case kf1 => ktr_room
  case kg1 => ktr_units
  intro v9 news9 h9 tk9 hR9 F9 N9
  k_steps
  rename News _ _ _ _ => K9
  exact hret _ _ _ _ hR9 (by k_asm) K9
set_option maxRecDepth 100000 in
set_option maxHeartbeats 1000000 in
theorem c_idm_neg (w : World) (t1 t2 : Obj) (rest : Led) (xn : Nat) (a b : Int) (ta tb : Tok) (hb : 0 < b) (ha : -a - 1 = (xn : Int)) (hbb : Builtin.Int.intBits b ≤ 100) (hab : Builtin.Int.intBits (xn : Int) ≤ 1000) (hk : (Builtin.Int.intBits (xn : Int) + Builtin.Int.intBits b - 1) / Builtin.Int.intBits b ≤ 32)
   (h1 : TabI t1 rest) (h2 : TabD t2 rest) (hr1 : Flt.Hid (∀ q ∈ rest, q.1 ≠ 108)) (hr2 : Flt.Hid (∀ q ∈ rest, q.1 ≠ 115)) :
   CtrN w 11 96 134 ((108, t1) :: (115, t2) :: rest) [.int a ta, .int b tb] (Divided t1 t2 (a.fdiv b) (a.fmod b) rest) := by
  unfold CtrN; k_fill; intros; rename_i hret
  have hx0 : a < 0 := by omega
  refine wpAny_call ?_
  k_dflt cell_enter
  k_steps
  · rename (b = 0) => hz
    exact absurd hb (by rw [hz]; decide)
  refine' CtrN.use (c_idm_pos w t1 t2 rest xn (Builtin.bitNot a) b _ tb hb ?bn hbb hab hk h1 h2 hr1 hr2) ?ka1 ?kb1 ?kc1 ?kd1 ?ke1 ?kK1 ?kf1 ?kg1 ?_
  case bn => unfold Builtin.bitNot; omega
  case ka1 => k_asm
  case kb1 => k_asm
  case kc1 => k_asm
  case kd1 => k_asm
  case ke1 => k_asm
  case kK1 => exact rfl
  case kf1 => ktr_room
  case kg1 => ktr_units
  intro v9 news9 h9 tk9 hR9 F9 N9
  obtain ⟨P9, c1, c2, o1, o2, t1', t2', tq, tr, k9, e9, e8, g1, g2, g3, g4, g5, g6⟩ := hR9
  subst e9 e8
  dsimp only
  k_steps
  rename News _ _ _ _ => K9
  obtain ⟨w1, w2⟩ := neg_div hb ha
  rw [w1, w2] at hret
  exact hret _ _ _ _ ⟨_, c1, c2, o1, o2, t1', t2', _, _, 0, rfl, rfl, g1, g2, g3, g4, g5, g6⟩ (by k_asm) (subI K9)
end
section
open PySem PySem.W PyProof.Rows PySem.Spec PySem.Calls
set_option Elab.async false
theorem CtrN.mono {w : World} {D D' U U' : Nat} {f : Addr} {news : Led} {vs : List Value} {R R' : Value → Led → Prop} (C : CtrN w D U f news vs R) (hD : D ≤ D') (hU : U ≤ U') (hR : ∀ v n, R v n → R' v n) : CtrN w D' U' f news vs R' :=
  fun p loose mean mg mb dp un gd cn cs a ccd cl outer A₀ base h₀ L m s Q E b1 b2 b3 b4 b5 b6 b7 b8 ret => C p loose mean mg mb dp un gd cn cs a ccd cl outer A₀ base h₀ L m s Q E b1 b2 b3 b4 b5 b6 (by omega) (by omega) fun v n h tk r => ret v n h tk (hR v n r)
noncomputable def absN (a : Int) : Nat := if 0 ≤ a then a.toNat else (-a - 1).toNat
theorem c_idm (w : World) (t1 t2 : Obj) (rest : Led) (a b : Int) (ta tb : Tok) (hb : 0 < b) (hbb : Builtin.Int.intBits b ≤ 100) (hab : Builtin.Int.intBits (absN a : Int) ≤ 1000) (hk : (Builtin.Int.intBits (absN a : Int) + Builtin.Int.intBits b - 1) / Builtin.Int.intBits b ≤ 32)
   (h1 : TabI t1 rest) (h2 : TabD t2 rest) (hr1 : Flt.Hid (∀ q ∈ rest, q.1 ≠ 108)) (hr2 : Flt.Hid (∀ q ∈ rest, q.1 ≠ 115)) :
   CtrN w 11 96 134 ((108, t1) :: (115, t2) :: rest) [.int a ta, .int b tb] (Divided t1 t2 (a.fdiv b) (a.fmod b) rest) := by
  by_cases h : 0 ≤ a
  · have e : a = (absN a : Int) := by unfold absN; rw [if_pos h]; omega
    refine CtrN.mono (c_idm_pos w t1 t2 rest (absN a) a b ta tb hb e hbb hab hk h1 h2 hr1 hr2) (by omega) (by omega) ?_
    rw [← e]
    exact fun _ _ r => r
  · have e : -a - 1 = (absN a : Int) := by unfold absN; rw [if_neg h]; omega
    exact c_idm_neg w t1 t2 rest (absN a) a b ta tb hb e hbb hab hk h1 h2 hr1 hr2
end
section
open PySem PySem.W PyProof.Rows PySem.Spec PySem.Calls
set_option Elab.async false
theorem fresh_MN10 : True := by
  w_top off
  trivial
structure IdmOk (a b : Int) : Prop where
  pos : 0 < b
  bb : Builtin.Int.intBits b ≤ 100
  ab : Builtin.Int.intBits (absN a : Int) ≤ 1000
  k : (Builtin.Int.intBits (absN a : Int) + Builtin.Int.intBits b - 1) / Builtin.Int.intBits b ≤ 32
structure DivOk (d base product factor : Int) : Prop where
  one : IdmOk d ((base - 1) ^ 3)
  m : d.fmod ((base - 1) ^ 3) = 0
  two : IdmOk (d.fdiv ((base - 1) ^ 3)) (base - 1)
  e : (d.fdiv ((base - 1) ^ 3)).fmod (base - 1) = (factor * product).fmod (base - 1)
theorem idm_one (w : World) {d base product factor : Int} (H : DivOk d base product factor) (t1 t2 : Obj) (rest : Led) (ta tb : Tok) (h1 : TabI t1 rest) (h2 : TabD t2 rest) (hr1 : Flt.Hid (∀ q ∈ rest, q.1 ≠ 108)) (hr2 : Flt.Hid (∀ q ∈ rest, q.1 ≠ 115)) :
   CtrN w 11 96 134 ((108, t1) :: (115, t2) :: rest) [.int d ta, .int ((base - 1) ^ 3) tb] (Divided t1 t2 (d.fdiv ((base - 1) ^ 3)) 0 rest) := by
  have h := c_idm w t1 t2 rest d ((base - 1) ^ 3) ta tb H.one.pos H.one.bb H.one.ab H.one.k h1 h2 hr1 hr2
  rw [H.m] at h
  exact h
theorem idm_two (w : World) {d base product factor : Int} (H : DivOk d base product factor) (t1 t2 : Obj) (rest : Led) (ta tb : Tok) (h1 : TabI t1 rest) (h2 : TabD t2 rest) (hr1 : Flt.Hid (∀ q ∈ rest, q.1 ≠ 108)) (hr2 : Flt.Hid (∀ q ∈ rest, q.1 ≠ 115)) :
   CtrN w 11 96 134 ((108, t1) :: (115, t2) :: rest) [.int (d.fdiv ((base - 1) ^ 3)) ta, .int (base - 1) tb] (Divided t1 t2 ((d.fdiv ((base - 1) ^ 3)).fdiv (base - 1)) ((factor * product).fmod (base - 1)) rest) := by
  have h := c_idm w t1 t2 rest (d.fdiv ((base - 1) ^ 3)) (base - 1) ta tb H.two.pos H.two.bb H.two.ab H.two.k h1 h2 hr1 hr2
  rw [H.e] at h
  exact h
theorem pickTab {P : Addr} {ln col : Int} {qual : Str} {t t' : Obj} {S rest : Led} {x : Addr × Obj} (hS : TabSt P ln col qual t S) (h' : TabSt P ln col qual t' [x]) (hf : t' = t ∨ ∀ q ∈ rest, @LT.lt Nat _ q.1 x.1) : ∃ S', TabSt P ln col qual t' S' ∧ ∀ q ∈ S', q ∈ S ∨ (q = x ∧ ∀ p ∈ rest, @LT.lt Nat _ p.1 q.1) := by
  rcases hf with h | h
  · exact ⟨S, h ▸ hS, fun q hq => .inl hq⟩
  · refine ⟨[x], h', fun q hq => .inr ?_⟩
    rw [List.mem_singleton.1 hq]
    exact ⟨rfl, h⟩
noncomputable abbrev mapV (lw : Addr) (base product : Value) (mO : Str → Option Value) : Str → Option Value := fun y => if y = Str.ofString "wholes" then some (.ref lw) else if y = Str.ofString "base" then some base else if y = Str.ofString "product" then some product else mO y
noncomputable abbrev dv_for : { x : Expr × Expr × List Stmt × Pos // d_law_divisions_hold.1.2.1[0]? = some (Stmt.For x.1 x.2.1 x.2.2.1 [] x.2.2.2) } := ⟨(_, _, _, _), rfl⟩
noncomputable abbrev envV (L' : Addr) : Env := envOf (Str.ofString "_law_divisions_hold") d_law_divisions_hold.1.2.2 L' 186 (Value.ref 185)
theorem ne3r {P T0 lw I : Nat} {a b c : Obj} {rest : Led} (h1 : T0 ≠ P) (h2 : lw ≠ P) (h3 : I ≠ P) (h : ∀ q ∈ rest, q.1 ≠ P) : ∀ q ∈ (T0, a) :: (lw, b) :: (I, c) :: rest, q.1 ≠ P := fun q hq => by
  simp only [List.mem_cons] at hq
  rcases hq with rfl | rfl | rfl | hq
  · exact h1
  · exact h2
  · exact h3
  · exact h q hq
theorem ne2r {P c1 c2 : Nat} {a b : Obj} {rest : Led} (h1 : c1 ≠ P) (h2 : c2 ≠ P) (h : ∀ q ∈ rest, q.1 ≠ P) : ∀ q ∈ (c1, a) :: (c2, b) :: rest, q.1 ≠ P := fun q hq => by
  simp only [List.mem_cons] at hq
  rcases hq with rfl | rfl | hq
  · exact h1
  · exact h2
  · exact h q hq
noncomputable def Gd (I : Nat) (M : Led) (q : Addr × Obj) : Prop := q ∈ M ∧ q.1 ≠ 108 ∧ q.1 ≠ 115 ∧ q.1 ≠ I
theorem good_step {I : Nat} {z : Obj} {M M0 S S' R : Led} {x : Addr × Obj} (hs : ∀ q ∈ S', q ∈ S ∨ (q = x ∧ ∀ p ∈ R, @LT.lt Nat _ p.1 q.1)) (hI : (I, z) ∈ R) (hx : @LT.lt Nat _ 191 x.1) (hM : ∀ q ∈ M0, q ∈ M) (hxM : x ∈ M) (hS : ∀ q ∈ S, Gd I M0 q) : ∀ q ∈ S', Gd I M q := fun q hq => by
  rcases hs q hq with h | ⟨rfl, h⟩
  · exact ⟨hM q (hS q h).1, (hS q h).2⟩
  · exact ⟨hxM, Nat.ne_of_gt (Nat.lt_trans (by decide) hx), Nat.ne_of_gt (Nat.lt_trans (by decide) hx), Nat.ne_of_gt (h _ hI)⟩
theorem front2 {g h : Heap} {L : Addr} {a b c d e : Addr × Obj} {r : Led} (N : News g L h (a :: b :: c :: d :: e :: r)) : News g L h (c :: d :: a :: b :: e :: r) := News.sub N fun q hq => by
  simp only [List.mem_cons] at hq ⊢
  rcases hq with h | h | h | h | h | h <;> simp only [h, true_or, or_true]
theorem mapV_end {lw : Addr} {bs pr : Value} {mO : Str → Option Value} {a b c d e : Value} : (fun y => if y = Str.ofString "rest" then some a else if y = Str.ofString "quotient" then some b else if y = Str.ofString "factor" then some c else if y = Str.ofString "second" then some d else if y = Str.ofString "first" then some e else mapV lw bs pr mO y) = mapV lw bs pr (fun y => if y = Str.ofString "rest" then some a else if y = Str.ofString "quotient" then some b else if y = Str.ofString "factor" then some c else if y = Str.ofString "second" then some d else if y = Str.ofString "first" then some e else mO y) := by
  funext y
  unfold mapV
  by_cases h1 : y = Str.ofString "wholes"
  · subst h1; rfl
  · by_cases h2 : y = Str.ofString "base"
    · subst h2; rfl
    · by_cases h3 : y = Str.ofString "product"
      · subst h3; rfl
      · simp only [if_neg h1, if_neg h2, if_neg h3]
set_option maxRecDepth 100000 in
set_option maxHeartbeats 1000000 in
theorem divs_turn (w : World) {p : Program} {loose : List Str} {mean : ExcName → Option Value} {mg mb : Str → Option Value} {dp un : Nat} {gd : Option (List Code)} {cn : Str} {cs : Scope} {L a : Addr} {ccd : Value} {cl : List (Str × Addr)} {outer : List Env} {base g : Heap} {L' : Nat} {s : Shared} {E : Value → Shared → Prop} {P : Flow → Shared → Prop}
   (X : (heapK w.params).In g) (T : Top p loose mean mg mb g) (B : Below (ktrTop dp un gd cn cs L a ccd cl outer) base (envX cn cs L a ccd cl :: outer) g) (hdp : dp + 12 < recursionLimit) (hun : un + 104 < cLine)
   {t1 t2 : Obj} {rest : Led} {lw k1 T0 k2 I : Nat} {z : Obj} {w0 w1 w2 bs product fac i j : Int} {u0 u1 u2 tb tp ti tj tf : Tok} (hb : 256 ≤ bs ∧ bs ≤ 65536) (hfac : -6 ≤ fac ∧ fac ≤ 6) (hpr : 0 ≤ product ∧ product ≤ 27) (hi : 0 ≤ i ∧ i < 3) (hj : 0 ≤ j ∧ j < 3)
   (H : Flt.Hid (DivOk ([w0, w1, w2].getD i.toNat 0 - [w0, w1, w2].getD j.toNat 0) bs product fac)) {mO : Str → Option Value}
   (h1 : TabI t1 rest) (h2 : TabD t2 rest) (hr1 : Flt.Hid (∀ q ∈ rest, q.1 ≠ 108)) (hr2 : Flt.Hid (∀ q ∈ rest, q.1 ≠ 115)) (hI : Flt.Hid (∀ q ∈ rest, q.1 ≠ I)) (hI0 : lw ≠ 108 ∧ lw ≠ 115 ∧ T0 ≠ 108 ∧ T0 ≠ 115 ∧ I ≠ 108 ∧ I ≠ 115)
   (F : Fr g L' s.heap (mapV lw (.int bs tb) (.int product tp) mO))
   (N : News g L' s.heap ((T0, { cls := .type "tuple", data := .seq #[.int i ti, .int j tj, .int fac tf] k2 }) :: (lw, listOf #[.int w0 u0, .int w1 u1, .int w2 u2] k1) :: (108, t1) :: (115, t2) :: (I, z) :: rest))
   (post : ∀ (h' : Heap) (tk' : Nat) (t1' t2' : Obj) (rest' : Led) (mO' : Str → Option Value), TabI t1' rest' → TabD t2' rest' → (∀ q ∈ rest', q.1 ≠ 108) → (∀ q ∈ rest', q.1 ≠ 115) → (∀ q ∈ rest', q.1 ≠ I) → Fr g L' h' (mapV lw (.int bs tb) (.int product tp) mO') →
     News g L' h' ((lw, listOf #[.int w0 u0, .int w1 u1, .int w2 u2] k1) :: (108, t1') :: (115, t2') :: (I, z) :: (rest' ++ rest)) → P .next { s with heap := h', toks := tk' }) :
   wpAny (model Challenge.rw_qu0064_01.row.prog w) ((ktrTop dp un gd cn cs L a ccd cl outer).deeper (envV L')) (assign dv_for.1.1 (envV L') (.ref T0)) (fun _ s₂ => wpAny (model Challenge.rw_qu0064_01.row.prog w) ((ktrTop dp un gd cn cs L a ccd cl outer).deeper (envV L')) (execs dv_for.1.2.2.1 (envV L')) P E s₂) E s := by
  revert X; k_fill; intro X
  have hne := hi
  k_steps
  clear hne
  generalize [w0, w1, w2].getD i.toNat 0 - [w0, w1, w2].getD j.toNat 0 = d at H ⊢
  rename News _ _ _ _ => N9
  have N8 := front2 N9
  clear N9
  refine' CtrN.use (idm_one w H.out t1 t2 _ _ _ (TabSt.mono h1 fun p hp => .tail _ (.tail _ (.tail _ hp))) (TabSt.mono h2 fun p hp => .tail _ (.tail _ (.tail _ hp))) ⟨ne3r hI0.2.2.1 hI0.1 hI0.2.2.2.2.1 hr1.out⟩ ⟨ne3r hI0.2.2.2.1 hI0.2.1 hI0.2.2.2.2.2 hr2.out⟩) ?ka1 ?kb1 ?kc1 ?kd1 ?ke1 ?kK1 ?kf1 ?kg1 ?_
  case kd1 => exact N8
  case ka1 => k_asm
  case kb1 => k_asm
  case kc1 => k_asm
  case ke1 => k_asm
  case kK1 => exact rfl
  case kf1 => ktr_room
  case kg1 => ktr_units
  intro v9 news9 h9 tk9 hR9 F9 N9
  obtain ⟨P9, c1, c2, o1, o2, t1', t2', tq, tr, k9, e9, e8, g1, g2, g3, g4, g5, g6⟩ := hR9
  subst e9 e8
  obtain ⟨S1, s1, s2⟩ := pickTab h1 g1 g5
  obtain ⟨S2, s3, s4⟩ := pickTab h2 g2 g6
  clear g5 g6 N8
  dsimp only
  k_steps
  rename News _ _ _ _ => N9
  have N8 := News.tl N9
  clear N9
  have hI1 : ((I, z) : Addr × Obj) ∈ (T0, ({ cls := .type "tuple", data := .seq #[.int i ti, .int j tj, .int fac tf] k2 } : Obj)) :: (lw, listOf #[.int w0 u0, .int w1 u1, .int w2 u2] k1) :: (I, z) :: rest := .tail _ (.tail _ (.head _))
  have G0 : ∀ q ∈ rest, Gd I rest q := fun q hq => ⟨hq, hr1.out q hq, hr2.out q hq, hI.out q hq⟩
  have G1 := good_step (M := (c1, o1) :: rest) s2 hI1 g3 (fun q hq => .tail _ hq) (.head _) G0
  have G2 := good_step (M := (c2, o2) :: rest) s4 hI1 g4 (fun q hq => .tail _ hq) (.head _) G0
  refine' CtrN.use (idm_two w H.out t1' t2' _ _ _ (TabSt.mono g1 fun p hp => List.mem_cons.2 (.inl (List.mem_singleton.1 hp))) (TabSt.mono g2 fun p hp => .tail _ (List.mem_cons.2 (.inl (List.mem_singleton.1 hp)))) ⟨ne2r ?q1 ?q2 (ne3r hI0.2.2.1 hI0.1 hI0.2.2.2.2.1 hr1.out)⟩ ⟨ne2r ?q3 ?q4 (ne3r hI0.2.2.2.1 hI0.2.1 hI0.2.2.2.2.2 hr2.out)⟩) ?ka2 ?kb2 ?kc2 ?kd2 ?ke2 ?kK2 ?kf2 ?kg2 ?_
  case kd2 => exact N8
  case q1 => exact Nat.ne_of_gt (Nat.lt_trans (by decide) g3)
  case q2 => exact Nat.ne_of_gt (Nat.lt_trans (by decide) g4)
  case q3 => exact Nat.ne_of_gt (Nat.lt_trans (by decide) g3)
  case q4 => exact Nat.ne_of_gt (Nat.lt_trans (by decide) g4)
  case ka2 => k_asm
  case kb2 => k_asm
  case kc2 => k_asm
  case ke2 => k_asm
  case kK2 => exact rfl
  case kf2 => ktr_room
  case kg2 => ktr_units
  intro v9 news9 h9 tk9 hR9 F9 N9
  obtain ⟨P7, c3, c4, o3, o4, t1x, t2x, tq7, tr7, k7, e9, e8, f1, f2, f3, f4, f5, f6⟩ := hR9
  subst e9 e8
  obtain ⟨S3, s5, s6⟩ := pickTab s1 f1 f5
  obtain ⟨S4, s7, s8⟩ := pickTab s3 f2 f6
  clear f5 f6 N8
  dsimp only
  k_steps
  · rename ((fac * product).fmod (bs - 1) ≠ (fac * product).fmod (bs - 1)) => hx
    exact absurd rfl hx
  dsimp only
  have hI2 : ((I, z) : Addr × Obj) ∈ (c1, o1) :: (c2, o2) :: (T0, ({ cls := .type "tuple", data := .seq #[.int i ti, .int j tj, .int fac tf] k2 } : Obj)) :: (lw, listOf #[.int w0 u0, .int w1 u1, .int w2 u2] k1) :: (I, z) :: rest := .tail _ (.tail _ hI1)
  have G3 := good_step (M := (c3, o3) :: (c1, o1) :: rest) s6 hI2 f3 (fun q hq => .tail _ hq) (.head _) G1
  have G4 := good_step (M := (c4, o4) :: (c2, o2) :: rest) s8 hI2 f4 (fun q hq => .tail _ hq) (.head _) G2
  rename Fr _ _ _ _ => K9
  refine post _ _ t1x t2x (S3 ++ S4) _ (TabSt.mono s5 fun q hq => List.mem_append_left _ hq) (TabSt.mono s7 fun q hq => List.mem_append_right _ hq) ?_ ?_ ?_ (fr_map K9 mapV_end) (News.sub N9 ?_)
  · intro q hq
    rcases List.mem_append.1 hq with h | h
    · exact (G3 q h).2.1
    · exact (G4 q h).2.1
  · intro q hq
    rcases List.mem_append.1 hq with h | h
    · exact (G3 q h).2.2.1
    · exact (G4 q h).2.2.1
  · intro q hq
    rcases List.mem_append.1 hq with h | h
    · exact (G3 q h).2.2.2
    · exact (G4 q h).2.2.2
  · intro q hq
    simp only [List.mem_cons, List.mem_append] at hq ⊢
    have j3 : q ∈ S3 → q = (c3, o3) ∨ q = (c1, o1) ∨ q ∈ rest := fun h => by simpa only [List.mem_cons] using (G3 q h).1
    have j4 : q ∈ S4 → q = (c4, o4) ∨ q = (c2, o2) ∨ q ∈ rest := fun h => by simpa only [List.mem_cons] using (G4 q h).1
    rcases hq with h | h | h | h | (h | h) | h
    · simp only [h, true_or, or_true]
    · simp only [h, true_or, or_true]
    · simp only [h, true_or, or_true]
    · simp only [h, true_or, or_true]
    · rcases j3 h with h | h | h <;> simp only [h, true_or, or_true]
    · rcases j4 h with h | h | h <;> simp only [h, true_or, or_true]
    · simp only [h, true_or, or_true]
end
section
open PySem PySem.W PyProof.Rows PySem.Spec PySem.Calls
set_option Elab.async false
theorem fresh_MN11 : True := by
  w_top off
  trivial
theorem mapV_of {lw : Addr} {bs pr : Value} {m : Str → Option Value} (h : m (Str.ofString "wholes") = some (.ref lw)) (h1 : m (Str.ofString "base") = some bs) (h2 : m (Str.ofString "product") = some pr) : m = mapV lw bs pr m := by
  funext y
  unfold mapV
  by_cases e1 : y = Str.ofString "wholes"
  · subst e1; rw [if_pos rfl, h]
  · by_cases e2 : y = Str.ofString "base"
    · subst e2; rw [if_neg e1, if_pos rfl, h1]
    · by_cases e3 : y = Str.ofString "product"
      · subst e3; rw [if_neg e1, if_neg e2, if_pos rfl, h2]
      · rw [if_neg e1, if_neg e2, if_neg e3]
theorem iL_of {I : Nat} {a b c d e : Addr × Obj} {r : Led} (h : ∀ p ∈ a :: b :: c :: d :: e :: r, @LT.lt Nat _ p.1 I) : ∀ q ∈ a :: b :: r, q.1 ≠ I := fun q hq => Nat.ne_of_lt (h q (by
  simp only [List.mem_cons] at hq ⊢
  rcases hq with h | h | h <;> simp only [h, true_or, or_true]))
theorem n_end1 {g h : Heap} {L : Addr} {i l D x y lwE : Addr × Obj} {R rest : Led} (N : News g L h (lwE :: x :: y :: i :: (R ++ l :: D :: rest))) : News g L h ([i] ++ (l :: D :: lwE :: x :: y :: (R ++ rest))) := News.sub N fun q hq => by
  simp only [List.mem_cons, List.mem_append, List.not_mem_nil, or_false] at hq ⊢
  rcases hq with h | h | h | h | h | h | h | h <;> simp only [h, true_or, or_true]
theorem n_turn2 {g h : Heap} {L : Addr} {i l D x y lwE : Addr × Obj} {rest : Led} (N : News g L h ([i] ++ (l :: D :: lwE :: x :: y :: rest))) : News g L h (D :: lwE :: x :: y :: i :: l :: rest) := News.sub N fun q hq => by
  simp only [List.mem_cons, List.mem_append, List.not_mem_nil, or_false] at hq ⊢
  rcases hq with h | h | h | h | h | h | h <;> simp only [h, true_or, or_true]
theorem n_end2 {g h : Heap} {L : Addr} {i l x y lwE : Addr × Obj} {R rest : Led} (N : News g L h (lwE :: x :: y :: i :: (R ++ l :: rest))) : News g L h ([i] ++ (l :: lwE :: x :: y :: (R ++ rest))) := News.sub N fun q hq => by
  simp only [List.mem_cons, List.mem_append, List.not_mem_nil, or_false] at hq ⊢
  rcases hq with h | h | h | h | h | h | h <;> simp only [h, true_or, or_true]
theorem tabSt_is {P : Addr} {ln col : Int} {qual : Str} {t : Obj} {rest : Led} (h : TabSt P ln col qual t rest) : ∃ ps, t = tabObj ps := by
  rcases h with h | ⟨c', oc, vs, tk, h, _⟩
  · exact ⟨_, h⟩
  · exact ⟨_, h⟩
theorem app_ne {P : Nat} {R rest : Led} (h1 : ∀ q ∈ R, q.1 ≠ P) (h2 : ∀ q ∈ rest, q.1 ≠ P) : ∀ q ∈ R ++ rest, q.1 ≠ P := fun q hq => (List.mem_append.1 hq).elim (h1 q) (h2 q)
theorem cons_ne {P : Nat} {x : Addr × Obj} {rest : Led} (h1 : x.1 ≠ P) (h2 : ∀ q ∈ rest, q.1 ≠ P) : ∀ q ∈ x :: rest, q.1 ≠ P := List.forall_mem_cons.2 ⟨h1, h2⟩
theorem one_ne {I : Nat} {z : Obj} {news : Led} (h : ∀ q ∈ news, q.1 ≠ I) : ∀ p ∈ news, ∀ q ∈ [((I, z) : Addr × Obj)], p.1 ≠ q.1 := fun p hp q hq => by
  rw [List.mem_singleton.1 hq]
  exact h p hp
theorem n_turn1 {g h : Heap} {L : Addr} {i l D T x y lwE : Addr × Obj} {rest : Led} (N : News g L h ([i] ++ (l :: D :: T :: x :: y :: rest))) (hlw : lwE ∈ rest) : News g L h (T :: lwE :: x :: y :: i :: l :: D :: rest) := News.sub N fun q hq => by
  simp only [List.mem_cons, List.mem_append, List.not_mem_nil, or_false] at hq ⊢
  rcases hq with h | h | h | h | h | h | h | h
  · simp only [h, true_or, or_true]
  · exact .inr (.inr (.inr (.inr (.inr (.inr (h ▸ hlw))))))
  all_goals simp only [h, true_or, or_true]
set_option maxRecDepth 100000 in
set_option maxHeartbeats 1000000 in
theorem c_divs (w : World) (t1 t2 : Obj) (rest : Led) (lw k1 : Nat) (w0 w1 w2 base product : Int) (u0 u1 u2 tb tp : Tok) (hb : 256 ≤ base ∧ base ≤ 65536) (hpr : 0 ≤ product ∧ product ≤ 27)
   (hlw : (lw, listOf #[.int w0 u0, .int w1 u1, .int w2 u2] k1) ∈ rest) (H1 : Flt.Hid (DivOk (w0 - w1) base product 3)) (H2 : Flt.Hid (DivOk (w1 - w2) base product (-6)))
   (h1 : TabI t1 rest) (h2 : TabD t2 rest) (hr1 : Flt.Hid (∀ q ∈ rest, q.1 ≠ 108)) (hr2 : Flt.Hid (∀ q ∈ rest, q.1 ≠ 115)) :
   CtrN w 12 104 186 ((108, t1) :: (115, t2) :: rest) [.ref lw, .int base tb, .int product tp] (fun v news' => v = .bool true ∧ (∃ ps, (108, tabObj ps) ∈ news') ∧ ∃ ps, (115, tabObj ps) ∈ news') := by
  unfold CtrN; k_fill; intros; rename_i hret
  refine wpAny_call ?_
  k_dflt cell_enter
  k_steps
  rename Fr _ _ _ _ => F9
  rename News _ _ _ _ => N9
  rename Below _ _ _ _ => B9
  rename Top _ _ _ _ _ _ => T9
  rename Frag.In _ _ => X9
  rename (108 < _ ∧ 115 < _ ∧ AllLt _ _) => l9
  rename (_ < _ ∧ 108 < _ ∧ 115 < _ ∧ AllLt _ _) => l8
  rename (_ < _ ∧ _ < _ ∧ 108 < _ ∧ 115 < _ ∧ AllLt _ _) => l7
  have F8 := fr_map F9 (mapV_of rfl rfl rfl)
  refine iter_listTurns (vs := [.ref _, .ref _]) rfl F8 N9 (.head _) rfl rfl ?_
  intro I hI
  have m7 := allLt_mem l7.2.2.2.2
  have i108 : @LT.lt Nat _ 108 I := hI (108, t1) (.tail _ (.tail _ (.tail _ (.head _))))
  have i115 : @LT.lt Nat _ 115 I := hI (115, t2) (.tail _ (.tail _ (.tail _ (.tail _ (.head _)))))
  have iR : ∀ q ∈ rest, q.1 ≠ I := fun q hq => Nat.ne_of_lt (hI q (.tail _ (.tail _ (.tail _ (.tail _ (.tail _ hq))))))
  have iL := iL_of hI
  have iW : lw ≠ I := iR _ hlw
  refine ItemsRest.val fun h6 tk6 F6 => AllObj.cons fun z1 hz1 => AllObj.nil fun N6 => ?_
  refine divs_turn w (s := { heap := h6, gens := _, drawn := _, toks := tk6, os := _ }) (z := z1) (I := I) (rest := (_, _) :: (_, _) :: rest) (product := product) X9 T9 B9 ?hdp ?hun hb ⟨by decide, by decide⟩ hpr (i := 0) (j := 1) (fac := 3) ⟨by decide, by decide⟩ ⟨by decide, by decide⟩ H1 (TabSt.mono h1 fun q hq => .tail _ (.tail _ hq)) (TabSt.mono h2 fun q hq => .tail _ (.tail _ hq)) ⟨ne2r (Nat.ne_of_gt l7.2.2.1) (Nat.ne_of_gt l8.2.1) hr1.out⟩ ⟨ne2r (Nat.ne_of_gt l7.2.2.2.1) (Nat.ne_of_gt l8.2.2.1) hr2.out⟩ ⟨iL⟩ ⟨hr1.out _ hlw, hr2.out _ hlw, Nat.ne_of_gt l9.1, Nat.ne_of_gt l9.2.1, Nat.ne_of_gt i108, Nat.ne_of_gt i115⟩ F6 (n_turn1 N6 hlw) ?_
  case hdp => ktr_room
  case hun => ktr_units
  intro h5 tk5 t1' t2' R1 mO1 q1 q2 q3 q4 q5 F5 N5
  have i6 := iL _ (.tail _ (.head _))
  have i7 := iL _ (.head _)
  refine ⟨h5, tk5, _, _, rfl, F5, n_end1 N5, one_ne (cons_ne i7 (cons_ne i6 (cons_ne iW (cons_ne (Nat.ne_of_lt i108) (cons_ne (Nat.ne_of_lt i115) (app_ne q5 iR)))))), ⟨.head _, trivial⟩, ?_⟩
  refine ItemsRest.val fun h4 tk4 F4 => AllObj.cons fun z2 hz2 => AllObj.nil fun N4 => ?_
  refine divs_turn w (s := { heap := h4, gens := _, drawn := _, toks := tk4, os := _ }) (z := z2) (I := I) (product := product) X9 T9 B9 ?hdp2 ?hun2 hb ⟨by decide, by decide⟩ hpr (i := 1) (j := 2) (fac := -6) ⟨by decide, by decide⟩ ⟨by decide, by decide⟩ H2 (TabSt.mono q1 fun q hq => .tail _ (List.mem_append_left _ hq)) (TabSt.mono q2 fun q hq => .tail _ (List.mem_append_left _ hq)) ⟨cons_ne (Nat.ne_of_gt l7.2.2.1) (app_ne q3 hr1.out)⟩ ⟨cons_ne (Nat.ne_of_gt l7.2.2.2.1) (app_ne q4 hr2.out)⟩ ⟨cons_ne i7 (app_ne q5 iR)⟩ ⟨hr1.out _ hlw, hr2.out _ hlw, Nat.ne_of_gt l8.2.1, Nat.ne_of_gt l8.2.2.1, Nat.ne_of_gt i108, Nat.ne_of_gt i115⟩ F4 (n_turn2 N4) ?_
  case hdp2 => ktr_room
  case hun2 => ktr_units
  intro h3 tk3 t1'' t2'' R2 mO2 p1 p2 p3 p4 p5 F3 N3
  refine ⟨h3, tk3, _, _, rfl, F3, n_end2 N3, one_ne (cons_ne i7 (cons_ne iW (cons_ne (Nat.ne_of_lt i108) (cons_ne (Nat.ne_of_lt i115) (app_ne p5 (app_ne q5 iR)))))), ⟨.head _, trivial⟩, ?_⟩
  refine ItemsRest.zero fun h2 tk2 F2 N2 => ?_
  clear F9 F8 N9 F6 N6 F5 N5 F4 N4 F3 N3
  dsimp only
  k_steps
  rename News _ _ _ _ => K9
  obtain ⟨ps1, rfl⟩ := tabSt_is p1
  obtain ⟨ps2, rfl⟩ := tabSt_is p2
  exact hret _ _ _ _ ⟨rfl, ⟨ps1, by k_mem⟩, ⟨ps2, by k_mem⟩⟩ (by k_asm) K9
end
section
open PySem PySem.W PyProof.Rows PySem.Spec PySem.Calls
set_option Elab.async false
theorem fresh_MF2 : True := by
  w_top off
  trivial
theorem b1_elems : (b1es.toList.all fun e => match e.2 with | .int k _ => (e.1 == hashInt k) && b1L.contains k | _ => false) = true := by decide +kernel
theorem b1_has : (b1L.all fun k => b1es.toList.any fun e => Value.isInt k e.2) = true := by decide +kernel
theorem b1_get {w : World} {h : Heap} (X : (heapK w.params).In h) : h.get? 22 = some (Obj.mk (Value.type "set") Option.none (Data.set b1es 29 (b1tab w.params)) #[]) := X 22 _ rfl
theorem isInt_of {k j : Int} {t : Tok} : Value.isInt k (.int j t) = true ↔ j = k := by
  unfold Value.isInt
  simp
theorem b1_set {w : World} {h : Heap} (X : (heapK w.params).In h) : h.SetOf (intKind Challenge.rw_qu0064_01.row.prog w) 22 (fun k => b1L.contains k) 27 := by
  refine ⟨_, b1es, 29, b1tab w.params, b1_get X, ⟨rfl, rfl, rfl⟩, rfl, ?_, ?_, by decide +kernel, rfl, by decide +kernel⟩
  · intro e he
    have := List.all_eq_true.mp b1_elems e he
    obtain ⟨hh, v⟩ := e
    cases v <;> simp at this
    rename_i i t
    exact ⟨⟨i, isInt_self i t, this.1⟩, rfl⟩
  · intro k
    constructor
    · intro hk
      have := List.all_eq_true.mp b1_has k (List.contains_iff_mem.mp hk)
      obtain ⟨e, h1, h2⟩ := List.any_eq_true.mp this
      exact ⟨e, h1, h2⟩
    · rintro ⟨e, he, hk⟩
      have := List.all_eq_true.mp b1_elems e he
      obtain ⟨hh, v⟩ := e
      cases v <;> simp at this
      rename_i i t
      have : i = k := (isInt_of (t := t)).mp hk
      subst this
      simp_all
noncomputable def inB1 (k : Int) : Bool := b1L.contains k
theorem in_b1 {w : World} {A : Around} {E : Value → Shared → Prop} {s : Shared} {h₀ : Heap} {L : Addr} {m : Str → Option Value} {k : Int} {t : Tok} {Q : Value → Shared → Prop} (F : Fr h₀ L s.heap m) (X : (heapK w.params).In h₀)
    (h : Q (.bool (inB1 k)) { s with toks := s.toks + 1 }) : wpAny (model Challenge.rw_qu0064_01.row.prog w) A (compareOp .In (.int k t) (.ref 22)) Q E s :=
  wpAny_inSet_of (knd := intKind Challenge.rw_qu0064_01.row.prog w) (isInt_self k t) rfl (b1_set (X.keeps F.keep)) h
set_option maxRecDepth 100000 in
set_option maxHeartbeats 1000000 in
theorem c_b1 (w : World) (news : Led) (c : Nat) (t1 : Tok)  :
   Ctr w 1 8 32 news [.str ⟨#[c]⟩ t1] (fun v more => more = [] ∧ v = .bool (inB1 (c : Int))) := by
  unfold Ctr; k_fill; intros; rename_i hret
  refine wpAny_call ?_
  k_dflt cell_enter
  k_steps
  refine in_b1 (by k_asm) (by k_asm) ?_
  k_steps
  refine hret _ [] _ _ ?_ ?_ ?_
  rotate_left
  · k_asm
  · walk_at "ctr_news"
  exact ⟨rfl, rfl⟩
noncomputable def b3f (k : Int) : Option Value := findBy Value.isInt b3es k
theorem b3_keys : (b3l.all fun e => match e.key with | .int k _ => e.hash == hashInt k | _ => false) = true := by decide +kernel
theorem b3_get {w : World} {h : Heap} (X : (heapK w.params).In h) : h.get? 33 = some (Obj.mk (Value.type "dict") Option.none (Data.dict b3es 650) #[]) := X 33 _ rfl
theorem b3_map {w : World} {h : Heap} (X : (heapK w.params).In h) : h.MapOf (intKind Challenge.rw_qu0064_01.row.prog w) 33 b3f := by
  refine ⟨_, b3es, 650, b3_get X, ⟨rfl, rfl, rfl⟩, rfl, ?_, fun k => rfl⟩
  intro e he
  have he' : e ∈ b3l := by
    have := Array.mem_toList_iff.mpr he
    unfold b3es at this
    rwa [List.toList_toArray] at this
  have := List.all_eq_true.mp b3_keys e he'
  obtain ⟨hh, k, v⟩ := e
  cases k <;> simp at this
  rename_i i t
  exact ⟨i, isInt_self i t, this⟩
theorem meth_b3 {w : World} {A : Around} {E : Value → Shared → Prop} {s : Shared} {h₀ : Heap} {L : Addr} {m : Str → Option Value} {pl : Sem Bool} {Q : Value × List Value → Shared → Prop} (F : Fr h₀ L s.heap m) (X : (heapK w.params).In h₀)
    (h : Q (.builtin "dict.get", [.ref 33]) s) : wpAny (model Challenge.rw_qu0064_01.row.prog w) A (getMethod (.ref 33) (Str.ofString "get") pl) Q E s :=
  have hm := b3_map (X.keeps F.keep)
  getMethod_builtin hm.typeIs PySem.F.plainAttrs_dict PySem.F.slot_dict_get PySem.F.type_dict_get hm.noDict h
theorem get_b3 {w : World} {A : Around} {E : Value → Shared → Prop} {s : Shared} {h₀ : Heap} {L : Addr} {m : Str → Option Value} {k : Int} {t : Tok} {Q : Value → Shared → Prop} (F : Fr h₀ L s.heap m) (X : (heapK w.params).In h₀)
    (h : Q ((b3f k).getD .none) { s with toks := s.toks + 1 }) : wpAny (model Challenge.rw_qu0064_01.row.prog w) A (call (.builtin "dict.get") [.ref 33, .int k t]) Q E s :=
  have hm := b3_map (X.keeps F.keep)
  call_meetsIn PySem.F.slot_dict_get hm.typeIs PySem.F.entry_dict_get (PySem.F.args_dict_get_2 _ _) (meets_dict_get (intKind Challenge.rw_qu0064_01.row.prog w) 33 (isInt_self k t) rfl) ⟨_, hm, h⟩
local macro_rules | `(tactic| walk_at "getMethod ref") => `(tactic| (k_here; (with_reducible show wpAny _ _ (getMethod (Value.ref 33) _ _) _ _ _); refine meth_b3 (by k_asm) (by k_asm) ?_))
theorem get_b3v {w : World} {A : Around} {E : Value → Shared → Prop} {s : Shared} {h₀ : Heap} {L : Addr} {m : Str → Option Value} {k : Int} {t : Tok} {v : Value} {Q : Value → Shared → Prop} (hx : (b3f k).getD .none = v) (F : Fr h₀ L s.heap m) (X : (heapK w.params).In h₀)
    (h : Q v { s with toks := s.toks + 1 }) : wpAny (model Challenge.rw_qu0064_01.row.prog w) A (call (.builtin "dict.get") [.ref 33, .int k t]) Q E s := get_b3 F X (hx ▸ h)
local macro_rules | `(tactic| walk_at "call builtin:dict.get") => `(tactic| (k_here; (with_reducible show wpAny _ _ (call (Value.builtin "dict.get") [Value.ref 33, Value.int _ _]) _ _ _); refine get_b3v (by with_reducible assumption) (by k_asm) (by k_asm) ?_))
set_option maxRecDepth 100000 in
set_option maxHeartbeats 1000000 in
theorem c_b3s (w : World) (news : Led) (c : Nat) (t1 : Tok) (x : Str) (t2 : Tok) (hx : (b3f c).getD .none = .str x t2) :
   Ctr w 1 8 78 news [.str ⟨#[c]⟩ t1] (fun v more => more = [] ∧ ∃ t, v = .str x t) := by
  unfold Ctr; k_fill; intros; rename_i hret
  refine wpAny_call ?_
  k_dflt cell_enter
  k_steps
  refine hret _ [] _ _ ?_ ?_ ?_
  rotate_left
  · k_asm
  · walk_at "ctr_news"
  exact ⟨rfl, _, rfl⟩
set_option maxRecDepth 100000 in
set_option maxHeartbeats 1000000 in
theorem c_b3n (w : World) (news : Led) (c : Nat) (t1 : Tok) (hx : (b3f c).getD .none = .none) :
   Ctr w 1 8 78 news [.str ⟨#[c]⟩ t1] (fun v more => more = [] ∧ ∃ t, v = .str (Txt.lower ⟨#[c]⟩) t) := by
  unfold Ctr; k_fill; intros; rename_i hret
  refine wpAny_call ?_
  k_dflt cell_enter
  k_steps
  refine SCL.lower (by show 1 ≤ 5592405; decide) ?_
  intros
  k_steps
  refine hret _ [] _ _ ?_ ?_ ?_
  rotate_left
  · k_asm
  · walk_at "ctr_news"
  exact ⟨rfl, _, rfl⟩
noncomputable def b3S (c : Nat) : Str := match (b3f c).getD .none with | .str x _ => x | _ => Txt.lower ⟨#[c]⟩
noncomputable def okS (c : Nat) : Prop := (∃ x t, (b3f c).getD .none = .str x t) ∨ (b3f c).getD .none = .none
theorem c_b3 (w : World) (news : Led) (c : Nat) (t1 : Tok) (ok : okS c) : Ctr w 1 8 78 news [.str ⟨#[c]⟩ t1] (fun v more => more = [] ∧ ∃ t, v = .str (b3S c) t) := by
  rcases ok with ⟨x, t, h⟩ | h
  · have e : b3S c = x := by unfold b3S; rw [h]
    rw [e]; exact c_b3s w news c t1 x t h
  · have e : b3S c = Txt.lower ⟨#[c]⟩ := by unfold b3S; rw [h]
    rw [e]; exact c_b3n w news c t1 h
end
section
open PySem PySem.W PyProof.Rows PySem.Spec PySem.Calls
set_option Elab.async false
local macro_rules | `(tactic| walk_at "zz0") => `(tactic| skip)
theorem fresh_MF3 : True := by
  w_top off
  trivial
noncomputable def prepS (c : Int) : Str := if inB1 c then Str.empty else b3S c.toNat
noncomputable def prepT (cs : List Int) : Str := cs.foldl (fun x c => x ++ prepS c) Str.empty
local macro_rules | `(tactic| walk_at "call ref") => `(tactic| (k_here; (with_reducible show wpAny _ _ (call (Value.ref 32) [Value.str _ _]) _ _ _); refine' Ctr.use (c_b1 _ _ _ _) ?k1 ?k2 ?k3 ?k4 ?k5 ?kK ?kd ?ku ?_; walk_at "ctr_use"; intro v9 more9 h9 tk9 hR9 F9 N9; obtain ⟨e9, e8⟩ := hR9; subst e9 e8; (try simp only [List.nil_append] at N9); (try dsimp only); (try k_fold)))
local macro_rules | `(tactic| walk_at "call ref") => `(tactic| (k_here; (with_reducible show wpAny _ _ (call (Value.ref 78) [Value.str _ _]) _ _ _); refine' Ctr.use (c_b3 _ _ _ _ ?ok) ?k1 ?k2 ?k3 ?k4 ?k5 ?kK ?kd ?ku ?_; walk_at "ctr_use"; (case ok => assumption); intro v9 more9 h9 tk9 hR9 F9 N9; obtain ⟨e9, t9, e8⟩ := hR9; subst e9 e8; (try simp only [List.nil_append] at N9); (try dsimp only); (try k_fold)))
theorem prepT_snoc (pre : List Int) (n : Int) : prepT (pre ++ [n]) = prepT pre ++ prepS n := by simp [prepT]
theorem prep_skip {x : Str} {pre : List Int} {n : Nat} (h : x = prepT pre) (hl : x.length ≤ 4 * pre.length) (hb : inB1 (n : Int) = true) : x = prepT (pre ++ [(n : Int)]) ∧ x.length ≤ 4 * (pre ++ [(n : Int)]).length := by
  refine ⟨?_, by rw [List.length_append]; omega⟩
  rw [prepT_snoc, h]
  have : prepS (n : Int) = Str.empty := by unfold prepS; rw [hb]; rfl
  rw [this, Str.append_empty]
theorem prep_add {x : Str} {pre : List Int} {n : Nat} (h : x = prepT pre) (hl : x.length ≤ 4 * pre.length) (hb : inB1 (n : Int) = false) (h4 : (b3S n).length ≤ 4) : x ++ b3S n = prepT (pre ++ [(n : Int)]) ∧ (x ++ b3S n).length ≤ 4 * (pre ++ [(n : Int)]).length := by
  refine ⟨?_, by rw [List.length_append, Str.length_append]; simp only [List.length_cons, List.length_nil]; omega⟩
  rw [prepT_snoc, h]
  have : prepS (n : Int) = b3S n := by
    unfold prepS
    rw [if_neg (by rw [hb]; exact Bool.false_ne_true), Int.toNat_natCast]
  rw [this]
theorem prep_start : (Str.ofString "") = prepT [] ∧ (Str.ofString "").length ≤ 4 * ([] : List Int).length := by decide +kernel
theorem sign_ok {x : Str} {pre post : List Int} {n : Nat} (ok : ∀ c ∈ x.cps.toList, inB1 (c : Int) = true ∨ (okS c ∧ (b3S c).length ≤ 4)) (e : KStt.codes x = pre ++ (n : Int) :: post) (hb : inB1 (n : Int) = false) : okS n ∧ (b3S n).length ≤ 4 := by
  have hm : (n : Int) ∈ KStt.codes x := by rw [e]; simp
  have : n ∈ x.cps.toList := by
    unfold KStt.codes at hm
    obtain ⟨c, h1, h2⟩ := List.mem_map.mp hm
    have : c = n := Int.ofNat.inj h2
    exact this ▸ h1
  rcases ok n this with h | h
  · rw [h] at hb; cases hb
  · exact h
set_option maxRecDepth 100000 in
set_option maxHeartbeats 1000000 in
theorem c_prepared (w : World) (news : Led) (x : Str) (t1 : Tok) (ok : ∀ c ∈ x.cps.toList, inB1 (c : Int) = true ∨ (okS c ∧ (b3S c).length ≤ 4)) (hlen : x.length ≤ 16) :
   Ctr w 2 16 162 news [.str x t1] (fun v more => more = [] ∧ ∃ t, v = .str (prepT (KStt.codes x)) t) := by
  unfold Ctr; k_fill; intros; rename_i hret
  refine wpAny_call ?_
  k_dflt cell_enter
  k_with "pyIter str" => k_state (fun pre word => word = prepT pre ∧ word.length ≤ 4 * pre.length) "word"
  k_with "state" => first | exact prep_start | (refine prep_skip ?_ ?_ ?_ <;> with_reducible assumption) | (refine prep_add ?_ ?_ ?_ ?_ <;> with_reducible assumption)
  k_steps
  · have h9 := sign_ok ok (by assumption) (by assumption)
    obtain ⟨h8, h7⟩ := h9
    k_steps
  · refine hret _ [] _ _ ?_ ?_ ?_
    rotate_left
    · k_asm
    · walk_at "ctr_news"
    · rename_i hx _ _ _ _ _
      exact ⟨rfl, _, congrArg (fun y => Value.str y _) hx⟩
end
section
open PySem PySem.W PyProof.Rows PySem.Spec PySem.Calls
set_option Elab.async false
theorem fresh_MG3 : True := by
  w_top off
  trivial
local macro_rules | `(tactic| walk_at "call ref") => `(tactic| (k_here; (with_reducible show wpAny _ _ (call (Value.ref 148) [Value.str _ _, Value.int _ _]) _ _ _); refine' Ctr.use (c_form _ _ _ ?hc _ _ _) ?k1 ?k2 ?k3 ?k4 ?k5 ?kK ?kd ?ku ?_; walk_at "ctr_use"; (case hc => assumption); intro v9 more9 h9 tk9 hR9 F9 N9; obtain ⟨e9, t9, e8⟩ := hR9; subst e9 e8; (try simp only [List.nil_append] at N9); (try dsimp only); (try k_fold)))
local macro_rules | `(tactic| walk_at "call ref") => `(tactic| (k_here; (with_reducible show wpAny _ _ (call (Value.ref 141) [Value.int _ _]) _ _ _); refine' Ctr.use (c_nothing _ _ _ _) ?k1 ?k2 ?k3 ?k4 ?k5 ?kK ?kd ?ku ?_; walk_at "ctr_use"; intro v9 more9 h9 tk9 hR9 F9 N9; obtain ⟨e9, t9, e8⟩ := hR9; subst e9 e8; (try simp only [List.nil_append] at N9); (try dsimp only); (try k_fold)))
theorem formF_len (c : Int) (n : Int) : (formF c n).length = 1 := by
  unfold formF
  split
  · rfl
  · split <;> rfl
theorem one_len (c : Nat) : (⟨#[c]⟩ : Str).length = 1 := rfl
noncomputable def bothF (c : Nat) (both : Str) (number : Int) : Str := if (number.fdiv 972).fmod 2 = 1 then formF c (number.fdiv 3) ++ ⟨#[c]⟩ else both
noncomputable def StockR (c : Nat) (both : Str) (number : Int) (v : Value) (more : Led) : Prop :=
  ∃ D x y z n, v = .ref D ∧ more = [(D, W.listOf #[.str ⟨#[nothingN (number.fdiv 36)]⟩ x, .str (formF c (number.fdiv 3)) y, .str (bothF c both number) z] n)]
set_option maxRecDepth 100000 in
set_option maxHeartbeats 1000000 in
theorem c_stock (w : World) (news : Led) (c : Nat) (hc : 97 ≤ c ∧ c ≤ 122) (both : Str) (hb : both.length ≤ 4) (number : Int) (t1 t2 t3 : Tok) (hn : 0 ≤ number ∧ number < 1000000) :
   Ctr w 2 16 155 news [.str ⟨#[c]⟩ t1, .str both t2, .int number t3] (StockR c both number) := by
  unfold Ctr; k_fill; intros; rename_i hret
  refine wpAny_call ?_
  k_dflt cell_enter
  k_steps
  · refine PyProof.Rows.add_str ?_ (by rw [formF_len, one_len, sizeLine_eq]; omega)
    intro t8 tk8
    k_steps
    refine' hret _ (?p1 :: []) _ _ ?eR ?eF ?eN
    case eF => k_asm
    case eN => k_asm
    have e : bothF c both number = formF c (number.fdiv 3) ++ ⟨#[c]⟩ := if_pos (by assumption)
    unfold StockR
    rw [e]
    exact ⟨_, _, _, _, _, rfl, rfl⟩
  · refine' hret _ (?p2 :: []) _ _ ?eR2 ?eF2 ?eN2
    case eF2 => k_asm
    case eN2 => k_asm
    have e : bothF c both number = both := if_neg (by assumption)
    unfold StockR
    rw [e]
    exact ⟨_, _, _, _, _, rfl, rfl⟩
end
section
open PySem PySem.W PyProof.Rows PySem.Spec PySem.Calls PyProof.Rows.LCg
set_option Elab.async false
structure Src (prog : Program) (w : World) (A : Around) (h₀ : Heap) (L I : Addr) (n : Nat) (P : Nat → Value → Prop) (St : Nat → Heap → Prop) (S : Led → Prop) : Prop where
  walks : ∃ fp, Walks prog w A I fp [I] n P St
  obj : ∀ i h, St i h → ∃ o, h.get? I = some o
  keep : ∀ i h h' o nw, St i h → h.get? I = some o → h'.get? I = some o → (∀ b o, h₀.get? b = some o → h'.get? b = some o) → News h₀ L h' nw → S nw → St i h'
structure CSt (h₀ : Heap) (L : Addr) (m : Str → Option Value) (St : Nat → Heap → Prop) (S : Led → Prop) (I C D : Addr) (i : Nat) (m₂ : Str → Option Value) (ys : List Value) (news : Led) (h : Heap) : Prop where
  fr : Fr h₀ L h m
  obj : ∃ oI oC, News h₀ L h ((I, oI) :: (C, oC) :: (D, lst ys) :: news) ∧ NsObj oC m₂
  st : St i h
  off : Off3 I C D news
  s : S news
structure CEnd (h₀ : Heap) (L : Addr) (m : Str → Option Value) (C D : Addr) (m₂ : Str → Option Value) (ys : List Value) (news : Led) (h : Heap) : Prop where
  fr : Fr h₀ L h m
  obj : ∃ oC, News h₀ L h ((C, oC) :: (D, lst ys) :: news) ∧ NsObj oC m₂
  off : ∀ p ∈ news, p.1 ≠ C ∧ p.1 ≠ D
section
variable {prog : Program} {w : World} {A : Around} {E : Value → Shared → Prop} {s : Shared} {h₀ : Heap} {L : Addr} {m : Str → Option Value} {env : Env} {I C D : Addr} {n : Nat} {P : Nat → Value → Prop} {St : Nat → Heap → Prop} {S : Led → Prop}
theorem Src.list (hh : A.handled = none) {ax : Addr} {its : Array Value} (hne : ax ≠ I) : Src prog w A h₀ L I its.size (fun i v => its[i]? = some v) (fun i h => h.IsListIter I ax i ∧ h.IsList ax its) (SrcAt h₀ ax its) where
  walks := ⟨_, Walks.list hh I ax hne its⟩
  obj := fun i h st => by obtain ⟨o, e, _⟩ := st.1; exact ⟨o, e⟩
  keep := list_st
theorem Src.range (hh : A.handled = none) (a : Int) (n : Nat) : Src prog w A h₀ L I n (fun i v => ∃ t, v = .int (a + (i : Int)) t) (fun i h => IsRangeIter h I (a + (i : Nat) * 1) ((n : Int) - (i : Nat)) 1) (fun _ => True) where
  walks := ⟨_, range_walks hh a n⟩
  obj := fun i h st => ⟨_, st⟩
  keep := range_st
theorem CSt.of (K : Src prog w A h₀ L I n P St S) {i : Nat} {h h' : Heap} {oI oC : Obj} {m₂ : Str → Option Value} {ys : List Value} {news : Led} (st : St i h) (e : h.get? I = some oI) (F : Fr h₀ L h' m) (N : News h₀ L h' ((I, oI) :: (C, oC) :: (D, lst ys) :: news)) (hC : NsObj oC m₂) (off : Off3 I C D news) (hS : S news) :
    CSt h₀ L m St S I C D i m₂ ys news h' :=
  ⟨F, ⟨oI, oC, N, hC⟩, K.keep i h h' oI news st e (N _ (.head _)).1 F.keep (fun p hp => N p (.tail _ (.tail _ (.tail _ hp)))) hS, off, hS⟩
theorem news_but1 {h h' : Heap} {X : Addr} {news : Led} (N : News h₀ L h news) (hs : Heap.SameBut X h h') (off : ∀ p ∈ news, p.1 ≠ X) : News h₀ L h' news :=
  fun p hp => ⟨hs.extBut _ _ (off p hp) (N p hp).1, (N p hp).2⟩
theorem lvl {e target iter : Expr} {scope : Scope} {cl : List (Str × Addr)} {d : Nat} {X : Value → Env → Sem Unit} {R : Result → Shared → Prop} {s₀ : Shared}
    (hq : (Code.compLoop e d (.ref I) (.ref D) (compEnvC scope cl C env)).quiet = true)
    (hA : A.under (.compLoop e d (.ref I) (.ref D) (compEnvC scope cl C env)) = A)
    (hden : (model prog w).den (.compLoop e d (.ref I) (.ref D) (compEnvC scope cl C env)) = (compTurn e d (.ref I) (.ref D) (compEnvC scope cl C env)).onRaise (fun x => do noteFrame x (compEnvC scope cl C env); theTreesLotGoes x))
    (hturn : ∀ it acc cenv, compTurn e d it acc cenv = (standAt iter.pos >>= fun _ => pyNext it >>= fun r => match r with
      | none => pure (.done .next)
      | some v => letOwnedTupleGo target it v >>= fun _ => assign target cenv v >>= fun _ => X acc cenv >>= fun _ => again (.compLoop e d it acc cenv)))
    (K : Src prog w A h₀ L I n P St S) (ne : (@Ne Nat I C) ∧ (@Ne Nat I D) ∧ (@Ne Nat C D)) (J : Nat → (Str → Option Value) → List Value → Led → Prop)
    (turn : ∀ i v m₂ ys news h tk (E' : Value → Shared → Prop), i < n → P i v → J i m₂ ys news → CSt h₀ L m St S I C D (i + 1) m₂ ys news h →
      wpAny (model prog w) A (letOwnedTupleGo target (.ref I) v >>= fun _ => assign target (compEnvC scope cl C env) v >>= fun _ => X (.ref D) (compEnvC scope cl C env))
        (fun _ s' => ∃ h' tk' m₂' ys' news', s' = { s₀ with heap := h', toks := tk' } ∧ CSt h₀ L m St S I C D (i + 1) m₂' ys' news' h' ∧ J (i + 1) m₂' ys' news') E' { s₀ with heap := h, toks := tk })
    {h : Heap} {tk : Nat} {m₂ : Str → Option Value} {ys : List Value} {news : Led} (st : CSt h₀ L m St S I C D 0 m₂ ys news h) (h0 : J 0 m₂ ys news)
    (fin : ∀ h tk m₂ ys news, CEnd h₀ L m C D m₂ ys news h → J n m₂ ys news → R (.ok .next) { s₀ with heap := h, toks := tk }) :
    codeAny (model prog w) A (.compLoop e d (.ref I) (.ref D) (compEnvC scope cl C env)) R { s₀ with heap := h, toks := tk } := by
  obtain ⟨fp, W⟩ := K.walks
  refine codeAny_loop hq (fun k s' => ∃ h tk i m₂ ys news, s' = { s₀ with heap := h, toks := tk } ∧ i ≤ n ∧ k = n + 1 - i ∧ CSt h₀ L m St S I C D i m₂ ys news h ∧ J i m₂ ys news) ?_ (n + 1) ⟨h, tk, 0, m₂, ys, news, rfl, Nat.zero_le _, rfl, st, h0⟩
  rintro k s' ⟨h, tk, i, m₂, ys, news, rfl, hi, rfl, st, hJ⟩
  rw [hA, hden]
  refine wpAny_noted ?_
  rw [hturn]
  obtain ⟨oI, oC, N, hoC⟩ := st.obj
  have zI := N _ (.head _)
  have NT : News h₀ L h ((C, oC) :: (D, lst ys) :: news) := fun p hp => N p (.tail _ hp)
  have offI : ∀ p ∈ ((C, oC) :: (D, lst ys) :: news : Led), p.1 ≠ I := fun p hp => by
    rcases List.mem_cons.1 hp with rfl | hp
    · exact Ne.symm ne.1
    · rcases List.mem_cons.1 hp with rfl | hp
      · exact Ne.symm ne.2.1
      · exact (st.off.mem p hp).1
  refine wpAny_bind (wpAny_standAt (wpAny_bind ?_))
  by_cases hlt : i < n
  · refine W.item i _ _ _ hlt st.st fun v h₂ tk₂ hPv hst₂ hk₂ => ?_
    obtain ⟨oI', heI⟩ := K.obj _ _ hst₂
    have F₂ := fr_but st.fr hk₂ (Ne.symm zI.2.1) zI.2.2
    have N₂ := news_but NT hk₂ offI
    have st₂ : CSt h₀ L m St S I C D (i + 1) m₂ ys news h₂ := ⟨F₂, ⟨oI', oC, fun p hp => by
      rcases List.mem_cons.1 hp with rfl | hp
      · exact ⟨heI, zI.2⟩
      · exact N₂ p hp, hoC⟩, hst₂, st.off, st.s⟩
    have h3 := turn i v m₂ ys news h₂ tk₂ (notedBy (model prog w) A (compEnvC scope cl C env) fun e s' => R (.error e) s') hlt hPv hJ st₂
    have h4 := wpAny_bind (f := fun _ => again (.compLoop e d (.ref I) (.ref D) (compEnvC scope cl C env))) (wpAny_mono h3 (fun (_ : Unit) s₄ h₄ => wpAny_pure (a := Fin.again (.compLoop e d (.ref I) (.ref D) (compEnvC scope cl C env))) (Q := fun fin s' => match fin with | .done f => R (.ok f) s' | .again c' => c' = .compLoop e d (.ref I) (.ref D) (compEnvC scope cl C env) ∧ ∃ k', k' < n + 1 - i ∧ ∃ h tk i m₂ ys news, s' = { s₀ with heap := h, toks := tk } ∧ i ≤ n ∧ k' = n + 1 - i ∧ CSt h₀ L m St S I C D i m₂ ys news h ∧ J i m₂ ys news) (by
      obtain ⟨h', tk', m₂', ys', news', rfl, st', hJ'⟩ := h₄
      exact ⟨rfl, n + 1 - (i + 1), by omega, h', tk', i + 1, m₂', ys', news', rfl, hlt, rfl, st', hJ'⟩)) fun _ _ x => x)
    simp only [bind_assoc] at h4
    exact h4
  · obtain rfl : i = n := Nat.le_antisymm hi (Nat.not_lt.mp hlt)
    refine W.done _ _ _ st.st fun h₂ tk₂ hk₂ => ?_
    exact wpAny_pure (fin h₂ tk₂ m₂ ys news ⟨fr_but st.fr hk₂ (Ne.symm zI.2.1) zI.2.2, ⟨oC, news_but NT hk₂ offI, hoC⟩, fun p hp => (st.off.mem p hp).2⟩ hJ)
end
end
section
open PySem PySem.W PyProof.Rows PySem.Spec PySem.Calls PyProof.Rows.LCg
set_option Elab.async false
noncomputable abbrev lc3 (elt t0 i0 t1 i1 t2 i2 : Expr) (scope : Scope) (pos : Pos) : Expr := .ListComp elt [⟨t0, i0, [], 0⟩, ⟨t1, i1, [], 0⟩, ⟨t2, i2, [], 0⟩] scope pos
noncomputable def more (e : Expr) (d : Nat) (iter : Expr) (acc : Value) (env : Env) : Sem Unit :=
  eval iter env >>= fun x => standAt iter.pos >>= fun _ => foldedSetIterable iter env x >>= fun x => holding [x] (pyIter x) >>= fun it => runOwn (.compStart e d it acc env) env >>= fun _ => pure ()
noncomputable def emit (elt : Expr) (acc : Value) (env : Env) : Sem Unit := eval elt env >>= fun x => call (.builtin "list.append") [acc, x] >>= fun _ => pure ()
theorem turn3_0 (elt t0 i0 t1 i1 t2 i2 : Expr) (scope : Scope) (pos : Pos) (it acc : Value) (env : Env) :
    compTurn (lc3 elt t0 i0 t1 i1 t2 i2 scope pos) 0 it acc env = (standAt i0.pos >>= fun _ => pyNext it >>= fun r => match r with
      | none => pure (.done .next)
      | some v => letOwnedTupleGo t0 it v >>= fun _ => assign t0 env v >>= fun _ => more (lc3 elt t0 i0 t1 i1 t2 i2 scope pos) 1 i1 acc env >>= fun _ => again (.compLoop (lc3 elt t0 i0 t1 i1 t2 i2 scope pos) 0 it acc env)) := by
  unfold more
  simp only [bind_assoc, pure_bind]
  rfl
theorem turn3_1 (elt t0 i0 t1 i1 t2 i2 : Expr) (scope : Scope) (pos : Pos) (it acc : Value) (env : Env) :
    compTurn (lc3 elt t0 i0 t1 i1 t2 i2 scope pos) 1 it acc env = (standAt i1.pos >>= fun _ => pyNext it >>= fun r => match r with
      | none => pure (.done .next)
      | some v => letOwnedTupleGo t1 it v >>= fun _ => assign t1 env v >>= fun _ => more (lc3 elt t0 i0 t1 i1 t2 i2 scope pos) 2 i2 acc env >>= fun _ => again (.compLoop (lc3 elt t0 i0 t1 i1 t2 i2 scope pos) 1 it acc env)) := by
  unfold more
  simp only [bind_assoc, pure_bind]
  rfl
theorem turn3_2 (elt t0 i0 t1 i1 t2 i2 : Expr) (scope : Scope) (pos : Pos) (it acc : Value) (env : Env) :
    compTurn (lc3 elt t0 i0 t1 i1 t2 i2 scope pos) 2 it acc env = (standAt i2.pos >>= fun _ => pyNext it >>= fun r => match r with
      | none => pure (.done .next)
      | some v => letOwnedTupleGo t2 it v >>= fun _ => assign t2 env v >>= fun _ => emit elt acc env >>= fun _ => again (.compLoop (lc3 elt t0 i0 t1 i1 t2 i2 scope pos) 2 it acc env)) := by rfl
theorem turn1 (elt t0 i0 : Expr) (scope : Scope) (pos : Pos) (it acc : Value) (env : Env) :
    compTurn (.ListComp elt [⟨t0, i0, [], 0⟩] scope pos) 0 it acc env = (standAt i0.pos >>= fun _ => pyNext it >>= fun r => match r with
      | none => pure (.done .next)
      | some v => letOwnedTupleGo t0 it v >>= fun _ => assign t0 env v >>= fun _ => emit elt acc env >>= fun _ => again (.compLoop (.ListComp elt [⟨t0, i0, [], 0⟩] scope pos) 0 it acc env)) := by rfl
section
variable {prog : Program} {w : World} {A : Around} {E : Value → Shared → Prop} {s : Shared} {h₀ : Heap} {L : Addr} {m : Str → Option Value} {env : Env} {I C D : Addr} {n : Nat} {P : Nat → Value → Prop} {St : Nat → Heap → Prop} {S : Led → Prop}
  {scope : Scope} {cl : List (Str × Addr)} {i : Nat} {m₂ : Str → Option Value} {ys : List Value} {news : Led} {R : Result → Shared → Prop}
theorem start_any {elt : Expr} {gens : List Comprehension} {g : Comprehension} {pos : Pos} {d : Nat} {it acc : Value} (hg : gens[d]? = some g) (ha : g.is_async = 0)
    (h0 : codeAny (model prog w) A (.compLoop (.ListComp elt gens scope pos) d it acc env) R s)
    (h : wpAny (model prog w) A (pyIter it) (fun it' s' => codeAny (model prog w) A (.compLoop (.ListComp elt gens scope pos) d it' acc env) R s') (notedBy (model prog w) A env fun x s' => R (.error x) s') s) :
    codeAny (model prog w) A (.compStart (.ListComp elt gens scope pos) d it acc env) R s := by
  refine codeAny_of_tree ?_
  show wpAny _ _ ((compStart (.ListComp elt gens scope pos) d it acc env).onRaise (fun x => do noteFrame x env; standAt theWindowsPlace)) _ _ s
  refine wpAny_notedAt ?_
  have e : compStart (.ListComp elt gens scope pos) d it acc env = (ask >>= fun r => if r.params.followText "comprehension-iter-twice" = true then again (.compLoop (.ListComp elt gens scope pos) d it acc env) else rule "comprehension.iter-twice" >>= fun _ => standAt g.iter.pos >>= fun _ => pyIter it >>= fun it' => again (.compLoop (.ListComp elt gens scope pos) d it' acc env)) := by
    unfold compStart
    have e1 : (clausesOf (.ListComp elt gens scope pos))[d]? = some g := hg
    rw [e1]
    simp only [Option.elim_some, ha, bne_self_eq_false, Bool.false_eq_true, if_false]
  rw [e]
  refine wpAny_bind (wpAny_askSetting ?_)
  split
  · exact wpAny_pure ⟨rfl, h0⟩
  · exact wpAny_bind (wpAny_rule (wpAny_bind (wpAny_standAt (wpAny_bind (wpAny_mono h (fun it' s' h' => wpAny_pure ⟨rfl, h'⟩) fun _ _ x => x)))))
theorem asg_name (K : Src prog w A h₀ L I n P St S) (ne : (@Ne Nat I C) ∧ (@Ne Nat I D) ∧ (@Ne Nat C D)) {x : Str} {px : Pos} {v : Value} {Q : Unit → Shared → Prop} (hx : scope.names.lookup x = some .local) (hkind : scope.kind = .function)
    (st : CSt h₀ L m St S I C D i m₂ ys news s.heap) (h : ∀ h' tk', CSt h₀ L m St S I C D i (fun z => if z = x then some v else m₂ z) ys news h' → Q () { s with heap := h', toks := tk' }) :
    wpAny (model prog w) A (assign (.Name x px) (compEnvC scope cl C env) v) Q E s := by
  obtain ⟨oI, oC, N, hoC⟩ := st.obj
  have zC := N _ (.tail _ (.head _))
  have zI := N _ (.head _)
  refine wpAny_assign_Name (wpAny_storeName_local (lookup_relabel_local hx) (hoC.ns zC.1) (fun h' hn hs => ?_) (by simp [compEnvC, relabel, hkind]))
  obtain ⟨oC', e, hoC'⟩ := ns_obj hn
  refine h h' _ (CSt.of K st.st zI.1 (st.fr.change hs zC.2.1 zC.2.2) (fun p hp => ?_) hoC' st.off st.s)
  rcases List.mem_cons.1 hp with rfl | hp
  · exact ⟨hs.extBut _ _ ne.1 zI.1, zI.2⟩
  · rcases List.mem_cons.1 hp with rfl | hp
    · exact ⟨e, zC.2⟩
    · have z := N p (.tail _ (.tail _ hp))
      refine ⟨hs.extBut _ _ ?_ z.1, z.2⟩
      rcases List.mem_cons.1 hp with rfl | hp
      · exact Ne.symm ne.2.2
      · exact (st.off.mem p hp).2.1
theorem emit_ok (K : Src prog w A h₀ L I n P St S) (ne : (@Ne Nat I C) ∧ (@Ne Nat I D) ∧ (@Ne Nat C D)) {elt : Expr} {Q : Unit → Shared → Prop} (_st : CSt h₀ L m St S I C D i m₂ ys news s.heap) (hsz : ys.length ≤ sizeLine)
    (h : wpAny (model prog w) A (eval elt (compEnvC scope cl C env)) (fun y s₁ => ∃ h₁ tk₁ news₁, s₁ = { s with heap := h₁, toks := tk₁ } ∧ CSt h₀ L m St S I C D i m₂ ys news₁ h₁ ∧ ∀ h₂ tk₂, CSt h₀ L m St S I C D i m₂ (ys ++ [y]) news₁ h₂ → Q () { s with heap := h₂, toks := tk₂ }) E s) :
    wpAny (model prog w) A (emit elt (.ref D) (compEnvC scope cl C env)) Q E s := by
  unfold emit
  refine wpAny_bind (wpAny_mono h (fun y s₁ h₁ => ?_) fun _ _ x => x)
  obtain ⟨h₁, tk₁, news₁, rfl, st, k⟩ := h₁
  obtain ⟨oI, oC, N, hoC⟩ := st.obj
  have zI := N _ (.head _)
  have zC := N _ (.tail _ (.head _))
  have zD := N _ (.tail _ (.tail _ (.head _)))
  refine wpAny_bind (append_at (hsz := by show ys.toArray.size ≤ sizeLine; rw [List.size_toArray]; exact hsz) zD.1 fun h₂ hs hD => wpAny_pure ?_)
  refine k h₂ tk₁ (CSt.of K st.st zI.1 (st.fr.change hs zD.2.1 zD.2.2) (fun p hp => ?_) hoC st.off st.s)
  rcases List.mem_cons.1 hp with rfl | hp
  · exact ⟨hs.extBut _ _ ne.2.1 zI.1, zI.2⟩
  · rcases List.mem_cons.1 hp with rfl | hp
    · exact ⟨hs.extBut _ _ ne.2.2 zC.1, zC.2⟩
    · rcases List.mem_cons.1 hp with rfl | hp
      · exact ⟨hD.trans (congrArg some (lst_snoc ys y)), zD.2⟩
      · have z := N p (.tail _ (.tail _ (.tail _ hp)))
        exact ⟨hs.extBut _ _ (st.off.mem p hp).2.2 z.1, z.2⟩
end
end
section
open PySem PySem.W PyProof.Rows PySem.Spec PySem.Calls PyProof.Rows.LCg
set_option Elab.async false
section
variable {prog : Program} {w : World} {A : Around} {E : Value → Shared → Prop} {s : Shared} {h₀ : Heap} {L : Addr} {m : Str → Option Value} {env : Env} {I C D : Addr} {n : Nat} {P : Nat → Value → Prop} {St : Nat → Heap → Prop} {S : Led → Prop}
  {scope : Scope} {cl : List (Str × Addr)} {i : Nat} {m₂ : Str → Option Value} {ys : List Value} {news : Led}
theorem more_any {elt iter : Expr} {gens : List Comprehension} {g : Comprehension} {pos : Pos} {d : Nat} {acc : Value} {Q : Unit → Shared → Prop} (hA : A.mark none = A) (hg : gens[d]? = some g) (ha : g.is_async = 0) (hs : ∀ x, foldedSetIterable iter env x = pure x)
    (h : wpAny (model prog w) A (eval iter env) (fun xv s₁ => wpAny (model prog w) A (pyIter xv) (fun it s₂ => (∀ (Q' : Value → Shared → Prop) (E' : Value → Shared → Prop), Q' it s₂ → wpAny (model prog w) A (pyIter it) Q' E' s₂) ∧
      ∀ R : Result → Shared → Prop, (∀ s', Q () s' → R (.ok .next) s') → codeAny (model prog w) A (.compLoop (.ListComp elt gens scope pos) d it acc env) R s₂) E s₁) E s) :
    wpAny (model prog w) A (more (.ListComp elt gens scope pos) d iter acc env) Q E s := by
  unfold more
  refine wpAny_bind (wpAny_mono h (fun xv s₁ h₁ => wpAny_bind (wpAny_standAt (wpAny_bind (wpAny_of_eq (hs xv) (wpAny_bind (wpAny_holding (wpAny_mono h₁ (fun it s₂ h₂ => ?_) fun _ _ x => x))))))) fun _ _ x => x)
  obtain ⟨hself, k⟩ := h₂
  refine wpAny_bind (wpAny_runOwn ?_)
  rw [hA]
  refine start_any hg ha (k _ fun s' hq => wpAny_pure hq) (hself _ _ (k _ fun s' hq => wpAny_pure hq))
theorem fresh_at {h : Heap} (F : Fr h₀ L h m) : h₀.get? h.objs.size = none := by
  cases e : h₀.get? h.objs.size with
  | none => rfl
  | some o' => exact absurd (Heap.lt_size (F.keep _ _ e)) (Nat.lt_irrefl _)
theorem into_list (hh : A.handled = none) (K : Src prog w A h₀ L I n P St S) (ne : (@Ne Nat I C) ∧ (@Ne Nat I D) ∧ (@Ne Nat C D)) (st : CSt h₀ L m St S I C D i m₂ ys news s.heap) {ax : Addr} {its : Array Value} (hsrc : SrcAt h₀ ax its news)
    {Q : Value → Shared → Prop}
    (h : ∀ I' oI, ((@Ne Nat I' C) ∧ (@Ne Nat I' D) ∧ (@Ne Nat C D)) → Src prog w A h₀ L I' its.size (fun i v => its[i]? = some v) (fun i h => h.IsListIter I' ax i ∧ h.IsList ax its) (SrcAt h₀ ax its) →
      (∀ h', CSt h₀ L m (fun i h => h.IsListIter I' ax i ∧ h.IsList ax its) (SrcAt h₀ ax its) I' C D 0 m₂ ys ((I, oI) :: news) h' →
      (∀ (Q' : Value → Shared → Prop) (E' : Value → Shared → Prop), Q' (.ref I') { s with heap := h' } → wpAny (model prog w) A (pyIter (.ref I')) Q' E' { s with heap := h' }) →
      (∀ h' m₂' ys' news', CEnd h₀ L m C D m₂' ys' ((I, oI) :: news') h' → S news' → (∀ p ∈ news', p.1 ≠ I) → CSt h₀ L m St S I C D i m₂' ys' news' h') → Q (.ref I') { s with heap := h' })) :
    wpAny (model prog w) A (pyIter (.ref ax)) Q E s := by
  obtain ⟨oI, oC, N, hoC⟩ := st.obj
  have zI := N _ (.head _)
  have NT : News h₀ L s.heap news := fun p hp => N p (.tail _ (.tail _ (.tail _ hp)))
  have hl := hsrc.list st.fr.keep NT
  have hlt : ax < s.heap.objs.size := by obtain ⟨_, e, _⟩ := hl; exact Heap.lt_size e
  have below : ∀ p ∈ ((I, oI) :: (C, oC) :: (D, lst ys) :: news : Led), p.1 ≠ s.heap.objs.size := fun p hp => Nat.ne_of_lt (Heap.lt_size (N p hp).1)
  refine wpAny_pyIter_list hl ?_
  have up : ∀ b o, s.heap.get? b = some o → (s.heap.push { cls := .type "list_iterator", data := .fields #[.ref ax, .int 0 0] }).get? b = some o := fun b o e => Heap.get?_push_of_some _ e
  have hne : ax ≠ s.heap.objs.size := Nat.ne_of_lt hlt
  refine h s.heap.objs.size oI ⟨Ne.symm (below _ (.tail _ (.head _))), Ne.symm (below _ (.tail _ (.tail _ (.head _)))), ne.2.2⟩ (Src.list hh hne) _ ⟨st.fr.keeps up, ⟨{ cls := .type "list_iterator", data := .fields #[.ref ax, .int 0 0] }, oC, fun p hp => ?_, hoC⟩, ⟨⟨_, Heap.get?_push_size _ rfl, rfl, rfl⟩, hl.push _⟩, Off3.of fun p hp => ?_, ?_⟩ (fun Q' E' hq => ?_) fun h' m₂' ys' news' z hS off => ?_
  · rcases List.mem_cons.1 hp with rfl | hp
    · exact ⟨Heap.get?_push_size _ rfl, Nat.ne_of_gt st.fr.ns.lt, fresh_at st.fr⟩
    · rcases List.mem_cons.1 hp with rfl | hp
      · have z := N _ (.tail _ (.head _)); exact ⟨up _ _ z.1, z.2⟩
      · rcases List.mem_cons.1 hp with rfl | hp
        · have z := N _ (.tail _ (.tail _ (.head _))); exact ⟨up _ _ z.1, z.2⟩
        · rcases List.mem_cons.1 hp with rfl | hp
          · exact ⟨up _ _ zI.1, zI.2⟩
          · have z := NT p hp; exact ⟨up _ _ z.1, z.2⟩
  · rcases List.mem_cons.1 hp with rfl | hp
    · exact ⟨below _ (.head _), ne.1, ne.2.1⟩
    · exact ⟨below _ (.tail _ (.tail _ (.tail _ hp))), (st.off.mem p hp).2⟩
  · rcases hsrc with h | ⟨o, hm, r⟩
    · exact .inl h
    · exact .inr ⟨o, .tail _ hm, r⟩
  · exact wpAny_pyIter_listiter ⟨_, Heap.get?_push_size _ rfl, rfl, rfl⟩ hq
  · obtain ⟨oC', N', hoC'⟩ := z.obj
    refine CSt.of K st.st zI.1 z.fr (fun p hp => ?_) hoC' (Off3.of fun p hp => ⟨off p hp, z.off p (.tail _ hp)⟩) hS
    rcases List.mem_cons.1 hp with rfl | hp
    · exact N' _ (.tail _ (.tail _ (.head _)))
    · rcases List.mem_cons.1 hp with rfl | hp
      · exact N' _ (.head _)
      · rcases List.mem_cons.1 hp with rfl | hp
        · exact N' _ (.tail _ (.head _))
        · exact N' _ (.tail _ (.tail _ (.tail _ hp)))
theorem into_range (hh : A.handled = none) (K : Src prog w A h₀ L I n P St S) (ne : (@Ne Nat I C) ∧ (@Ne Nat I D) ∧ (@Ne Nat C D)) (st : CSt h₀ L m St S I C D i m₂ ys news s.heap) {r : Addr} {a b : Int} {t u v : Tok} {n' : Nat} (hr : IsRange s.heap r a b 1 t u v) (hsm : Builtin.Range.small a b 1 = true) (hn : Builtin.Range.rangeSize a b 1 = ((n' : Nat) : Int))
    {Q : Value → Shared → Prop}
    (h : ∀ I' oI, ((@Ne Nat I' C) ∧ (@Ne Nat I' D) ∧ (@Ne Nat C D)) → Src prog w A h₀ L I' n' (fun i v => ∃ t, v = .int (a + (i : Int)) t) (fun i h => IsRangeIter h I' (a + (i : Nat) * 1) ((n' : Int) - (i : Nat)) 1) (fun _ => True) →
      (∀ h', CSt h₀ L m (fun i h => IsRangeIter h I' (a + (i : Nat) * 1) ((n' : Int) - (i : Nat)) 1) (fun _ => True) I' C D 0 m₂ ys ((I, oI) :: news) h' →
      (∀ (Q' : Value → Shared → Prop) (E' : Value → Shared → Prop), Q' (.ref I') { s with heap := h' } → wpAny (model prog w) A (pyIter (.ref I')) Q' E' { s with heap := h' }) →
      (∀ h' m₂' ys' news', CEnd h₀ L m C D m₂' ys' ((I, oI) :: news') h' → S news' → (∀ p ∈ news', p.1 ≠ I) → CSt h₀ L m St S I C D i m₂' ys' news' h') → Q (.ref I') { s with heap := h' })) :
    wpAny (model prog w) A (pyIter (.ref r)) Q E s := by
  obtain ⟨oI, oC, N, hoC⟩ := st.obj
  have zI := N _ (.head _)
  have NT : News h₀ L s.heap news := fun p hp => N p (.tail _ (.tail _ (.tail _ hp)))
  have below : ∀ p ∈ ((I, oI) :: (C, oC) :: (D, lst ys) :: news : Led), p.1 ≠ s.heap.objs.size := fun p hp => Nat.ne_of_lt (Heap.lt_size (N p hp).1)
  refine wpAny_pyIter_range hr hsm ?_
  have up : ∀ b' o, s.heap.get? b' = some o → (s.heap.push { cls := .type "range_iterator", data := .fields #[rawInt a, rawInt (Builtin.Range.rangeSize a b 1), rawInt 1] }).get? b' = some o := fun b o e => Heap.get?_push_of_some _ e
  have st0 : IsRangeIter (s.heap.push { cls := .type "range_iterator", data := .fields #[rawInt a, rawInt (Builtin.Range.rangeSize a b 1), rawInt 1] }) s.heap.objs.size (a + ((0 : Nat) : Int) * 1) ((n' : Int) - ((0 : Nat) : Int)) 1 := by
    show IsRangeIter _ _ _ _ _; rw [hn]; simpa using Heap.get?_push_size _ rfl
  refine h s.heap.objs.size oI ⟨Ne.symm (below _ (.tail _ (.head _))), Ne.symm (below _ (.tail _ (.tail _ (.head _)))), ne.2.2⟩ (Src.range hh a n') _ ⟨st.fr.keeps up, ⟨{ cls := .type "range_iterator", data := .fields #[rawInt a, rawInt (Builtin.Range.rangeSize a b 1), rawInt 1] }, oC, fun p hp => ?_, hoC⟩, st0, Off3.of fun p hp => ?_, trivial⟩ (fun Q' E' hq => ?_) fun h' m₂' ys' news' z hS off => ?_
  · rcases List.mem_cons.1 hp with rfl | hp
    · exact ⟨Heap.get?_push_size _ rfl, Nat.ne_of_gt st.fr.ns.lt, fresh_at st.fr⟩
    · rcases List.mem_cons.1 hp with rfl | hp
      · have z := N _ (.tail _ (.head _)); exact ⟨up _ _ z.1, z.2⟩
      · rcases List.mem_cons.1 hp with rfl | hp
        · have z := N _ (.tail _ (.tail _ (.head _))); exact ⟨up _ _ z.1, z.2⟩
        · rcases List.mem_cons.1 hp with rfl | hp
          · exact ⟨up _ _ zI.1, zI.2⟩
          · have z := NT p hp; exact ⟨up _ _ z.1, z.2⟩
  · rcases List.mem_cons.1 hp with rfl | hp
    · exact ⟨below _ (.head _), ne.1, ne.2.1⟩
    · exact ⟨below _ (.tail _ (.tail _ (.tail _ hp))), (st.off.mem p hp).2⟩
  · exact (range_walks hh a n').self 0 _ _ _ st0 hq
  · obtain ⟨oC', N', hoC'⟩ := z.obj
    refine CSt.of K st.st zI.1 z.fr (fun p hp => ?_) hoC' (Off3.of fun p hp => ⟨off p hp, z.off p (.tail _ hp)⟩) hS
    rcases List.mem_cons.1 hp with rfl | hp
    · exact N' _ (.tail _ (.tail _ (.head _)))
    · rcases List.mem_cons.1 hp with rfl | hp
      · exact N' _ (.head _)
      · rcases List.mem_cons.1 hp with rfl | hp
        · exact N' _ (.tail _ (.head _))
        · exact N' _ (.tail _ (.tail _ (.tail _ hp)))
end
end
section
open PySem PySem.W PyProof.Rows PySem.Spec PySem.Calls PyProof.Rows.LCg
set_option Elab.async false
section
variable {prog : Program} {w : World} {A : Around} {E : Value → Shared → Prop} {s : Shared} {h₀ : Heap} {L : Addr} {m : Str → Option Value} {env : Env}
  {scope : Scope} {cl : List (Str × Addr)}
noncomputable def CompAt (prog : Program) (w : World) (A : Around) (h₀ : Heap) (L : Addr) (m : Str → Option Value) (env : Env) (elt : Expr) (gens : List Comprehension) (scope : Scope) (cl : List (Str × Addr)) (pos : Pos) (mF : Addr → Str → Option Value) (Q : Value → Shared → Prop) (it : Value) (s₂ : Shared) : Prop :=
  ∃ (I : Addr) (n : Nat) (P : Nat → Value → Prop) (St : Nat → Heap → Prop) (S : Led → Prop) (news : Led) (oI : Obj) (Fin : List Value → Led → Prop), it = .ref I ∧ Src prog w A h₀ L I n P St S ∧ St 0 s₂.heap ∧ Fr h₀ L s₂.heap m ∧ News h₀ L s₂.heap ((I, oI) :: news) ∧ S news ∧ (∀ p ∈ news, p.1 ≠ I) ∧
    (∀ (C D : Addr) h tk (R : Result → Shared → Prop), ((@Ne Nat I C) ∧ (@Ne Nat I D) ∧ (@Ne Nat C D)) → CSt h₀ L m St S I C D 0 (fun _ => none) [] news h →
      (∀ h' tk' m₂ ys news', CEnd h₀ L m C D m₂ ys news' h' → Fin ys news' → R (.ok .next) { s₂ with heap := h', toks := tk' }) →
      codeAny (model prog w) A (.compLoop (.ListComp elt gens scope pos) 0 (.ref I) (.ref D) (compEnvC scope cl C env)) R { s₂ with heap := h, toks := tk }) ∧
    (∀ (D : Addr) ys news' h' tk', Fr h₀ L h' (mF D) → News h₀ L h' ((D, lst ys) :: news') → (∀ p ∈ news', p.1 ≠ D) → Fin ys news' → Q (.ref D) { s₂ with heap := h', toks := tk' })
theorem comp_any {elt : Expr} {g0 : Comprehension} {gs : List Comprehension} {pos : Pos} {Q : Value → Shared → Prop} (_F : Fr h₀ L s.heap m) (ha : g0.is_async = 0)
    (hclos : closureFor scope env = pure cl) (hcell : ∀ y ∈ scope.names, y.2 ≠ .cell) (hkind : scope.kind = .function)
    (hnames : ∀ y ∈ scope.names, y.2 = .local → scope.names.lookup y.1 = some .local)
    (h : wpAny (model prog w) A (eval g0.iter env) (fun xv s₁ => wpAny (model prog w) A (pyIter xv) (fun it s₂ => CompAt prog w A h₀ L m env elt (g0 :: gs) scope cl pos (fun _ => m) Q it s₂) E s₁) E s)
    (hs : ∀ x, foldedSetIterable g0.iter env x = pure x) :
    wpAny (model prog w) A (eval (.ListComp elt (g0 :: gs) scope pos) env) Q E s := by
  have e0 : eval (.ListComp elt (g0 :: gs) scope pos) env = comprehension (.ListComp elt (g0 :: gs) scope pos) scope env g0.iter.pos (newList []) false (eval g0.iter env) := by
    rw [eval_ListComp]
    obtain ⟨t0, i0, f0, a0⟩ := g0
    dsimp only at ha
    subst ha
    rfl
  rw [e0]
  refine wpAny_comprehension_free (use := none) (g := g0) (gs := gs) rfl hs hclos hkind hnames (wpAny_mono h (fun xv s₁ h₁ => wpAny_mono h₁ (fun it s₂ h₂ => ?_) fun _ _ e => e) fun _ _ e => e)
  obtain ⟨I, n, P, St, S, news, oI, Fin, rfl, K, st, F, N, hS, off, loop, fin⟩ := h₂
  obtain ⟨fp, W⟩ := K.walks
  refine wpAny_newObj_type (wpAny_newFunctionEnv hcell (by intro y hy; simp at hy) (fun h₁ hns₁ hsb₁ => ?_) hkind)
  dsimp only at hns₁ hsb₁ ⊢
  generalize hH2 : s₂.heap.push { cls := .type "list", dict := none, data := .seq ([] : List Value).toArray } = H2 at hns₁ hsb₁ ⊢
  have hC : H2.objs.size = s₂.heap.objs.size + 1 := by rw [← hH2, Heap.size_push]
  have hDC : s₂.heap.objs.size ≠ H2.objs.size := by rw [hC]; exact Nat.ne_of_lt (Nat.lt_succ_self _)
  have below : ∀ b, b < s₂.heap.objs.size → b ≠ H2.objs.size ∧ b ≠ s₂.heap.objs.size := fun b hb => ⟨by rw [hC]; exact Nat.ne_of_lt (Nat.lt_succ_of_lt hb), Nat.ne_of_lt hb⟩
  have old : ∀ b o, s₂.heap.get? b = some o → h₁.get? b = some o := fun b o e => hsb₁.extBut b o (below b (Heap.lt_size e)).1 (Heap.get?_push_of_some _ (hH2 ▸ Heap.get?_push_of_some _ e))
  have hacc : h₁.get? s₂.heap.objs.size = some (lst []) := hsb₁.extBut _ _ hDC (Heap.get?_push_of_some _ (hH2 ▸ Heap.get?_push_size _ rfl))
  have fresh : ∀ a, s₂.heap.objs.size ≤ a → s₂.heap.get? a = none := fun a ha => by
    cases e : s₂.heap.get? a with
    | none => rfl
    | some o' => exact absurd (Heap.lt_size e) (Nat.not_lt.mpr ha)
  have fresh₀ : ∀ a, s₂.heap.objs.size ≤ a → h₀.get? a = none := fun a ha => by
    cases e : h₀.get? a with
    | none => rfl
    | some o' => have := F.keep a o' e; rw [fresh a ha] at this; cases this
  have hD₀ : h₀.get? s₂.heap.objs.size = none := fresh₀ _ (Nat.le_refl _)
  have hC₀ : h₀.get? H2.objs.size = none := fresh₀ _ (by rw [hC]; exact Nat.le_succ _)
  have hLlt : L < s₂.heap.objs.size := F.ns.lt
  have hDL : s₂.heap.objs.size ≠ L := Ne.symm (below L hLlt).2
  have hCL : H2.objs.size ≠ L := Ne.symm (below L hLlt).1
  have zI := N _ (.head _)
  have hIlt : I < s₂.heap.objs.size := Heap.lt_size zI.1
  obtain ⟨oC, heC, hoC⟩ := ns_obj hns₁
  have ne : ((@Ne Nat I H2.objs.size) ∧ (@Ne Nat I s₂.heap.objs.size) ∧ (@Ne Nat H2.objs.size s₂.heap.objs.size)) := ⟨(below I hIlt).1, (below I hIlt).2, Ne.symm hDC⟩
  have cst : CSt h₀ L m St S I H2.objs.size s₂.heap.objs.size 0 (fun _ => none) [] news h₁ := by
    refine CSt.of K st zI.1 (F.keeps old) (fun p hp => ?_) hoC (Off3.of fun p hp => ⟨off p hp, (below _ (Heap.lt_size (N p (.tail _ hp)).1)).1, (below _ (Heap.lt_size (N p (.tail _ hp)).1)).2⟩) hS
    rcases List.mem_cons.1 hp with rfl | hp
    · exact ⟨old _ _ zI.1, zI.2⟩
    · rcases List.mem_cons.1 hp with rfl | hp
      · exact ⟨heC, hCL, hC₀⟩
      · rcases List.mem_cons.1 hp with rfl | hp
        · exact ⟨hacc, hDL, hD₀⟩
        · have z := N p (.tail _ hp); exact ⟨old _ _ z.1, z.2⟩
  have all : ∀ (R : Result → Shared → Prop), (∀ h' tk' m₂ ys news', CEnd h₀ L m H2.objs.size s₂.heap.objs.size m₂ ys news' h' → Fin ys news' → R (.ok .next) { s₂ with heap := h', toks := tk' }) →
      codeAny (model prog w) A (.compStart (.ListComp elt (g0 :: gs) scope pos) 0 (.ref I) (.ref s₂.heap.objs.size) (compEnvC scope cl H2.objs.size env)) R { s₂ with heap := h₁, toks := s₂.toks + ([] : List (Str × Value)).length } := fun R hR => by
    have l0 := loop H2.objs.size s₂.heap.objs.size h₁ (s₂.toks + ([] : List (Str × Value)).length) R ne cst hR
    exact start_any (g := g0) rfl ha l0 (W.self 0 _ _ _ cst.st l0)
  refine all _ fun h' tk' m₂ ys news' z hF => ?_
  obtain ⟨oC', N', hoC'⟩ := z.obj
  have zC := N' _ (.head _)
  refine ⟨m₂, hoC'.ns zC.1, fun h'' hs'' => fin s₂.heap.objs.size ys news' h'' tk' (z.fr.change hs'' hCL hC₀) (fun p hp => ?_) (fun p hp => (z.off p hp).2) hF⟩
  have q := N' p (.tail _ hp)
  refine ⟨hs''.extBut _ _ ?_ q.1, q.2⟩
  rcases List.mem_cons.1 hp with rfl | hp
  · exact hDC
  · exact (z.off p hp).1
theorem comp_assign {elt : Expr} {g0 : Comprehension} {gs : List Comprehension} {pos spos py : Pos} {y : Str} {Q : Flow → Shared → Prop} (_F : Fr h₀ L s.heap m) (hLe : env.locals = L) (ha : g0.is_async = 0) (hsw : swapsWith (.ListComp elt (g0 :: gs) scope pos) (some (.Name y py)) spos.line env = pure true) (hy : env.kindOf y = some .local) (hp : (env.scope.kind == .class || (env.scope.kind == .module && env.locals != env.globals)) = false)
    (hclos : closureFor scope env = pure cl) (hcell : ∀ y ∈ scope.names, y.2 ≠ .cell) (hkind : scope.kind = .function)
    (hnames : ∀ y ∈ scope.names, y.2 = .local → scope.names.lookup y.1 = some .local)
    (h : wpAny (model prog w) A (eval g0.iter env) (fun xv s₁ => wpAny (model prog w) A (pyIter xv) (fun it s₂ => CompAt prog w A h₀ L m env elt (g0 :: gs) scope cl pos (fun D z => if z = y then some (.ref D) else m z) (fun _ s' => Q .next s') it s₂) E s₁) E s)
    (hs : ∀ x, foldedSetIterable g0.iter env x = pure x) :
    wpAny (model prog w) A (exec (.Assign [.Name y py] (.ListComp elt (g0 :: gs) scope pos) spos) env) Q E s := by
  subst hLe
  rw [exec_Assign_Name_used _ _ _ _ hsw]
  refine wpAny_bind (wpAny_standAt (wpAny_bind ?_))
  have e0 : evalThenUse (.ListComp elt (g0 :: gs) scope pos) env (assign (.Name y py) env) = (comprehension (.ListComp elt (g0 :: gs) scope pos) scope env g0.iter.pos (newList []) false (eval g0.iter env) (some (assign (.Name y py) env)) >>= fun _ => pure ()) := by
    obtain ⟨t0, i0, f0, a0⟩ := g0
    dsimp only at ha
    subst ha
    rfl
  rw [e0]
  refine wpAny_bind (wpAny_mono (?_ : wpAny (model prog w) A _ (fun _ s' => Q .next s') E s) (fun _ s' hq => wpAny_pure (wpAny_pure hq)) fun _ _ e => e)
  refine wpAny_comprehension_free (use := some (assign (.Name y py) env)) (g := g0) (gs := gs) rfl hs hclos hkind hnames (wpAny_mono h (fun xv s₁ h₁ => wpAny_mono h₁ (fun it s₂ h₂ => ?_) fun _ _ e => e) fun _ _ e => e)
  obtain ⟨I, n, P, St, S, news, oI, Fin, rfl, K, st, F, N, hS, off, loop, fin⟩ := h₂
  obtain ⟨fp, W⟩ := K.walks
  refine wpAny_newObj_type (wpAny_newFunctionEnv hcell (by intro y hy; simp at hy) (fun h₁ hns₁ hsb₁ => ?_) hkind)
  dsimp only at hns₁ hsb₁ ⊢
  generalize hH2 : s₂.heap.push { cls := .type "list", dict := none, data := .seq ([] : List Value).toArray } = H2 at hns₁ hsb₁ ⊢
  have hC : H2.objs.size = s₂.heap.objs.size + 1 := by rw [← hH2, Heap.size_push]
  have hDC : s₂.heap.objs.size ≠ H2.objs.size := by rw [hC]; exact Nat.ne_of_lt (Nat.lt_succ_self _)
  have below : ∀ b, b < s₂.heap.objs.size → b ≠ H2.objs.size ∧ b ≠ s₂.heap.objs.size := fun b hb => ⟨by rw [hC]; exact Nat.ne_of_lt (Nat.lt_succ_of_lt hb), Nat.ne_of_lt hb⟩
  have old : ∀ b o, s₂.heap.get? b = some o → h₁.get? b = some o := fun b o e => hsb₁.extBut b o (below b (Heap.lt_size e)).1 (Heap.get?_push_of_some _ (hH2 ▸ Heap.get?_push_of_some _ e))
  have hacc : h₁.get? s₂.heap.objs.size = some (lst []) := hsb₁.extBut _ _ hDC (Heap.get?_push_of_some _ (hH2 ▸ Heap.get?_push_size _ rfl))
  have fresh : ∀ a, s₂.heap.objs.size ≤ a → s₂.heap.get? a = none := fun a ha => by
    cases e : s₂.heap.get? a with
    | none => rfl
    | some o' => exact absurd (Heap.lt_size e) (Nat.not_lt.mpr ha)
  have fresh₀ : ∀ a, s₂.heap.objs.size ≤ a → h₀.get? a = none := fun a ha => by
    cases e : h₀.get? a with
    | none => rfl
    | some o' => have := F.keep a o' e; rw [fresh a ha] at this; cases this
  have hD₀ : h₀.get? s₂.heap.objs.size = none := fresh₀ _ (Nat.le_refl _)
  have hC₀ : h₀.get? H2.objs.size = none := fresh₀ _ (by rw [hC]; exact Nat.le_succ _)
  have hLlt : env.locals < s₂.heap.objs.size := F.ns.lt
  have hDL : s₂.heap.objs.size ≠ env.locals := Ne.symm (below _ hLlt).2
  have hCL : H2.objs.size ≠ env.locals := Ne.symm (below _ hLlt).1
  have zI := N _ (.head _)
  have hIlt : I < s₂.heap.objs.size := Heap.lt_size zI.1
  obtain ⟨oC, heC, hoC⟩ := ns_obj hns₁
  have ne : ((@Ne Nat I H2.objs.size) ∧ (@Ne Nat I s₂.heap.objs.size) ∧ (@Ne Nat H2.objs.size s₂.heap.objs.size)) := ⟨(below I hIlt).1, (below I hIlt).2, Ne.symm hDC⟩
  have cst : CSt h₀ env.locals m St S I H2.objs.size s₂.heap.objs.size 0 (fun _ => none) [] news h₁ := by
    refine CSt.of K st zI.1 (F.keeps old) (fun p hp => ?_) hoC (Off3.of fun p hp => ⟨off p hp, (below _ (Heap.lt_size (N p (.tail _ hp)).1)).1, (below _ (Heap.lt_size (N p (.tail _ hp)).1)).2⟩) hS
    rcases List.mem_cons.1 hp with rfl | hp
    · exact ⟨old _ _ zI.1, zI.2⟩
    · rcases List.mem_cons.1 hp with rfl | hp
      · exact ⟨heC, hCL, hC₀⟩
      · rcases List.mem_cons.1 hp with rfl | hp
        · exact ⟨hacc, hDL, hD₀⟩
        · have z := N p (.tail _ hp); exact ⟨old _ _ z.1, z.2⟩
  have all : ∀ (R : Result → Shared → Prop), (∀ h' tk' m₂ ys news', CEnd h₀ env.locals m H2.objs.size s₂.heap.objs.size m₂ ys news' h' → Fin ys news' → R (.ok .next) { s₂ with heap := h', toks := tk' }) →
      codeAny (model prog w) A (.compStart (.ListComp elt (g0 :: gs) scope pos) 0 (.ref I) (.ref s₂.heap.objs.size) (compEnvC scope cl H2.objs.size env)) R { s₂ with heap := h₁, toks := s₂.toks + ([] : List (Str × Value)).length } := fun R hR => by
    have l0 := loop H2.objs.size s₂.heap.objs.size h₁ (s₂.toks + ([] : List (Str × Value)).length) R ne cst hR
    exact start_any (g := g0) rfl ha l0 (W.self 0 _ _ _ cst.st l0)
  refine all _ fun h' tk' m₂ ys news' z hF => ?_
  obtain ⟨oC', N', hoC'⟩ := z.obj
  have zC := N' _ (.head _)
  show wpAny _ A (assign (.Name y py) env (.ref s₂.heap.objs.size)) _ _ _
  refine wpAny_assign_Name (wpAny_storeName_local hy z.fr.ns (fun h₂ hn₂ hs₂ => ?_) hp)
  have hL₀ : h₀.get? env.locals = none := Heap.get?_none_of_le z.fr.above
  have F₂ : Fr h₀ env.locals h₂ (fun u => if u = y then some (.ref s₂.heap.objs.size) else m u) := ⟨hn₂, fun b o e => hs₂.extBut b o (fun q => by rw [q, hL₀] at e; cases e) (z.fr.keep b o e), z.fr.above⟩
  refine ⟨m₂, (hoC'.ns zC.1).sameBut hs₂ hCL, fun h'' hs'' => fin s₂.heap.objs.size ys news' h'' _ (F₂.change hs'' hCL hC₀) (fun p hp => ?_) (fun p hp => (z.off p hp).2) hF⟩
  have q := N' p (.tail _ hp)
  have q1 : h₂.get? p.1 = some p.2 := hs₂.extBut _ _ q.2.1 q.1
  refine ⟨hs''.extBut _ _ ?_ q1, q.2⟩
  rcases List.mem_cons.1 hp with rfl | hp
  · exact hDC
  · exact (z.off p hp).1
theorem src_list (hh : A.handled = none) {elt : Expr} {gens : List Comprehension} {pos : Pos} {mF : Addr → Str → Option Value} {Q : Value → Shared → Prop} {ax : Addr} {its : Array Value} {news : Led} (F : Fr h₀ L s.heap m) (N : News h₀ L s.heap news) (hsrc : SrcAt h₀ ax its news) (Fin : List Value → Led → Prop)
    (loop : ∀ I h' (C D : Addr) h tk (R : Result → Shared → Prop), (∀ p ∈ news, p.1 ≠ I) → Src prog w A h₀ L I its.size (fun i v => its[i]? = some v) (fun i h => h.IsListIter I ax i ∧ h.IsList ax its) (SrcAt h₀ ax its) →
      ((@Ne Nat I C) ∧ (@Ne Nat I D) ∧ (@Ne Nat C D)) → CSt h₀ L m (fun i h => h.IsListIter I ax i ∧ h.IsList ax its) (SrcAt h₀ ax its) I C D 0 (fun _ => none) [] news h →
      (∀ h'' tk' m₂ ys news', CEnd h₀ L m C D m₂ ys news' h'' → Fin ys news' → R (.ok .next) { s with heap := h'', toks := tk' }) →
      codeAny (model prog w) A (.compLoop (.ListComp elt gens scope pos) 0 (.ref I) (.ref D) (compEnvC scope cl C env)) R { { s with heap := h' } with heap := h, toks := tk })
    (fin : ∀ (D : Addr) ys news' h' tk', Fr h₀ L h' (mF D) → News h₀ L h' ((D, lst ys) :: news') → (∀ p ∈ news', p.1 ≠ D) → Fin ys news' → Q (.ref D) { s with heap := h', toks := tk' }) :
    wpAny (model prog w) A (pyIter (.ref ax)) (fun it s₂ => CompAt prog w A h₀ L m env elt gens scope cl pos mF Q it s₂) E s := by
  have hl := hsrc.list F.keep N
  have hlt : ax < s.heap.objs.size := by obtain ⟨_, e, _⟩ := hl; exact Heap.lt_size e
  have hne : ax ≠ s.heap.objs.size := Nat.ne_of_lt hlt
  have off : ∀ p ∈ news, p.1 ≠ s.heap.objs.size := fun p hp => Nat.ne_of_lt (Heap.lt_size (N p hp).1)
  refine wpAny_pyIter_list hl ?_
  have up : ∀ b o, s.heap.get? b = some o → (s.heap.push { cls := .type "list_iterator", data := .fields #[.ref ax, .int 0 0] }).get? b = some o := fun b o e => Heap.get?_push_of_some _ e
  refine ⟨s.heap.objs.size, _, _, _, _, news, { cls := .type "list_iterator", data := .fields #[.ref ax, .int 0 0] }, Fin, rfl, Src.list hh hne, ⟨⟨_, Heap.get?_push_size _ rfl, rfl, rfl⟩, hl.push _⟩, F.keeps up, fun p hp => ?_, hsrc, off, fun C D h tk R ne cst hR => loop _ _ C D h tk R off (Src.list hh hne) ne cst fun h'' tk' m₂ ys news' z hf => hR h'' tk' m₂ ys news' z hf, fun D ys news' h' tk' F' N' o f => fin D ys news' h' tk' F' N' o f⟩
  rcases List.mem_cons.1 hp with rfl | hp
  · exact ⟨Heap.get?_push_size _ rfl, Nat.ne_of_gt F.ns.lt, fresh_at F⟩
  · exact ⟨up _ _ (N p hp).1, (N p hp).2⟩
theorem src_range (hh : A.handled = none) {elt : Expr} {gens : List Comprehension} {pos : Pos} {mF : Addr → Str → Option Value} {Q : Value → Shared → Prop} {r : Addr} {a b : Int} {t u v : Tok} {n' : Nat} {news : Led} (F : Fr h₀ L s.heap m) (N : News h₀ L s.heap news) (hr : IsRange s.heap r a b 1 t u v) (hsm : Builtin.Range.small a b 1 = true) (hn : Builtin.Range.rangeSize a b 1 = ((n' : Nat) : Int)) (Fin : List Value → Led → Prop)
    (loop : ∀ I h' (C D : Addr) h tk (R : Result → Shared → Prop), (∀ p ∈ news, p.1 ≠ I) → Src prog w A h₀ L I n' (fun i v => ∃ t, v = .int (a + (i : Int)) t) (fun i h => IsRangeIter h I (a + (i : Nat) * 1) ((n' : Int) - (i : Nat)) 1) (fun _ => True) →
      ((@Ne Nat I C) ∧ (@Ne Nat I D) ∧ (@Ne Nat C D)) → CSt h₀ L m (fun i h => IsRangeIter h I (a + (i : Nat) * 1) ((n' : Int) - (i : Nat)) 1) (fun _ => True) I C D 0 (fun _ => none) [] news h →
      (∀ h'' tk' m₂ ys news', CEnd h₀ L m C D m₂ ys news' h'' → Fin ys news' → R (.ok .next) { s with heap := h'', toks := tk' }) →
      codeAny (model prog w) A (.compLoop (.ListComp elt gens scope pos) 0 (.ref I) (.ref D) (compEnvC scope cl C env)) R { { s with heap := h' } with heap := h, toks := tk })
    (fin : ∀ (D : Addr) ys news' h' tk', Fr h₀ L h' (mF D) → News h₀ L h' ((D, lst ys) :: news') → (∀ p ∈ news', p.1 ≠ D) → Fin ys news' → Q (.ref D) { s with heap := h', toks := tk' }) :
    wpAny (model prog w) A (pyIter (.ref r)) (fun it s₂ => CompAt prog w A h₀ L m env elt gens scope cl pos mF Q it s₂) E s := by
  have off : ∀ p ∈ news, p.1 ≠ s.heap.objs.size := fun p hp => Nat.ne_of_lt (Heap.lt_size (N p hp).1)
  refine wpAny_pyIter_range hr hsm ?_
  have up : ∀ b' o, s.heap.get? b' = some o → (s.heap.push { cls := .type "range_iterator", data := .fields #[rawInt a, rawInt (Builtin.Range.rangeSize a b 1), rawInt 1] }).get? b' = some o := fun b o e => Heap.get?_push_of_some _ e
  refine ⟨s.heap.objs.size, _, _, _, _, news, { cls := .type "range_iterator", data := .fields #[rawInt a, rawInt (Builtin.Range.rangeSize a b 1), rawInt 1] }, Fin, rfl, Src.range hh a n', ?_, F.keeps up, fun p hp => ?_, trivial, off, fun C D h tk R ne cst hR => loop _ _ C D h tk R off (Src.range hh a n') ne cst fun h'' tk' m₂ ys news' z hf => hR h'' tk' m₂ ys news' z hf, fun D ys news' h' tk' F' N' o f => fin D ys news' h' tk' F' N' o f⟩
  · show IsRangeIter _ _ _ _ _; rw [hn]; simpa using Heap.get?_push_size _ rfl
  rcases List.mem_cons.1 hp with rfl | hp
  · exact ⟨Heap.get?_push_size _ rfl, Nat.ne_of_gt F.ns.lt, fresh_at F⟩
  · exact ⟨up _ _ (N p hp).1, (N p hp).2⟩
theorem asg_tup3 (hh : A.handled = none) {I C D : Addr} {n : Nat} {P : Nat → Value → Prop} {St : Nat → Heap → Prop} {S : Led → Prop} {i : Nat} {m₂ : Str → Option Value} {ys : List Value} {news : Led} (K : Src prog w A h₀ L I n P St S) (ne : (@Ne Nat I C) ∧ (@Ne Nat I D) ∧ (@Ne Nat C D)) {x y z : Str} {px py pz pt : Pos} {kt : Nat} {T : Addr} {a b c : Value} {nt : Nat} {X : Sem Unit} {Q : Unit → Shared → Prop}
    (hx : scope.names.lookup x = some .local) (hy : scope.names.lookup y = some .local) (hz : scope.names.lookup z = some .local) (hkind : scope.kind = .function) (hI : ∃ l j, s.heap.IsListIter I l j) (hT : ∃ o, (T, o) ∈ news ∧ o.cls = .type "tuple" ∧ o.data = .seq #[a, b, c] nt)
    (st : CSt h₀ L m St S I C D i m₂ ys news s.heap)
    (h : ∀ h' tk', CSt h₀ L m St S I C D i (fun u => if u = z then some c else if u = y then some b else if u = x then some a else m₂ u) ys news h' → wpAny (model prog w) A X Q E { s with heap := h', toks := tk' }) :
    wpAny (model prog w) A (letOwnedTupleGo (.Tuple [.Name x px, .Name y py, .Name z pz] kt pt) (.ref I) (.ref T) >>= fun _ => assign (.Tuple [.Name x px, .Name y py, .Name z pz] kt pt) (compEnvC scope cl C env) (.ref T) >>= fun _ => X) Q E s := by
  obtain ⟨oI, oC, N, hoC⟩ := st.obj
  have zI := N _ (.head _)
  have zC := N _ (.tail _ (.head _))
  obtain ⟨oT, hm, hc, hd⟩ := hT
  have ht : IsTup s.heap T #[a, b, c] := ⟨oT, (N _ (.tail _ (.tail _ (.tail _ hm)))).1, hc, nt, hd⟩
  obtain ⟨l, j, hLi⟩ := hI
  refine wpAny_bind (wpAny_letOwnedTupleGo_listiter hLi ?_)
  refine wpAny_bind (assign_Tuple_tuple hh ht rfl rfl fun h₅ he => ?_)
  have he' : ∀ b o, s.heap.get? b = some o → h₅.get? b = some o := fun b o e => he b o (Nat.ne_of_lt (Heap.lt_size e)) e
  refine assignInOrder_cons (wpAny_assign_Name (wpAny_storeName_local (lookup_relabel_local hx) ((hoC.ns zC.1).at' fun o e => he' _ o e) (fun h₆ hn₆ hs₆ => ?_) (by simp [compEnvC, relabel, hkind])))
  refine assignInOrder_cons (wpAny_assign_Name (wpAny_storeName_local (lookup_relabel_local hy) hn₆ (fun h₇ hn₇ hs₇ => ?_) (by simp [compEnvC, relabel, hkind])))
  refine assignInOrder_cons (wpAny_assign_Name (wpAny_storeName_local (lookup_relabel_local hz) hn₇ (fun h₃ hn₃ hs₃ => ?_) (by simp [compEnvC, relabel, hkind])))
  refine assignInOrder_nil ?_
  have old3 : ∀ b o, b ≠ C → s.heap.get? b = some o → h₃.get? b = some o := fun b o hb e => hs₃.extBut b o hb (hs₇.extBut b o hb (hs₆.extBut b o hb (he' b o e)))
  obtain ⟨oC', e, hoC'⟩ := ns_obj hn₃
  refine h h₃ _ (CSt.of K st.st zI.1 ((((st.fr.keeps he').change hs₆ zC.2.1 zC.2.2).change hs₇ zC.2.1 zC.2.2).change hs₃ zC.2.1 zC.2.2) (fun p hp => ?_) hoC' st.off st.s)
  rcases List.mem_cons.1 hp with rfl | hp
  · exact ⟨old3 _ _ ne.1 zI.1, zI.2⟩
  · rcases List.mem_cons.1 hp with rfl | hp
    · exact ⟨e, zC.2⟩
    · have q := N p (.tail _ (.tail _ hp))
      refine ⟨old3 _ _ ?_ q.1, q.2⟩
      rcases List.mem_cons.1 hp with rfl | hp
      · exact Ne.symm ne.2.2
      · exact (st.off.mem p hp).2.1
end
end
section
open PySem PySem.W PyProof.Rows PySem.Spec PySem.Calls PyProof.Rows.LCg
set_option Elab.async false
section
variable {prog : Program} {w : World} {A : Around} {E : Value → Shared → Prop} {s : Shared} {h₀ : Heap} {L : Addr} {m : Str → Option Value} {env : Env}
  {scope : Scope} {cl : List (Str × Addr)}
theorem loop1 {elt iter : Expr} {x : Str} {px pos : Pos} {I C D : Addr} {n : Nat} {P : Nat → Value → Prop} {St : Nat → Heap → Prop} {S : Led → Prop} {R : Result → Shared → Prop} (hA : ∀ c, A.under (.compLoop (.ListComp elt [⟨.Name x px, iter, [], 0⟩] scope pos) 0 (.ref I) (.ref D) c) = A)
    (K : Src prog w A h₀ L I n P St S) (ne : (@Ne Nat I C) ∧ (@Ne Nat I D) ∧ (@Ne Nat C D)) (hx : scope.names.lookup x = some .local) (hkind : scope.kind = .function) (hsz : n ≤ sizeLine) (J : Nat → List Value → Led → Prop)
    (step : ∀ i v ys m₂ news h tk oI oC (Q' E' : Value → Shared → Prop), i < n → P i v → J i ys news → NsObj oC m₂ → m₂ x = some v → Fr h₀ L h m → News h₀ L h ((I, oI) :: (C, oC) :: (D, lst ys) :: news) → Off3 I C D news → S news → St (i + 1) h →
      (∀ y h' tk' news', Fr h₀ L h' m → News h₀ L h' ((I, oI) :: (C, oC) :: (D, lst ys) :: news') → Off3 I C D news' → S news' → J (i + 1) (ys ++ [y]) news' → Q' y { s with heap := h', toks := tk' }) →
      wpAny (model prog w) A (eval elt (compEnvC scope cl C env)) Q' E' { s with heap := h, toks := tk })
    {h : Heap} {tk : Nat} {m₂ : Str → Option Value} {news : Led} (st : CSt h₀ L m St S I C D 0 m₂ [] news h) (h0 : J 0 [] news)
    (fin : ∀ h' tk' m₂ ys news', CEnd h₀ L m C D m₂ ys news' h' → ys.length = n ∧ J n ys news' → R (.ok .next) { s with heap := h', toks := tk' }) :
    codeAny (model prog w) A (.compLoop (.ListComp elt [⟨.Name x px, iter, [], 0⟩] scope pos) 0 (.ref I) (.ref D) (compEnvC scope cl C env)) R { s with heap := h, toks := tk } := by
  refine lvl (X := emit elt) (target := .Name x px) (iter := iter) rfl (hA _) rfl (turn1 elt _ _ scope pos) K ne (fun i _ ys news => ys.length = i ∧ J i ys news) ?_ st ⟨rfl, h0⟩ (fun h tk m₂ ys news z hJ => fin h tk m₂ ys news z hJ)
  intro i v m₂ ys news h tk E' hi hP ⟨hl, hJ⟩ st
  refine wpAny_bind (wpAny_of_eq rfl (wpAny_bind (asg_name K ne hx hkind st fun h₁ tk₁ st₁ => ?_)))
  refine emit_ok K ne st₁ (Nat.le_trans (Nat.le_of_eq hl) (Nat.le_trans (Nat.le_of_lt hi) hsz)) ?_
  obtain ⟨oI, oC, N, hoC⟩ := st₁.obj
  refine step i v ys _ news h₁ tk₁ oI oC _ _ hi hP hJ hoC (by simp) st₁.fr N st₁.off st₁.s st₁.st fun y h' tk' news' F' N' off' S' J' => ?_
  refine ⟨h', tk', news', rfl, CSt.of K st₁.st (N _ (.head _)).1 F' N' hoC off' S', fun h₂ tk₂ z => ⟨h₂, tk₂, _, _, news', rfl, z, ?_, J'⟩⟩
  simp [hl]
theorem loopT {elt iter : Expr} {x y z : Str} {px py pz pt pos : Pos} {kt : Nat} {I C D ax : Addr} {n : Nat} {P : Nat → Value → Prop} {S : Led → Prop} {its : Array Value} {R : Result → Shared → Prop} (hh : A.handled = none) (hA : ∀ c, A.under (.compLoop (.ListComp elt [⟨.Tuple [.Name x px, .Name y py, .Name z pz] kt pt, iter, [], 0⟩] scope pos) 0 (.ref I) (.ref D) c) = A)
    (K : Src prog w A h₀ L I n P (fun i h => h.IsListIter I ax i ∧ h.IsList ax its) S) (ne : (@Ne Nat I C) ∧ (@Ne Nat I D) ∧ (@Ne Nat C D)) (hx : scope.names.lookup x = some .local) (hy : scope.names.lookup y = some .local) (hz : scope.names.lookup z = some .local) (hxy : x ≠ y) (hxz : x ≠ z) (hyz : y ≠ z) (hkind : scope.kind = .function) (hsz : n ≤ sizeLine) (J : Nat → List Value → Led → Prop)
    (tup : ∀ i v ys news, i < n → P i v → J i ys news → ∃ T a b c nt, v = .ref T ∧ ∃ o, (T, o) ∈ news ∧ o.cls = .type "tuple" ∧ o.data = .seq #[a, b, c] nt)
    (step : ∀ i T a b c nt ys m₂ news h tk oI oC (Q' E' : Value → Shared → Prop), i < n → P i (.ref T) → (∃ o, (T, o) ∈ news ∧ o.cls = .type "tuple" ∧ o.data = .seq #[a, b, c] nt) → J i ys news → NsObj oC m₂ → m₂ x = some a → m₂ y = some b → m₂ z = some c → Fr h₀ L h m → News h₀ L h ((I, oI) :: (C, oC) :: (D, lst ys) :: news) → Off3 I C D news → S news →
      (∀ y h' tk' news', Fr h₀ L h' m → News h₀ L h' ((I, oI) :: (C, oC) :: (D, lst ys) :: news') → Off3 I C D news' → S news' → J (i + 1) (ys ++ [y]) news' → Q' y { s with heap := h', toks := tk' }) →
      wpAny (model prog w) A (eval elt (compEnvC scope cl C env)) Q' E' { s with heap := h, toks := tk })
    {h : Heap} {tk : Nat} {m₂ : Str → Option Value} {news : Led} (st : CSt h₀ L m (fun i h => h.IsListIter I ax i ∧ h.IsList ax its) S I C D 0 m₂ [] news h) (h0 : J 0 [] news)
    (fin : ∀ h' tk' m₂ ys news', CEnd h₀ L m C D m₂ ys news' h' → ys.length = n ∧ J n ys news' → R (.ok .next) { s with heap := h', toks := tk' }) :
    codeAny (model prog w) A (.compLoop (.ListComp elt [⟨.Tuple [.Name x px, .Name y py, .Name z pz] kt pt, iter, [], 0⟩] scope pos) 0 (.ref I) (.ref D) (compEnvC scope cl C env)) R { s with heap := h, toks := tk } := by
  refine lvl (X := emit elt) (target := .Tuple [.Name x px, .Name y py, .Name z pz] kt pt) (iter := iter) rfl (hA _) rfl (turn1 elt _ _ scope pos) K ne (fun i _ ys news => ys.length = i ∧ J i ys news) ?_ st ⟨rfl, h0⟩ (fun h tk m₂ ys news z hJ => fin h tk m₂ ys news z hJ)
  intro i v m₂ ys news h tk E' hi hP ⟨hl, hJ⟩ st
  obtain ⟨T, a, b, c, nt, rfl, hT⟩ := tup i v ys news hi hP hJ
  refine asg_tup3 hh K ne hx hy hz hkind ⟨_, _, st.st.1⟩ hT st fun h₁ tk₁ st₁ => ?_
  refine emit_ok K ne st₁ (Nat.le_trans (Nat.le_of_eq hl) (Nat.le_trans (Nat.le_of_lt hi) hsz)) ?_
  obtain ⟨oI, oC, N, hoC⟩ := st₁.obj
  refine step i T a b c nt ys _ news h₁ tk₁ oI oC _ _ hi hP hT hJ hoC (by simp [hxy, hxz]) (by simp [hyz]) (by simp) st₁.fr N st₁.off st₁.s fun y h' tk' news' F' N' off' S' J' => ?_
  refine ⟨h', tk', news', rfl, CSt.of K st₁.st (N _ (.head _)).1 F' N' hoC off' S', fun h₂ tk₂ z => ⟨h₂, tk₂, _, _, news', rfl, z, ?_, J'⟩⟩
  simp [hl]
noncomputable def LevSrc (prog : Program) (w : World) (A : Around) (h₀ : Heap) (L : Addr) (m : Str → Option Value) (env : Env) (scope : Scope) (cl : List (Str × Addr)) (s : Shared) (iter : Expr) (n' : Nat) (P' : Nat → Value → Prop) (G : Led → Prop) : Prop :=
  ∀ (I C D : Addr) (n : Nat) (P : Nat → Value → Prop) (St : Nat → Heap → Prop) (S : Led → Prop) (i : Nat) (m₂ : Str → Option Value) (ys : List Value) (news : Led) (h : Heap) (tk : Nat) (Q E : Value → Shared → Prop),
    Src prog w A h₀ L I n P St S → ((@Ne Nat I C) ∧ (@Ne Nat I D) ∧ (@Ne Nat C D)) → CSt h₀ L m St S I C D i m₂ ys news h → G news →
    (∀ (I' : Addr) oI (St' : Nat → Heap → Prop) (S' : Led → Prop) h' tk', ((@Ne Nat I' C) ∧ (@Ne Nat I' D) ∧ (@Ne Nat C D)) → Src prog w A h₀ L I' n' P' St' S' → (∀ news', G news' → S' news') → CSt h₀ L m St' S' I' C D 0 m₂ ys ((I, oI) :: news) h' →
      (∀ (Q' : Value → Shared → Prop) (E' : Value → Shared → Prop), Q' (.ref I') { s with heap := h', toks := tk' } → wpAny (model prog w) A (pyIter (.ref I')) Q' E' { s with heap := h', toks := tk' }) →
      (∀ h' m₂' ys' news', CEnd h₀ L m C D m₂' ys' ((I, oI) :: news') h' → S news' → (∀ p ∈ news', p.1 ≠ I) → CSt h₀ L m St S I C D i m₂' ys' news' h') → Q (.ref I') { s with heap := h', toks := tk' }) →
    wpAny (model prog w) A (eval iter (compEnvC scope cl C env)) (fun xv s₁ => wpAny (model prog w) A (pyIter xv) Q E s₁) E { s with heap := h, toks := tk }
theorem LevSrc.list (hh : A.handled = none) {iter : Expr} {ax : Addr} {its : Array Value} {G : Led → Prop} (hG : ∀ news, G news → SrcAt h₀ ax its news) (hGc : ∀ x news, G news → G (x :: news))
    (ev : ∀ C m₂ ys news D I oI oC h tk (Q E : Value → Shared → Prop), NsObj oC m₂ → G news → Fr h₀ L h m → News h₀ L h ((I, oI) :: (C, oC) :: (D, lst ys) :: news) →
      (∀ tk', Q (.ref ax) { s with heap := h, toks := tk' }) → wpAny (model prog w) A (eval iter (compEnvC scope cl C env)) Q E { s with heap := h, toks := tk }) :
    LevSrc prog w A h₀ L m env scope cl s iter its.size (fun i v => its[i]? = some v) G := by
  intro I C D n P St S i m₂ ys news h tk Q E K ne st hg k
  obtain ⟨oI, oC, N, hoC⟩ := st.obj
  refine ev C m₂ ys news D I oI oC h tk _ _ hoC hg st.fr N fun tk' => ?_
  refine into_list hh K ne (s := { s with heap := h, toks := tk' }) st (hG _ hg) fun I' oI' ne' K' h' st' self back => ?_
  exact k I' oI' _ _ h' tk' ne' K' hG st' self back
theorem LevSrc.range (hh : A.handled = none) {iter : Expr} {a b : Int} {n' : Nat} {G : Led → Prop} (hsm : Builtin.Range.small a b 1 = true) (hn : Builtin.Range.rangeSize a b 1 = ((n' : Nat) : Int))
    (ev : ∀ C m₂ ys news D I oI oC h tk (Q E : Value → Shared → Prop), NsObj oC m₂ → G news → Fr h₀ L h m → News h₀ L h ((I, oI) :: (C, oC) :: (D, lst ys) :: news) →
      (∀ r t u v h' tk', IsRange h' r a b 1 t u v → Fr h₀ L h' m → News h₀ L h' ((I, oI) :: (C, oC) :: (D, lst ys) :: news) → Q (.ref r) { s with heap := h', toks := tk' }) → wpAny (model prog w) A (eval iter (compEnvC scope cl C env)) Q E { s with heap := h, toks := tk }) :
    LevSrc prog w A h₀ L m env scope cl s iter n' (fun i v => ∃ t, v = .int (a + (i : Int)) t) G := by
  intro I C D n P St S i m₂ ys news h tk Q E K ne st hg k
  obtain ⟨oI, oC, N, hoC⟩ := st.obj
  refine ev C m₂ ys news D I oI oC h tk _ _ hoC hg st.fr N fun r t u v h' tk' hr F' N' => ?_
  refine into_range hh K ne (s := { s with heap := h', toks := tk' }) (CSt.of K st.st (N _ (.head _)).1 F' N' hoC st.off st.s) hr hsm hn fun I' oI' ne' K' h' st' self back => ?_
  exact k I' oI' _ _ h' tk' ne' K' (fun _ _ => trivial) st' self back
end
end
section
open PySem PySem.W PyProof.Rows PySem.Spec PySem.Calls PyProof.Rows.LCg
set_option Elab.async false
section
variable {prog : Program} {w : World} {A : Around} {E : Value → Shared → Prop} {s : Shared} {h₀ : Heap} {L : Addr} {m : Str → Option Value} {env : Env}
  {scope : Scope} {cl : List (Str × Addr)}
theorem Off3.mem' {I C D : Addr} {l : Led} (h : Off3 I C D l) : ∀ p ∈ l, p.1 ≠ I ∧ p.1 ≠ C ∧ p.1 ≠ D := Off3.mem h
theorem loop3 {elt i0 i1 i2 : Expr} {x y z : Str} {px py pz pos : Pos} {I C D : Addr} {n0 n1 n2 : Nat} {P0 P1 P2 : Nat → Value → Prop} {St0 : Nat → Heap → Prop} {S0 G : Led → Prop} {R : Result → Shared → Prop}
    (hA : ∀ d it c, A.under (.compLoop (lc3 elt (.Name x px) i0 (.Name y py) i1 (.Name z pz) i2 scope pos) d it (.ref D) c) = A) (hAm : A.mark none = A)
    (K0 : Src prog w A h₀ L I n0 P0 St0 S0) (ne : (@Ne Nat I C) ∧ (@Ne Nat I D) ∧ (@Ne Nat C D)) (hx : scope.names.lookup x = some .local) (hy : scope.names.lookup y = some .local) (hz : scope.names.lookup z = some .local) (hxy : x ≠ y) (hxz : x ≠ z) (hyz : y ≠ z) (hkind : scope.kind = .function) (hsz : n0 * n1 * n2 ≤ sizeLine)
    (hs1 : ∀ env x, foldedSetIterable i1 env x = pure x) (hs2 : ∀ env x, foldedSetIterable i2 env x = pure x)
    (L1 : LevSrc prog w A h₀ L m env scope cl s i1 n1 P1 G) (L2 : LevSrc prog w A h₀ L m env scope cl s i2 n2 P2 G) (hGc : ∀ x news, G news → G (x :: news))
    (J : Nat → List Value → Led → Prop) (hJ : ∀ c ys news, J c ys news → G news ∧ S0 news)
    (step : ∀ i j k v0 v1 v2 ys m₂ news h tk I2 I1 oI oC o1 o0 (Q' E' : Value → Shared → Prop), i < n0 → j < n1 → k < n2 → P0 i v0 → P1 j v1 → P2 k v2 → J ((i * n1 + j) * n2 + k) ys news → NsObj oC m₂ → m₂ x = some v0 → m₂ y = some v1 → m₂ z = some v2 → Fr h₀ L h m → News h₀ L h ((I2, oI) :: (C, oC) :: (D, lst ys) :: (I1, o1) :: (I, o0) :: news) →
      (∀ p ∈ news, p.1 ≠ I2 ∧ p.1 ≠ C ∧ p.1 ≠ D ∧ p.1 ≠ I1 ∧ p.1 ≠ I) →
      (∀ u h' tk' news', Fr h₀ L h' m → News h₀ L h' ((I2, oI) :: (C, oC) :: (D, lst ys) :: (I1, o1) :: (I, o0) :: news') → (∀ p ∈ news', p.1 ≠ I2 ∧ p.1 ≠ C ∧ p.1 ≠ D ∧ p.1 ≠ I1 ∧ p.1 ≠ I) → J ((i * n1 + j) * n2 + k + 1) (ys ++ [u]) news' → Q' u { s with heap := h', toks := tk' }) →
      wpAny (model prog w) A (eval elt (compEnvC scope cl C env)) Q' E' { s with heap := h, toks := tk })
    {h : Heap} {tk : Nat} {m₂ : Str → Option Value} {news : Led} (st : CSt h₀ L m St0 S0 I C D 0 m₂ [] news h) (h0 : J 0 [] news)
    (fin : ∀ h' tk' m₂ ys news', CEnd h₀ L m C D m₂ ys news' h' → ys.length = n0 * n1 * n2 ∧ J (n0 * n1 * n2) ys news' → R (.ok .next) { s with heap := h', toks := tk' }) :
    codeAny (model prog w) A (.compLoop (lc3 elt (.Name x px) i0 (.Name y py) i1 (.Name z pz) i2 scope pos) 0 (.ref I) (.ref D) (compEnvC scope cl C env)) R { s with heap := h, toks := tk } := by
  refine lvl (X := more (lc3 elt (.Name x px) i0 (.Name y py) i1 (.Name z pz) i2 scope pos) 1 i1) (target := .Name x px) (iter := i0) rfl (hA _ _ _) rfl (turn3_0 elt _ _ _ _ _ _ scope pos) K0 ne (fun i _ ys news => ys.length = i * n1 * n2 ∧ J (i * n1 * n2) ys news) ?_ st ⟨by simp, by simpa using h0⟩ (fun h tk m₂ ys news z hJ => fin h tk m₂ ys news z hJ)
  intro i v0 m₂ ys news h tk E' hi hP0 ⟨hl, hJ0⟩ st
  refine wpAny_bind (wpAny_of_eq rfl (wpAny_bind (asg_name K0 ne hx hkind st fun h₁ tk₁ st₁ => ?_)))
  refine more_any hAm (g := ⟨.Name y py, i1, [], 0⟩) rfl rfl (hs1 _) ?_
  refine L1 I C D n0 P0 St0 S0 (i + 1) _ ys news h₁ tk₁ _ _ K0 ne st₁ (hJ _ _ _ hJ0).1 fun I1 o0 St1 S1 h2 tk2 ne1 K1 hS1 st2 self1 back1 => ⟨self1, fun R1 hR1 => ?_⟩
  refine lvl (X := more (lc3 elt (.Name x px) i0 (.Name y py) i1 (.Name z pz) i2 scope pos) 2 i2) (target := .Name y py) (iter := i1) rfl (hA _ _ _) rfl (turn3_1 elt _ _ _ _ _ _ scope pos) K1 ne1 (fun j m₂ ys news' => ∃ news, news' = (I, o0) :: news ∧ (∀ p ∈ news, p.1 ≠ I) ∧ m₂ x = some v0 ∧ ys.length = (i * n1 + j) * n2 ∧ J ((i * n1 + j) * n2) ys news) ?_ st2 ⟨news, rfl, fun p hp => (st₁.off.mem p hp).1, by simp, by simpa using hl, by simpa using hJ0⟩ ?_
  · intro j v1 m₃ ys1 news1 h tk E1 hj hP1 ⟨nw, hn1, off1, hm3, hl1, hJ1⟩ st3
    subst hn1
    refine wpAny_bind (wpAny_of_eq rfl (wpAny_bind (asg_name K1 ne1 hy hkind st3 fun h₁ tk₁ st4 => ?_)))
    refine more_any hAm (g := ⟨.Name z pz, i2, [], 0⟩) rfl rfl (hs2 _) ?_
    refine L2 I1 C D n1 P1 St1 S1 (j + 1) _ ys1 _ h₁ tk₁ _ _ K1 ne1 st4 (hGc _ _ (hJ _ _ _ hJ1).1) fun I2 o1 St2 S2 h5 tk5 ne2 K2 hS2 st5 self2 back2 => ⟨self2, fun R2 hR2 => ?_⟩
    refine lvl (X := emit elt) (target := .Name z pz) (iter := i2) rfl (hA _ _ _) rfl (turn3_2 elt _ _ _ _ _ _ scope pos) K2 ne2 (fun k m₂ ys news' => ∃ news, news' = (I1, o1) :: (I, o0) :: news ∧ (∀ p ∈ news, p.1 ≠ I1 ∧ p.1 ≠ I) ∧ I ≠ I1 ∧ m₂ x = some v0 ∧ m₂ y = some v1 ∧ ys.length = (i * n1 + j) * n2 + k ∧ J ((i * n1 + j) * n2 + k) ys news) ?_ st5 ⟨nw, rfl, fun p hp => ⟨(st4.off.mem p (.tail _ hp)).1, off1 p hp⟩, (st4.off.mem _ (.head _)).1, by simp [hxy, hm3], by simp, hl1, hJ1⟩ ?_
    · intro k v2 m₄ ys2 news2 h tk E2 hk hP2 ⟨nw2, hn2, off2, hII, hm4x, hm4y, hl2, hJ2⟩ st6
      subst hn2
      refine wpAny_bind (wpAny_of_eq rfl (wpAny_bind (asg_name K2 ne2 hz hkind st6 fun h₁ tk₁ st7 => ?_)))
      have hsz2 : ys2.length ≤ sizeLine := by
        have e1 : (i * n1 + j) * n2 + k ≤ n0 * n1 * n2 := by
          have a1 : i * n1 + j + 1 ≤ n0 * n1 := by
            have : (i + 1) * n1 ≤ n0 * n1 := Nat.mul_le_mul_right _ hi
            rw [Nat.succ_mul] at this
            omega
          have a2 : (i * n1 + j + 1) * n2 ≤ n0 * n1 * n2 := Nat.mul_le_mul_right _ a1
          rw [Nat.succ_mul] at a2
          omega
        exact Nat.le_trans (Nat.le_of_eq hl2) (Nat.le_trans e1 hsz)
      refine emit_ok K2 ne2 st7 hsz2 ?_
      obtain ⟨oI, oC, N, hoC⟩ := st7.obj
      have o7 := st7.off.mem
      refine step i j k v0 v1 v2 ys2 _ nw2 h₁ tk₁ I2 I1 oI oC o1 o0 _ _ hi hj hk hP0 hP1 hP2 hJ2 hoC (by simp [hxz, hm4x]) (by simp [hyz, hm4y]) (by simp) st7.fr N (fun p hp => ⟨(o7 p (.tail _ (.tail _ hp))).1, (o7 p (.tail _ (.tail _ hp))).2.1, (o7 p (.tail _ (.tail _ hp))).2.2, off2 p hp⟩) fun u h' tk' news' F' N' off' J' => ?_
      have off8 : Off3 I2 C D ((I1, o1) :: (I, o0) :: news') := Off3.of fun p hp => by
        rcases List.mem_cons.1 hp with rfl | hp
        · exact o7 _ (.head _)
        · rcases List.mem_cons.1 hp with rfl | hp
          · exact o7 _ (.tail _ (.head _))
          · exact ⟨(off' p hp).1, (off' p hp).2.1, (off' p hp).2.2.1⟩
      refine ⟨h', tk', _, rfl, CSt.of K2 st7.st (N _ (.head _)).1 F' N' hoC off8 (hS2 _ (hGc _ _ (hGc _ _ (hJ _ _ _ J').1))), fun h₂ tk₂ z2 => ⟨h₂, tk₂, _, _, _, rfl, z2, news', rfl, fun p hp => (off' p hp).2.2.2, hII, by simp [hxz, hm4x], by simp [hyz, hm4y], by simp [hl2]; omega, J'⟩⟩
    · intro h tk m₄ ys2 news2 z2 ⟨nw2, hn2, off2, hII, hm4x, hm4y, hl2, hJ2⟩
      subst hn2
      have e2 : (i * n1 + j) * n2 + n2 = (i * n1 + (j + 1)) * n2 := by rw [← Nat.succ_mul]; rfl
      rw [e2] at hl2 hJ2
      refine hR2 _ ⟨h, tk, m₄, ys2, _, rfl, back2 h m₄ ys2 _ z2 (hS1 _ (hGc _ _ (hJ _ _ _ hJ2).1)) (List.forall_mem_cons.2 ⟨hII, fun p hp => (off2 p hp).1⟩), nw2, rfl, fun p hp => (off2 p hp).2, hm4x, hl2, hJ2⟩
  · intro h tk m₃ ys1 news1 z1 ⟨nw, hn1, off1, hm3, hl1, hJ1⟩
    subst hn1
    have e1 : (i * n1 + n1) * n2 = (i + 1) * n1 * n2 := by rw [← Nat.succ_mul]
    rw [e1] at hl1 hJ1
    exact hR1 _ ⟨h, tk, m₃, ys1, nw, rfl, back1 h m₃ ys1 nw z1 (hJ _ _ _ hJ1).2 off1, hl1, hJ1⟩
end
end
section
open PySem PySem.W PyProof.Rows PySem.Spec PySem.Calls
set_option Elab.async false
noncomputable abbrev envW (L fa : Addr) (cd : Value) : Env := envOfC (Str.ofString "law") d_law.1.2.2 L fa cd
noncomputable abbrev AW (L fa : Addr) (cd : Value) : Around := callerA.deeper (envW L fa cd)
noncomputable abbrev lb0 : { x : Stmt // d_law.1.2.1[0]? = some x } := ⟨_, rfl⟩
noncomputable abbrev lb1 : { x : Stmt // d_law.1.2.1[1]? = some x } := ⟨_, rfl⟩
noncomputable abbrev lb2 : { x : Stmt // d_law.1.2.1[2]? = some x } := ⟨_, rfl⟩
noncomputable abbrev lb3 : { x : Stmt // d_law.1.2.1[3]? = some x } := ⟨_, rfl⟩
noncomputable abbrev lb4 : { x : Stmt // d_law.1.2.1[4]? = some x } := ⟨_, rfl⟩
noncomputable abbrev lb5 : { x : Stmt // d_law.1.2.1[5]? = some x } := ⟨_, rfl⟩
noncomputable abbrev lb6 : { x : Stmt // d_law.1.2.1[6]? = some x } := ⟨_, rfl⟩
noncomputable abbrev lb7 : { x : Stmt // d_law.1.2.1[7]? = some x } := ⟨_, rfl⟩
noncomputable abbrev lb8 : { x : Stmt // d_law.1.2.1[8]? = some x } := ⟨_, rfl⟩
noncomputable abbrev lb9 : { x : Stmt // d_law.1.2.1[9]? = some x } := ⟨_, rfl⟩
noncomputable abbrev lb10 : { x : Stmt // d_law.1.2.1[10]? = some x } := ⟨_, rfl⟩
noncomputable abbrev lb11 : { x : Stmt // d_law.1.2.1[11]? = some x } := ⟨_, rfl⟩
noncomputable abbrev lb12 : { x : Stmt // d_law.1.2.1[12]? = some x } := ⟨_, rfl⟩
noncomputable abbrev lb13 : { x : Stmt // d_law.1.2.1[13]? = some x } := ⟨_, rfl⟩
noncomputable abbrev lb14 : { x : Stmt // d_law.1.2.1[14]? = some x } := ⟨_, rfl⟩
noncomputable abbrev lb15 : { x : Stmt // d_law.1.2.1[15]? = some x } := ⟨_, rfl⟩
noncomputable abbrev lb16 : { x : Stmt // d_law.1.2.1[16]? = some x } := ⟨_, rfl⟩
noncomputable abbrev mapL (v_script v_drawn v_first v_second v_third v_last v_words v_counts v_places v_told v_lamps v_base v_wholes : Option Value) : Str → Option Value := fun y => if y = Str.ofString "script" then v_script else if y = Str.ofString "drawn" then v_drawn else if y = Str.ofString "first" then v_first else if y = Str.ofString "second" then v_second else if y = Str.ofString "third" then v_third else if y = Str.ofString "last" then v_last else if y = Str.ofString "words" then v_words else if y = Str.ofString "counts" then v_counts else if y = Str.ofString "places" then v_places else if y = Str.ofString "told" then v_told else if y = Str.ofString "lamps" then v_lamps else if y = Str.ofString "base" then v_base else if y = Str.ofString "wholes" then v_wholes else none
theorem mapL_drawn {v v_script v_drawn v_first v_second v_third v_last v_words v_counts v_places v_told v_lamps v_base v_wholes : Option Value} : (fun y => if y = Str.ofString "drawn" then v else mapL v_script v_drawn v_first v_second v_third v_last v_words v_counts v_places v_told v_lamps v_base v_wholes y) = mapL v_script v v_first v_second v_third v_last v_words v_counts v_places v_told v_lamps v_base v_wholes := by
  funext y
  by_cases h : y = Str.ofString "drawn"
  · subst h; rfl
  · simp only [mapL, if_neg h]
theorem mapL_words {v v_script v_drawn v_first v_second v_third v_last v_words v_counts v_places v_told v_lamps v_base v_wholes : Option Value} : (fun y => if y = Str.ofString "words" then v else mapL v_script v_drawn v_first v_second v_third v_last v_words v_counts v_places v_told v_lamps v_base v_wholes y) = mapL v_script v_drawn v_first v_second v_third v_last v v_counts v_places v_told v_lamps v_base v_wholes := by
  funext y
  by_cases h : y = Str.ofString "words"
  · subst h; rfl
  · simp only [mapL, if_neg h]
theorem mapL_counts {v v_script v_drawn v_first v_second v_third v_last v_words v_counts v_places v_told v_lamps v_base v_wholes : Option Value} : (fun y => if y = Str.ofString "counts" then v else mapL v_script v_drawn v_first v_second v_third v_last v_words v_counts v_places v_told v_lamps v_base v_wholes y) = mapL v_script v_drawn v_first v_second v_third v_last v_words v v_places v_told v_lamps v_base v_wholes := by
  funext y
  by_cases h : y = Str.ofString "counts"
  · subst h; rfl
  · simp only [mapL, if_neg h]
theorem mapL_places {v v_script v_drawn v_first v_second v_third v_last v_words v_counts v_places v_told v_lamps v_base v_wholes : Option Value} : (fun y => if y = Str.ofString "places" then v else mapL v_script v_drawn v_first v_second v_third v_last v_words v_counts v_places v_told v_lamps v_base v_wholes y) = mapL v_script v_drawn v_first v_second v_third v_last v_words v_counts v v_told v_lamps v_base v_wholes := by
  funext y
  by_cases h : y = Str.ofString "places"
  · subst h; rfl
  · simp only [mapL, if_neg h]
theorem mapL_told {v v_script v_drawn v_first v_second v_third v_last v_words v_counts v_places v_told v_lamps v_base v_wholes : Option Value} : (fun y => if y = Str.ofString "told" then v else mapL v_script v_drawn v_first v_second v_third v_last v_words v_counts v_places v_told v_lamps v_base v_wholes y) = mapL v_script v_drawn v_first v_second v_third v_last v_words v_counts v_places v v_lamps v_base v_wholes := by
  funext y
  by_cases h : y = Str.ofString "told"
  · subst h; rfl
  · simp only [mapL, if_neg h]
theorem mapL_lamps {v v_script v_drawn v_first v_second v_third v_last v_words v_counts v_places v_told v_lamps v_base v_wholes : Option Value} : (fun y => if y = Str.ofString "lamps" then v else mapL v_script v_drawn v_first v_second v_third v_last v_words v_counts v_places v_told v_lamps v_base v_wholes y) = mapL v_script v_drawn v_first v_second v_third v_last v_words v_counts v_places v_told v v_base v_wholes := by
  funext y
  by_cases h : y = Str.ofString "lamps"
  · subst h; rfl
  · simp only [mapL, if_neg h]
theorem mapL_base {v v_script v_drawn v_first v_second v_third v_last v_words v_counts v_places v_told v_lamps v_base v_wholes : Option Value} : (fun y => if y = Str.ofString "base" then v else mapL v_script v_drawn v_first v_second v_third v_last v_words v_counts v_places v_told v_lamps v_base v_wholes y) = mapL v_script v_drawn v_first v_second v_third v_last v_words v_counts v_places v_told v_lamps v v_wholes := by
  funext y
  by_cases h : y = Str.ofString "base"
  · subst h; rfl
  · simp only [mapL, if_neg h]
theorem mapL_wholes {v v_script v_drawn v_first v_second v_third v_last v_words v_counts v_places v_told v_lamps v_base v_wholes : Option Value} : (fun y => if y = Str.ofString "wholes" then v else mapL v_script v_drawn v_first v_second v_third v_last v_words v_counts v_places v_told v_lamps v_base v_wholes y) = mapL v_script v_drawn v_first v_second v_third v_last v_words v_counts v_places v_told v_lamps v_base v := by
  funext y
  by_cases h : y = Str.ofString "wholes"
  · subst h; rfl
  · simp only [mapL, if_neg h]
noncomputable def NoCell (o : Obj) : Prop := ∀ v, o.data ≠ .cell v
noncomputable abbrev cells6 (L : Nat) (o1 o2 o3 o4 o5 o6 : Obj) (news : Led) : Led := (L + 1 + 1 + 1 + 1 + 1 + 1, o6) :: (L + 1 + 1 + 1 + 1 + 1, o5) :: (L + 1 + 1 + 1 + 1, o4) :: (L + 1 + 1 + 1, o3) :: (L + 1 + 1, o2) :: (L + 1, o1) :: news
noncomputable def Off6 (L : Nat) (news : Led) : Prop := ∀ q ∈ news, @Ne Nat q.1 (L + 1) ∧ @Ne Nat q.1 (L + 1 + 1) ∧ @Ne Nat q.1 (L + 1 + 1 + 1) ∧ @Ne Nat q.1 (L + 1 + 1 + 1 + 1) ∧ @Ne Nat q.1 (L + 1 + 1 + 1 + 1 + 1) ∧ @Ne Nat q.1 (L + 1 + 1 + 1 + 1 + 1 + 1)
structure LawS (L : Nat) (g : Heap) (m : Str → Option Value) (c1 c2 c3 c4 c5 c6 : Option Value) (news : Led) (h : Heap) : Prop where
  fr : Fr g L h m
  obj : ∃ o1 o2 o3 o4 o5 o6 : Obj, News g L h (cells6 L o1 o2 o3 o4 o5 o6 news) ∧ o1.data = .cell c1 ∧ o2.data = .cell c2 ∧ o3.data = .cell c3 ∧ o4.data = .cell c4 ∧ o5.data = .cell c5 ∧ o6.data = .cell c6
  off : Off6 L news
theorem off_data {g h : Heap} {L a b : Addr} {o o' : Obj} {l : Led} {v : Option Value} (N : News g L h l) (ha : (a, o) ∈ l) (hb : (b, o') ∈ l) (hn : NoCell o) (hd : o'.data = .cell v) : a ≠ b := fun e => by
  have h1 := (N _ ha).1
  have h2 := (N _ hb).1
  dsimp only at h1 h2
  rw [e, h2] at h1
  exact hn v ((congrArg Obj.data (Option.some.inj h1)).symm.trans hd)
theorem off6_new {L : Nat} {g h : Heap} {o1 o2 o3 o4 o5 o6 : Obj} {c1 c2 c3 c4 c5 c6 : Option Value} {old : Led} (add : Led) (N : News g L h (cells6 L o1 o2 o3 o4 o5 o6 (add ++ old))) (d1 : o1.data = .cell c1) (d2 : o2.data = .cell c2) (d3 : o3.data = .cell c3) (d4 : o4.data = .cell c4) (d5 : o5.data = .cell c5) (d6 : o6.data = .cell c6)
    (hn : ∀ q ∈ add, NoCell q.2) (hold : Off6 L old) : Off6 L (add ++ old) := fun q hq => by
  rcases List.mem_append.1 hq with h | h
  · have hm : q ∈ cells6 L o1 o2 o3 o4 o5 o6 (add ++ old) := .tail _ (.tail _ (.tail _ (.tail _ (.tail _ (.tail _ hq)))))
    exact ⟨off_data N hm (.tail _ (.tail _ (.tail _ (.tail _ (.tail _ (.head _)))))) (hn q h) d1, off_data N hm (.tail _ (.tail _ (.tail _ (.tail _ (.head _))))) (hn q h) d2, off_data N hm (.tail _ (.tail _ (.tail _ (.head _)))) (hn q h) d3,
      off_data N hm (.tail _ (.tail _ (.head _))) (hn q h) d4, off_data N hm (.tail _ (.head _)) (hn q h) d5, off_data N hm (.head _) (hn q h) d6⟩
  · exact hold q h
theorem LawS.of {L : Nat} {g h : Heap} {m : Str → Option Value} {o1 o2 o3 o4 o5 o6 : Obj} {c1 c2 c3 c4 c5 c6 : Option Value} {old : Led} (add : Led) (F : Fr g L h m) (N : News g L h (cells6 L o1 o2 o3 o4 o5 o6 (add ++ old))) (d1 : o1.data = .cell c1) (d2 : o2.data = .cell c2) (d3 : o3.data = .cell c3) (d4 : o4.data = .cell c4) (d5 : o5.data = .cell c5) (d6 : o6.data = .cell c6)
    (hn : ∀ q ∈ add, NoCell q.2) (hold : Off6 L old) : LawS L g m c1 c2 c3 c4 c5 c6 (add ++ old) h := ⟨F, ⟨o1, o2, o3, o4, o5, o6, N, d1, d2, d3, d4, d5, d6⟩, off6_new add N d1 d2 d3 d4 d5 d6 hn hold⟩
theorem LawS.sub {L : Nat} {g h : Heap} {m : Str → Option Value} {c1 c2 c3 c4 c5 c6 : Option Value} {a b : Led} (x : LawS L g m c1 c2 c3 c4 c5 c6 a h) (hs : ∀ q ∈ b, q ∈ a) : LawS L g m c1 c2 c3 c4 c5 c6 b h := by
  obtain ⟨o1, o2, o3, o4, o5, o6, N, d⟩ := x.obj
  refine ⟨x.fr, ⟨o1, o2, o3, o4, o5, o6, News.sub N fun q hq => ?_, d⟩, fun q hq => x.off q (hs q hq)⟩
  simp only [cells6, List.mem_cons] at hq ⊢
  rcases hq with h | h | h | h | h | h | h
  case inr.inr.inr.inr.inr.inr => exact .inr (.inr (.inr (.inr (.inr (.inr (hs q h))))))
  all_goals simp only [h, true_or, or_true]
theorem noCell_list {a : Array Value} {k : Nat} : NoCell (listOf a k) := fun _ h => by cases h
theorem noCell_tup {a : Array Value} {k : Nat} : NoCell { cls := .type "tuple", data := .seq a k } := fun _ h => by cases h
theorem cells_front {L : Nat} {g h : Heap} {o1 o2 o3 o4 o5 o6 : Obj} {news : Led} (add : Led) (N : News g L h (add ++ cells6 L o1 o2 o3 o4 o5 o6 news)) : News g L h (cells6 L o1 o2 o3 o4 o5 o6 (add ++ news)) := News.sub N fun q hq => by
  simp only [cells6, List.mem_append, List.mem_cons] at hq ⊢
  rcases hq with h | h | h | h | h | h | h | h <;> simp only [h, true_or, or_true]
theorem upd1 {L : Nat} {o1 o2 o3 o4 o5 o6 : Obj} {news : Led} (hn : Off6 L news) : UpdF (L + 1) o1 (cells6 L o1 o2 o3 o4 o5 o6 news) (fun o => cells6 L o o2 o3 o4 o5 o6 news) := by
  refine UpdF.tail (show (L + 1 + 1 + 1 + 1 + 1 + 1 : Nat) ≠ L + 1 by omega) (UpdF.tail (show (L + 1 + 1 + 1 + 1 + 1 : Nat) ≠ L + 1 by omega) (UpdF.tail (show (L + 1 + 1 + 1 + 1 : Nat) ≠ L + 1 by omega) (UpdF.tail (show (L + 1 + 1 + 1 : Nat) ≠ L + 1 by omega) (UpdF.tail (show (L + 1 + 1 : Nat) ≠ L + 1 by omega) (UpdF.head fun q hq => ?_)))))
  exact (hn q hq).1
theorem upd2 {L : Nat} {o1 o2 o3 o4 o5 o6 : Obj} {news : Led} (hn : Off6 L news) : UpdF (L + 1 + 1) o2 (cells6 L o1 o2 o3 o4 o5 o6 news) (fun o => cells6 L o1 o o3 o4 o5 o6 news) := by
  refine UpdF.tail (show (L + 1 + 1 + 1 + 1 + 1 + 1 : Nat) ≠ L + 1 + 1 by omega) (UpdF.tail (show (L + 1 + 1 + 1 + 1 + 1 : Nat) ≠ L + 1 + 1 by omega) (UpdF.tail (show (L + 1 + 1 + 1 + 1 : Nat) ≠ L + 1 + 1 by omega) (UpdF.tail (show (L + 1 + 1 + 1 : Nat) ≠ L + 1 + 1 by omega) (UpdF.head fun q hq => ?_))))
  simp only [List.mem_cons] at hq
  rcases hq with rfl | hq
  · exact (by omega : L + 1 ≠ L + 1 + 1)
  · exact (hn q hq).2.1
theorem upd3 {L : Nat} {o1 o2 o3 o4 o5 o6 : Obj} {news : Led} (hn : Off6 L news) : UpdF (L + 1 + 1 + 1) o3 (cells6 L o1 o2 o3 o4 o5 o6 news) (fun o => cells6 L o1 o2 o o4 o5 o6 news) := by
  refine UpdF.tail (show (L + 1 + 1 + 1 + 1 + 1 + 1 : Nat) ≠ L + 1 + 1 + 1 by omega) (UpdF.tail (show (L + 1 + 1 + 1 + 1 + 1 : Nat) ≠ L + 1 + 1 + 1 by omega) (UpdF.tail (show (L + 1 + 1 + 1 + 1 : Nat) ≠ L + 1 + 1 + 1 by omega) (UpdF.head fun q hq => ?_)))
  simp only [List.mem_cons] at hq
  rcases hq with rfl | rfl | hq
  · exact (by omega : L + 1 + 1 ≠ L + 1 + 1 + 1)
  · exact (by omega : L + 1 ≠ L + 1 + 1 + 1)
  · exact (hn q hq).2.2.1
theorem upd4 {L : Nat} {o1 o2 o3 o4 o5 o6 : Obj} {news : Led} (hn : Off6 L news) : UpdF (L + 1 + 1 + 1 + 1) o4 (cells6 L o1 o2 o3 o4 o5 o6 news) (fun o => cells6 L o1 o2 o3 o o5 o6 news) := by
  refine UpdF.tail (show (L + 1 + 1 + 1 + 1 + 1 + 1 : Nat) ≠ L + 1 + 1 + 1 + 1 by omega) (UpdF.tail (show (L + 1 + 1 + 1 + 1 + 1 : Nat) ≠ L + 1 + 1 + 1 + 1 by omega) (UpdF.head fun q hq => ?_))
  simp only [List.mem_cons] at hq
  rcases hq with rfl | rfl | rfl | hq
  · exact (by omega : L + 1 + 1 + 1 ≠ L + 1 + 1 + 1 + 1)
  · exact (by omega : L + 1 + 1 ≠ L + 1 + 1 + 1 + 1)
  · exact (by omega : L + 1 ≠ L + 1 + 1 + 1 + 1)
  · exact (hn q hq).2.2.2.1
theorem upd5 {L : Nat} {o1 o2 o3 o4 o5 o6 : Obj} {news : Led} (hn : Off6 L news) : UpdF (L + 1 + 1 + 1 + 1 + 1) o5 (cells6 L o1 o2 o3 o4 o5 o6 news) (fun o => cells6 L o1 o2 o3 o4 o o6 news) := by
  refine UpdF.tail (show (L + 1 + 1 + 1 + 1 + 1 + 1 : Nat) ≠ L + 1 + 1 + 1 + 1 + 1 by omega) (UpdF.head fun q hq => ?_)
  simp only [List.mem_cons] at hq
  rcases hq with rfl | rfl | rfl | rfl | hq
  · exact (by omega : L + 1 + 1 + 1 + 1 ≠ L + 1 + 1 + 1 + 1 + 1)
  · exact (by omega : L + 1 + 1 + 1 ≠ L + 1 + 1 + 1 + 1 + 1)
  · exact (by omega : L + 1 + 1 ≠ L + 1 + 1 + 1 + 1 + 1)
  · exact (by omega : L + 1 ≠ L + 1 + 1 + 1 + 1 + 1)
  · exact (hn q hq).2.2.2.2.1
theorem upd6 {L : Nat} {o1 o2 o3 o4 o5 o6 : Obj} {news : Led} (hn : Off6 L news) : UpdF (L + 1 + 1 + 1 + 1 + 1 + 1) o6 (cells6 L o1 o2 o3 o4 o5 o6 news) (fun o => cells6 L o1 o2 o3 o4 o5 o news) := by
  refine UpdF.head fun q hq => ?_
  simp only [List.mem_cons] at hq
  rcases hq with rfl | rfl | rfl | rfl | rfl | hq
  · exact (by omega : L + 1 + 1 + 1 + 1 + 1 ≠ L + 1 + 1 + 1 + 1 + 1 + 1)
  · exact (by omega : L + 1 + 1 + 1 + 1 ≠ L + 1 + 1 + 1 + 1 + 1 + 1)
  · exact (by omega : L + 1 + 1 + 1 ≠ L + 1 + 1 + 1 + 1 + 1 + 1)
  · exact (by omega : L + 1 + 1 ≠ L + 1 + 1 + 1 + 1 + 1 + 1)
  · exact (by omega : L + 1 ≠ L + 1 + 1 + 1 + 1 + 1 + 1)
  · exact (hn q hq).2.2.2.2.2
noncomputable def Stop (p : Prop) : Prop := p
theorem stop_of {p : Prop} (h : Stop p) : p := h
theorem stop_go {p : Prop} (h : p) : Stop p := h
end
section
open PySem PySem.W PyProof.Rows PySem.Spec PySem.Calls
set_option Elab.async false
set_option maxRecDepth 100000
noncomputable abbrev strN (l : List Nat) : Str := ⟨l.toArray⟩
structure PieceOk (x : Str) (l : List Nat) : Prop where
  ok : ∀ c ∈ x.cps.toList, inB1 (c : Int) = true ∨ (okS c ∧ (b3S c).length ≤ 4)
  is : prepT (KStt.codes x) = strN l
theorem prepT_cons (c : Int) (cs : List Int) : prepT (c :: cs) = prepS c ++ prepT cs := by
  have h : ∀ (cs : List Int) (x : Str), cs.foldl (fun x c => x ++ prepS c) x = x ++ cs.foldl (fun x c => x ++ prepS c) Str.empty := by
    intro cs
    induction cs with
    | nil => intro x; simp only [List.foldl_nil]; exact (Str.append_empty x).symm
    | cons c cs ih =>
      intro x
      rw [List.foldl_cons, ih, List.foldl_cons, ih (Str.empty ++ prepS c), Str.empty_append, Str.append_assoc]
  unfold prepT
  rw [List.foldl_cons, h, Str.empty_append]
theorem prepT_app (a b : List Int) : prepT (a ++ b) = prepT a ++ prepT b := by
  induction a with
  | nil => exact (Str.empty_append _).symm
  | cons c a ih => rw [List.cons_append, prepT_cons, prepT_cons, ih, Str.append_assoc]
theorem codes_app (x y : Str) : KStt.codes (x ++ y) = KStt.codes x ++ KStt.codes y := by
  unfold KStt.codes
  have e : (x ++ y).cps.toList = x.cps.toList ++ y.cps.toList := by
    show (x.cps ++ y.cps).toList = _
    exact Array.toList_append ..
  rw [e, List.map_append]
theorem PieceOk.app {x y : Str} {a b : List Nat} (hx : PieceOk x a) (hy : PieceOk y b) : PieceOk (x ++ y) (a ++ b) where
  ok := fun c hc => by
    have e : (x ++ y).cps.toList = x.cps.toList ++ y.cps.toList := by
      show (x.cps ++ y.cps).toList = _
      exact Array.toList_append ..
    rw [e] at hc
    exact (List.mem_append.1 hc).elim (hx.ok c) (hy.ok c)
  is := by
    rw [codes_app, prepT_app, hx.is, hy.is]
    show (⟨a.toArray ++ b.toArray⟩ : Str) = _
    simp [strN]
noncomputable def b3kv : Option Expr → Expr → Option (Int × Str)
  | some (.Constant (.int j) _ _), .Constant (.str x) _ _ => some (j, x)
  | _, _ => none
noncomputable def b3q (k : Int) : List (Option Expr) → List Expr → Option Str
  | o :: ks, v :: vs => match b3kv o v with
    | some (j, x) => (match decide (j = k) with | true => some x | false => b3q k ks vs)
    | none => b3q k ks vs
  | [], _ => none
  | _ :: _, [] => none
theorem isInt_lit {k j : Int} {t : Tok} : Value.isInt k (.int j t) = decide (j = k) := by
  by_cases h : j = k
  · rw [decide_eq_true h]; exact (isInt_of (t := t)).mpr h
  · rw [decide_eq_false h]
    cases e : Value.isInt k (.int j t) with
    | false => rfl
    | true => exact absurd ((isInt_of (t := t)).mp e) h
theorem b3e_kv (i : Nat) (o : Option Expr) (v : Expr) : match b3kv o v with
    | some (j, x) => (∃ t, (b3e i o v).key = .int j t) ∧ ∃ t, (b3e i o v).val = .str x t
    | none => (b3e i o v).key = .none := by
  cases o with
  | none => exact rfl
  | some x =>
    cases x with
    | Constant c _ _ =>
      cases c with
      | int j =>
        cases v with
        | Constant d _ _ =>
          cases d with
          | str y =>
            show (∃ t, _ = Value.int j t) ∧ ∃ t, _ = Value.str y t
            delta b3e
            dsimp only
            split <;> exact ⟨⟨_, rfl⟩, _, rfl⟩
          | _ => exact rfl
        | _ => exact rfl
      | _ => exact rfl
    | _ => exact rfl
theorem b3go_q (k : Int) : ∀ (ks : List (Option Expr)) (vs : List Expr) (i : Nat), match b3q k ks vs with
    | some x => ∃ t, ((b3go i ks vs).find? fun e => Value.isInt k e.key).map (·.val) = some (.str x t)
    | none => ((b3go i ks vs).find? fun e => Value.isInt k e.key).map (·.val) = none
  | [], vs, i => by cases vs <;> (unfold b3q b3go; rfl)
  | o :: ks, [], i => by unfold b3q b3go; rfl
  | o :: ks, v :: vs, i => by
    have ih := b3go_q k ks vs (i + 1)
    have h := b3e_kv i o v
    rw [b3q, b3go, List.find?_cons]
    cases e : b3kv o v with
    | none =>
      rw [e] at h
      dsimp only at h ⊢
      rw [h]
      exact ih
    | some p =>
      obtain ⟨j, x⟩ := p
      rw [e] at h
      dsimp only at h ⊢
      obtain ⟨⟨t1, h1⟩, t2, h2⟩ := h
      rw [h1, isInt_lit]
      by_cases hj : j = k
      · rw [decide_eq_true hj]
        dsimp only
        exact ⟨t2, by rw [Option.map_some, h2]⟩
      · rw [decide_eq_false hj]
        exact ih
noncomputable def b3t (k : Int) : Option Str := b3q k d_b3.1.1 d_b3.1.2.1
theorem b3f_t (k : Int) : match b3t k with | some x => ∃ t, b3f k = some (.str x t) | none => b3f k = none := by
  have h := b3go_q k d_b3.1.1 d_b3.1.2.1 0
  have e : b3f k = ((b3go 0 d_b3.1.1 d_b3.1.2.1).find? fun e => Value.isInt k e.key).map (·.val) := by
    unfold b3f findBy b3es
    rw [List.find?_toArray]
    rfl
  rw [e]
  exact h
theorem okS_all (c : Nat) : okS c := by
  have h := b3f_t c
  unfold okS
  cases e : b3t c with
  | none => rw [e] at h; dsimp only at h; rw [h]; exact .inr rfl
  | some x => rw [e] at h; dsimp only at h; obtain ⟨t, h⟩ := h; rw [h]; exact .inl ⟨x, t, rfl⟩
theorem b3S_t (c : Nat) : b3S c = (match b3t c with | some x => x | none => Txt.lower ⟨#[c]⟩) := by
  have h := b3f_t c
  unfold b3S
  cases e : b3t c with
  | none => rw [e] at h; dsimp only at h; rw [h]; rfl
  | some x => rw [e] at h; dsimp only at h; obtain ⟨t, h⟩ := h; rw [h]; rfl
noncomputable def signT (c : Nat) : List Nat := match inB1 (c : Int) with | true => [] | false => (match b3t c with | some x => x.cps.toList | none => (Txt.lower ⟨#[c]⟩).cps.toList)
theorem signT_is (c : Nat) : prepS (c : Int) = strN (signT c) := by
  unfold prepS signT
  cases inB1 (c : Int) with
  | true => rfl
  | false =>
    rw [if_neg Bool.false_ne_true, Int.toNat_natCast, b3S_t]
    cases b3t c with
    | none => dsimp only
    | some x => dsimp only
noncomputable def pieceB (cps l : List Nat) : Bool := cps.all (fun c => Nat.ble (signT c).length 4) && (cps.flatMap signT) == l
theorem piece_of {cps l : List Nat} (h : pieceB cps l = true) : PieceOk (strN cps) l := by
  unfold pieceB at h
  obtain ⟨h1, h2⟩ := Bool.and_eq_true_iff.mp h
  refine ⟨fun c hc => ?_, ?_⟩
  · have h3 := Nat.le_of_ble_eq_true (List.all_eq_true.mp h1 c (by simpa [strN] using hc))
    cases e : inB1 (c : Int) with
    | true => exact .inl rfl
    | false =>
      refine .inr ⟨okS_all c, ?_⟩
      have h4 := signT_is c
      unfold prepS at h4
      rw [e, if_neg Bool.false_ne_true, Int.toNat_natCast] at h4
      rw [h4]
      simpa [strN, Str.length] using h3
  · have e : KStt.codes (strN cps) = cps.map fun (c : Nat) => (c : Int) := by simp [KStt.codes]
    rw [e, ← beq_iff_eq.mp h2]
    clear h h1 h2 e
    induction cps with
    | nil => rfl
    | cons c cs ih =>
      rw [List.map_cons, prepT_cons, signT_is, ih, List.flatMap_cons]
      show (⟨(signT c).toArray ++ (cs.flatMap signT).toArray⟩ : Str) = _
      simp [strN]
theorem nothing_all : (b1L.all fun k => pieceB [k.toNat] []) = true := by decide +kernel
theorem forms_all : ((List.range 12).all fun r => [102, 115, 107].all fun c : Nat => pieceB (formF c r).cps.toList [c]) = true := by decide +kernel
theorem both_all : (pieceB [64256] [102, 102] && pieceB [223] [115, 115] && pieceB [13261] [107, 107] && pieceB [102] [102] && pieceB [115] [115] && pieceB [107] [107]) = true := by decide +kernel
theorem strN_cps (x : Str) : strN x.cps.toList = x := by cases x; simp [strN]
theorem fmod_mem (n : Int) (k : Nat) (hk : 0 < k) : ((n.fmod k).toNat : Int) = n.fmod k ∧ (n.fmod k).toNat < k := by
  have h1 := Int.fmod_nonneg_of_pos n (b := (k : Int)) (by omega)
  have h2 := Int.fmod_lt_of_pos n (b := (k : Int)) (by omega)
  exact ⟨by omega, by omega⟩
theorem piece_form (c : Nat) (hc : c ∈ [102, 115, 107]) (which : Int) : PieceOk (formF c which) [c] := by
  obtain ⟨h1, h2⟩ := fmod_mem which 12 (by decide)
  have e : formF c which = formF c ((which.fmod 12).toNat : Int) := by
    rw [show ((which.fmod 12).toNat : Int) = which.fmod 12 from h1]
    have h3 : (which.fmod 12).fmod 12 = which.fmod 12 := Int.fmod_fmod ..
    unfold formF
    rw [h3]
  have h4 := List.all_eq_true.mp (List.all_eq_true.mp forms_all _ (List.mem_range.mpr h2)) c hc
  have h5 := piece_of h4
  rw [strN_cps] at h5
  rw [e]
  exact h5
theorem piece_nothing (which : Int) : PieceOk ⟨#[nothingN which]⟩ [] := by
  obtain ⟨h1, h2⟩ := fmod_mem which 27 (by decide)
  have h3 : (which.fmod 27).toNat < b1L.length := h2
  have e : b1L.getD (which.fmod 27).toNat 0 ∈ b1L := by
    rw [List.getD_eq_getElem?_getD, List.getElem?_eq_getElem h3]
    exact List.getElem_mem h3
  exact piece_of (List.all_eq_true.mp nothing_all _ e)
theorem piece_both (c : Nat) (hc : c ∈ [102, 115, 107]) (both : Nat) (hb : PieceOk (strN [both]) [c, c]) (hc1 : PieceOk (strN [c]) [c]) (n : Int) : PieceOk (bothF c (strN [both]) n) [c, c] := by
  unfold bothF
  split
  · exact (piece_form c hc _).app hc1
  · exact hb
noncomputable def pieceI (c : Nat) (both : Str) (n : Int) (i : Nat) : Str := match i with | 0 => ⟨#[nothingN (n.fdiv 36)]⟩ | 1 => formF c (n.fdiv 3) | _ => bothF c both n
theorem piece_f (n : Int) (i : Nat) (hi : i < 3) : PieceOk (pieceI 102 ⟨#[64256]⟩ n i) (List.replicate i 102) := by
  have h := both_all
  simp only [Bool.and_eq_true] at h
  obtain ⟨⟨⟨⟨⟨h1, h2⟩, h3⟩, h4⟩, h5⟩, h6⟩ := h
  match i, hi with
  | 0, _ => exact piece_nothing _
  | 1, _ => exact piece_form 102 (by decide) _
  | 2, _ => exact piece_both 102 (by decide) 64256 (piece_of h1) (piece_of h4) n
theorem piece_s (n : Int) (i : Nat) (hi : i < 3) : PieceOk (pieceI 115 ⟨#[223]⟩ n i) (List.replicate i 115) := by
  have h := both_all
  simp only [Bool.and_eq_true] at h
  obtain ⟨⟨⟨⟨⟨h1, h2⟩, h3⟩, h4⟩, h5⟩, h6⟩ := h
  match i, hi with
  | 0, _ => exact piece_nothing _
  | 1, _ => exact piece_form 115 (by decide) _
  | 2, _ => exact piece_both 115 (by decide) 223 (piece_of h2) (piece_of h5) n
theorem piece_k (n : Int) (i : Nat) (hi : i < 3) : PieceOk (pieceI 107 ⟨#[13261]⟩ n i) (List.replicate i 107) := by
  have h := both_all
  simp only [Bool.and_eq_true] at h
  obtain ⟨⟨⟨⟨⟨h1, h2⟩, h3⟩, h4⟩, h5⟩, h6⟩ := h
  match i, hi with
  | 0, _ => exact piece_nothing _
  | 1, _ => exact piece_form 107 (by decide) _
  | 2, _ => exact piece_both 107 (by decide) 13261 (piece_of h3) (piece_of h6) n
theorem pieceI_len (c : Nat) (b : Nat) (n : Int) (i : Nat) : (pieceI c ⟨#[b]⟩ n i).length ≤ 2 := by
  unfold pieceI
  split
  · exact (show (1 : Nat) ≤ 2 by decide)
  · rw [formF_len]; decide
  · unfold bothF
    split
    · rw [Str.length_append, formF_len]; exact (show (1 : Nat) + 1 ≤ 2 by decide)
    · exact (show (1 : Nat) ≤ 2 by decide)
noncomputable def wordC (i j k : Nat) : List Nat := List.replicate i 102 ++ List.replicate j 115 ++ List.replicate k 107
theorem word_ok (a b c : Int) (i j k : Nat) (hi : i < 3) (hj : j < 3) (hk : k < 3) : PieceOk (pieceI 102 ⟨#[64256]⟩ a i ++ pieceI 115 ⟨#[223]⟩ b j ++ pieceI 107 ⟨#[13261]⟩ c k) (wordC i j k) :=
  ((piece_f a i hi).app (piece_s b j hj)).app (piece_k c k hk)
end
section
open PySem PySem.W PyProof.Rows PySem.Spec PySem.Calls PyProof.Rows.LCg
set_option Elab.async false
local macro_rules | `(tactic| walk_at "zz0") => `(tactic| skip)
theorem fresh_ML4 : True := by
  w_top off
  trivial
local macro_rules | `(tactic| walk_at "call ref") => `(tactic| (refine stop_of ?_))
local macro_rules | `(tactic| walk_at "subscriptTail") => `(tactic| (refine stop_of ?_))
theorem item_list {prog : Program} {w : World} {A : Around} {E : Value → Shared → Prop} {s : Shared} {value slice : PySem.Expr} {l : Addr} {items : Array Value} {k : Int} {u : Tok} {v : Value} {Q : Value → Shared → Prop}
    (hl : s.heap.IsList l items) (h0 : 0 ≤ k) (hhi : k < 2 ^ 63) (hx : items[k.toNat]? = some v) (h : Q v s)
    (hs : subscripted slice false (.ref l) (.int k u) = operate [.ref l, .int k u] (getItem (.ref l) (.int k u)) := by with_unfolding_all rfl) :
    wpAny (model prog w) A (subscriptTail value slice (.ref l) (.int k u)) Q E s :=
  tail_any hl.typeIs slot_list_getitem.lookup (wpAny_getItem_list hl h0 hhi hx h) hs
noncomputable def wordAt (i : Nat) : List Nat := wordC (i / 9) (i / 3 % 3) (i % 3)
noncomputable def WordsAre (c : Nat) (ys : List Value) : Prop := ys.length = c ∧ ∀ i, i < c → ∃ t, ys[i]? = some (.str (strN (wordAt i)) t)
noncomputable abbrev wdc : { x : (Expr × Expr × Expr × Expr) × (Pos × Pos × Pos × Pos × Pos × Pos) × Scope // d_law.1.2.1[3]? = some (Stmt.Assign [Expr.Name (Str.ofString "words") x.2.1.1] (lc3 x.1.1 (.Name (Str.ofString "x") x.2.1.2.1) x.1.2.1 (.Name (Str.ofString "y") x.2.1.2.2.1) x.1.2.2.1 (.Name (Str.ofString "z") x.2.1.2.2.2.1) x.1.2.2.2 x.2.2 x.2.1.2.2.2.2.1) x.2.1.2.2.2.2.2) } := ⟨((_, _, _, _), (_, _, _, _, _, _), _), rfl⟩
theorem words_snoc {c : Nat} {ys : List Value} {t : Tok} (h : WordsAre c ys) : WordsAre (c + 1) (ys ++ [.str (strN (wordAt c)) t]) := by
  obtain ⟨h1, h2⟩ := h
  refine ⟨by simp [h1], fun i hi => ?_⟩
  by_cases e : i < c
  · obtain ⟨t', ht⟩ := h2 i e
    exact ⟨t', by rw [List.getElem?_append_left (by omega)]; exact ht⟩
  · have e2 : i = ys.length := by omega
    subst e2
    exact ⟨t, by rw [List.getElem?_concat_length, h1]⟩
theorem word_idx {i j k : Nat} (hj : j < 3) (hk : k < 3) : wordAt ((i * 3 + j) * 3 + k) = wordC i j k := by
  unfold wordAt
  rw [show ((i * 3 + j) * 3 + k) / 9 = i by omega, show ((i * 3 + j) * 3 + k) / 3 % 3 = j by omega, show ((i * 3 + j) * 3 + k) % 3 = k by omega]
theorem piece_at {c : Nat} {both : Str} {n : Int} {t0 t1 t2 : Tok} {i : Nat} {v : Value} (hi : i < 3) (h : (#[.str (pieceI c both n 0) t0, .str (pieceI c both n 1) t1, .str (pieceI c both n 2) t2] : Array Value)[i]? = some v) : ∃ t, v = .str (pieceI c both n i) t := by
  match i, hi with
  | 0, _ => exact ⟨_, (Option.some.inj h).symm⟩
  | 1, _ => exact ⟨_, (Option.some.inj h).symm⟩
  | 2, _ => exact ⟨_, (Option.some.inj h).symm⟩
theorem ev_led {g h : Heap} {L : Addr} {i c d c1 s0 : Addr × Obj} {news : Led} (N : News g L h (i :: c :: d :: news)) (h1 : c1 ∈ news) (h2 : s0 ∈ news) : News g L h (i :: c :: d :: c1 :: s0 :: news) := News.sub N fun q hq => by
  simp only [List.mem_cons] at hq ⊢
  rcases hq with h | h | h | h | h | h
  · simp only [h, true_or]
  · simp only [h, true_or, or_true]
  · simp only [h, true_or, or_true]
  · exact .inr (.inr (.inr (h ▸ h1)))
  · exact .inr (.inr (.inr (h ▸ h2)))
  · exact .inr (.inr (.inr h))
set_option maxRecDepth 100000 in
set_option maxHeartbeats 1000000 in
theorem words_comp (w : World) {p : Program} {loose : List Str} {mean : ExcName → Option Value} {mg mb : Str → Option Value} {base g : Heap} {L : Nat} {fa : Addr} {cd : Value} {s : Shared} {E Q : Value → Shared → Prop}
   (X : (heapK w.params).In g) (T : Top p loose mean mg mb g) (B : Below callerA base [] g) {led : Led} {m : Str → Option Value} {mF : Addr → Str → Option Value} {o1 : Obj}
   {a b c : Int} {S0 D0 D1 D2 : Addr} {n0 n1 n2 k : Nat} {x0 y0 z0 x1 y1 z1 x2 y2 z2 : Tok}
   (F : Fr g L s.heap m) (N : News g L s.heap led) (hc1 : (L + 1, o1) ∈ led) (d1 : o1.data = .cell (some (.ref S0))) (hS : (S0, listOf #[.ref D0, .ref D1, .ref D2] k) ∈ led)
   (h2 : (D2, listOf #[.str (pieceI 107 ⟨#[13261]⟩ c 0) x2, .str (pieceI 107 ⟨#[13261]⟩ c 1) y2, .str (pieceI 107 ⟨#[13261]⟩ c 2) z2] n2) ∈ led)
   (h1 : (D1, listOf #[.str (pieceI 115 ⟨#[223]⟩ b 0) x1, .str (pieceI 115 ⟨#[223]⟩ b 1) y1, .str (pieceI 115 ⟨#[223]⟩ b 2) z1] n1) ∈ led)
   (h0 : (D0, listOf #[.str (pieceI 102 ⟨#[64256]⟩ a 0) x0, .str (pieceI 102 ⟨#[64256]⟩ a 1) y0, .str (pieceI 102 ⟨#[64256]⟩ a 2) z0] n0) ∈ led)
   (fin : ∀ (D : Addr) ys h' tk', WordsAre 27 ys → Fr g L h' (mF D) → News g L h' ((D, lst ys) :: led) → (∀ q ∈ led, q.1 ≠ D) → Q (.ref D) { s with heap := h', toks := tk' }) :
   wpAny (model Challenge.rw_qu0064_01.row.prog w) (AW L fa cd) (pyIter (.ref D0)) (fun it s₂ => CompAt Challenge.rw_qu0064_01.row.prog w (AW L fa cd) g L m (envW L fa cd) wdc.1.1.1 [⟨.Name (Str.ofString "x") wdc.1.2.1.2.1, wdc.1.1.2.1, [], 0⟩, ⟨.Name (Str.ofString "y") wdc.1.2.1.2.2.1, wdc.1.1.2.2.1, [], 0⟩, ⟨.Name (Str.ofString "z") wdc.1.2.1.2.2.2.1, wdc.1.1.2.2.2, [], 0⟩] wdc.1.2.2 [(Str.ofString "stocks", L + 1)] wdc.1.2.1.2.2.2.2.1 mF Q it s₂) E s := by
  revert X; k_fill; intro X
  have G0 : ∀ {l : Led}, (∀ q ∈ led, q ∈ l) → SrcAt g D0 _ l := fun h => .inr ⟨_, h _ h0, rfl, _, rfl⟩
  refine src_list rfl F N (.inr ⟨_, h0, rfl, _, rfl⟩) (fun ys nw => ys.length = 3 * 3 * 3 ∧ nw = led ∧ WordsAre (3 * 3 * 3) ys) ?_ (fun D ys nw h' tk' F' N' o f => by obtain ⟨f1, f2, f3⟩ := f; subst f2; exact fin D ys h' tk' f3 F' N' o)
  intro I h' C D h tk R offI K ne st hR
  refine loop3 (P1 := fun i v => (#[.str (pieceI 115 ⟨#[223]⟩ b 0) x1, .str (pieceI 115 ⟨#[223]⟩ b 1) y1, .str (pieceI 115 ⟨#[223]⟩ b 2) z1] : Array Value)[i]? = some v) (P2 := fun i v => (#[.str (pieceI 107 ⟨#[13261]⟩ c 0) x2, .str (pieceI 107 ⟨#[13261]⟩ c 1) y2, .str (pieceI 107 ⟨#[13261]⟩ c 2) z2] : Array Value)[i]? = some v) (G := fun l => ∀ q ∈ led, q ∈ l) (n1 := 3) (n2 := 3) (fun _ _ _ => rfl) rfl K ne rfl rfl rfl (by decide) (by decide) (by decide) rfl (show (27 : Nat) ≤ sizeLine by decide) (fun _ _ => rfl) (fun _ _ => rfl) ?L1 ?L2 (fun x l hl q hq => .tail _ (hl q hq)) (fun c ys nw => nw = led ∧ WordsAre c ys) (fun c ys nw hh => ⟨fun q hq => hh.1 ▸ hq, hh.1 ▸ .inr ⟨_, h0, rfl, _, rfl⟩⟩) ?step st ⟨rfl, rfl, fun i hi => absurd hi (Nat.not_lt_zero _)⟩ hR
  case L1 =>
    refine LevSrc.list (G := fun l => ∀ q ∈ led, q ∈ l) rfl (fun l hl => .inr ⟨_, hl _ h1, rfl, _, rfl⟩) (fun x l hl q hq => .tail _ (hl q hq)) ?_
    intro C m₂ ys news D I oI oC h tk Q E hoC hG F N kk
    have N1 := ev_led (c1 := (L + 1, o1)) (s0 := (S0, _)) N (hG _ hc1) (hG _ hS)
    clear N
    k_steps
    refine stop_go ?_
    refine item_list (News.isList N1 (.tail _ (.tail _ (.tail _ (.tail _ (.head _)))))) (by decide) (by decide) rfl ?_
    exact kk _
  case L2 =>
    refine LevSrc.list (G := fun l => ∀ q ∈ led, q ∈ l) rfl (fun l hl => .inr ⟨_, hl _ h2, rfl, _, rfl⟩) (fun x l hl q hq => .tail _ (hl q hq)) ?_
    intro C m₂ ys news D I oI oC h tk Q E hoC hG F N kk
    have N1 := ev_led (c1 := (L + 1, o1)) (s0 := (S0, _)) N (hG _ hc1) (hG _ hS)
    clear N
    k_steps
    refine stop_go ?_
    refine item_list (News.isList N1 (.tail _ (.tail _ (.tail _ (.tail _ (.head _)))))) (by decide) (by decide) rfl ?_
    exact kk _
  case step =>
    intro i j k v0 v1 v2 ys m₂ news h tk I2 I1 oI oC o1' o0 Q' E' hi hj hk p0 p1 p2 hJ hoC e0 e1 e2 F N off ret
    obtain ⟨rfl, hW⟩ := hJ
    obtain ⟨t0, rfl⟩ := piece_at hi p0
    obtain ⟨t1, rfl⟩ := piece_at hj p1
    obtain ⟨t2, rfl⟩ := piece_at hk p2
    have q0 := pieceI_len 102 64256 a i
    have q1 := pieceI_len 115 223 b j
    have q2 := pieceI_len 107 13261 c k
    have hw := word_ok a b c i j k hi hj hk
    generalize pieceI 102 ⟨#[64256]⟩ a i = x at e0 q0 hw
    generalize pieceI 115 ⟨#[223]⟩ b j = y at e1 q1 hw
    generalize pieceI 107 ⟨#[13261]⟩ c k = z at e2 q2 hw
    k_steps
    refine stop_go ?_
    refine' Ctr.use (c_prepared w _ (x ++ y ++ z) _ hw.ok ?hlen) ?k1 ?k2 ?k3 ?k4 ?k5 ?kK ?kd ?ku ?_
    case k4 => k_asm
    case k1 => k_asm
    case k2 => k_asm
    case k3 => k_asm
    case k5 => k_asm
    case kK => exact rfl
    case kd => ktr_room
    case ku => ktr_units
    case hlen => rw [Str.length_append, Str.length_append]; omega
    intro v9 more9 h9 tk9 hR9 F9 N9
    obtain ⟨e9, t9, e8⟩ := hR9
    subst e9 e8
    rw [hw.is]
    dsimp only [List.nil_append] at N9
    have hW' := words_snoc (t := t9) hW
    rw [word_idx hj hk] at hW'
    exact ret _ _ _ _ F9 N9 off ⟨rfl, hW'⟩
end
section
open PySem PySem.W PyProof.Rows PySem.Spec PySem.Calls PyProof.Rows.LCg
set_option Elab.async false
theorem fresh_ML5 : True := by
  w_top off
  trivial
local macro_rules | `(tactic| walk_at "subscriptTail") => `(tactic| (refine stop_of ?_))
theorem noc1 {x : Addr × Obj} (h : NoCell x.2) : ∀ q ∈ [x], NoCell q.2 := fun q hq => by rw [List.mem_singleton.1 hq]; exact h
set_option maxRecDepth 100000 in
set_option maxHeartbeats 1000000 in
theorem law_words (w : World) {p : Program} {loose : List Str} {mean : ExcName → Option Value} {mg mb : Str → Option Value} {base g : Heap} {L : Nat} {fa : Addr} {cd : Value} {s : Shared} {E : Value → Shared → Prop} {P : Flow → Shared → Prop}
   (X : (heapK w.params).In g) (T : Top p loose mean mg mb g) (B : Below callerA base [] g) {news : Led} {c2 c3 c4 c5 c6 : Option Value}
   {v1 v2 v3 v4 v5 v6 : Option Value} {a b c : Int} {S0 D0 D1 D2 : Addr} {n0 n1 n2 k : Nat} {x0 y0 z0 x1 y1 z1 x2 y2 z2 : Tok}
   (S : LawS L g (mapL v1 v2 v3 v4 v5 v6 none none none none none none none) (some (.ref S0)) c2 c3 c4 c5 c6 ((S0, listOf #[.ref D0, .ref D1, .ref D2] k) :: (D2, listOf #[.str (pieceI 107 ⟨#[13261]⟩ c 0) x2, .str (pieceI 107 ⟨#[13261]⟩ c 1) y2, .str (pieceI 107 ⟨#[13261]⟩ c 2) z2] n2) :: (D1, listOf #[.str (pieceI 115 ⟨#[223]⟩ b 0) x1, .str (pieceI 115 ⟨#[223]⟩ b 1) y1, .str (pieceI 115 ⟨#[223]⟩ b 2) z1] n1) :: (D0, listOf #[.str (pieceI 102 ⟨#[64256]⟩ a 0) x0, .str (pieceI 102 ⟨#[64256]⟩ a 1) y0, .str (pieceI 102 ⟨#[64256]⟩ a 2) z0] n0) :: news) s.heap)
   (post : ∀ (W : Addr) ys h' tk', WordsAre 27 ys → LawS L g (mapL v1 v2 v3 v4 v5 v6 (some (.ref W)) none none none none none none) (some (.ref S0)) c2 c3 c4 c5 c6 ((W, lst ys) :: news) h' → P .next { s with heap := h', toks := tk' }) :
   wpAny (model Challenge.rw_qu0064_01.row.prog w) (AW L fa cd) (exec lb3.1 (envW L fa cd)) P E s := by
  revert X; k_fill; intro X
  have off := S.off
  obtain ⟨F, ⟨o1, o2, o3, o4, o5, o6, N, d1, d2, d3, d4, d5, d6⟩, _⟩ := S
  refine' comp_assign F ?q0 ?q1 ?qs ?qy ?qp ?q2 ?q3 ?q4 ?q5 ?_ ?q6
  case q0 => exact rfl
  case q1 => exact rfl
  case qs => exact rfl
  case qy => exact rfl
  case qp => exact rfl
  case q2 => with_unfolding_all rfl
  case q3 => decide
  case q4 => exact rfl
  case q5 => decide
  case q6 => exact fun _ => rfl
  dsimp only
  k_steps
  refine stop_go ?_
  rename News _ _ _ _ => N9
  rename Fr _ _ _ _ => F9
  refine item_list (News.isList N9 (.tail _ (.tail _ (.tail _ (.tail _ (.tail _ (.tail _ (.head _)))))))) (by decide) (by decide) rfl ?_
  refine words_comp w X T B (fa := fa) (cd := cd) (mF := fun D z => if z = Str.ofString "words" then some (.ref D) else mapL v1 v2 v3 v4 v5 v6 none none none none none none none z) F9 N9 (.tail _ (.tail _ (.tail _ (.tail _ (.tail _ (.head _)))))) d1 (.tail _ (.tail _ (.tail _ (.tail _ (.tail _ (.tail _ (.head _))))))) (.tail _ (.tail _ (.tail _ (.tail _ (.tail _ (.tail _ (.tail _ (.head _)))))))) (.tail _ (.tail _ (.tail _ (.tail _ (.tail _ (.tail _ (.tail _ (.tail _ (.head _))))))))) (.tail _ (.tail _ (.tail _ (.tail _ (.tail _ (.tail _ (.tail _ (.tail _ (.tail _ (.head _)))))))))) ?_
  intro D ys h' tk' hW F' N' o
  refine post D ys h' tk' hW (LawS.sub (LawS.of (old := (S0, _) :: (D2, _) :: (D1, _) :: (D0, _) :: news) [(D, lst ys)] (fr_map F' mapL_words) (cells_front [(D, lst ys)] N') d1 d2 d3 d4 d5 d6 (noc1 noCell_list) off) fun q hq => ?_)
  rcases List.mem_cons.1 hq with h | h
  · exact h ▸ .head _
  · exact .tail _ (.tail _ (.tail _ (.tail _ (.tail _ h))))
end
section
open PySem PySem.W PyProof.Rows PySem.Spec PySem.Calls PyProof.Rows.LCg
set_option Elab.async false
local macro_rules | `(tactic| walk_at "zz0") => `(tactic| skip)
theorem fresh_ML6 : True := by
  w_top off
  trivial
local macro_rules | `(tactic| walk_at "pyIter ref") => `(tactic| (refine stop_of ?_))
noncomputable abbrev tupI (a b c : Int) (t0 t1 t2 : Tok) (n : Nat) : Obj := { cls := .type "tuple", data := .seq #[.int a t0, .int b t1, .int c t2] n }
noncomputable def CountsAre (c : Nat) (ys : List Value) (news : Led) : Prop := ys.length = c ∧ ∀ i, i < c → ∃ T t0 t1 t2 n, ys[i]? = some (.ref T) ∧ (T, tupI (i / 9 : Nat) (i / 3 % 3 : Nat) (i % 3 : Nat) t0 t1 t2 n) ∈ news
theorem CountsAre.mono {c : Nat} {ys : List Value} {a b : Led} (h : CountsAre c ys a) (hs : ∀ q ∈ a, q ∈ b) : CountsAre c ys b := ⟨h.1, fun i hi => by obtain ⟨T, t0, t1, t2, n, e, hm⟩ := h.2 i hi; exact ⟨T, t0, t1, t2, n, e, hs _ hm⟩⟩
theorem counts_snoc {c T n : Nat} {ys : List Value} {news : Led} {t0 t1 t2 : Tok} (h : CountsAre c ys news) : CountsAre (c + 1) (ys ++ [.ref T]) ((T, tupI (c / 9 : Nat) (c / 3 % 3 : Nat) (c % 3 : Nat) t0 t1 t2 n) :: news) := by
  obtain ⟨h1, h2⟩ := h
  refine ⟨by simp [h1], fun i hi => ?_⟩
  by_cases e : i < c
  · obtain ⟨T', t0', t1', t2', n', ht, hm⟩ := h2 i e
    exact ⟨T', t0', t1', t2', n', by rw [List.getElem?_append_left (by omega)]; exact ht, .tail _ hm⟩
  · have e2 : i = c := by omega
    subst e2
    exact ⟨T, t0, t1, t2, n, by rw [← h1, List.getElem?_concat_length], .head _⟩
noncomputable abbrev cdc : { x : (Expr × Expr × Expr × Expr) × (Pos × Pos × Pos × Pos × Pos × Pos) × Scope // d_law.1.2.1[4]? = some (Stmt.Assign [Expr.Name (Str.ofString "counts") x.2.1.1] (lc3 x.1.1 (.Name (Str.ofString "x") x.2.1.2.1) x.1.2.1 (.Name (Str.ofString "y") x.2.1.2.2.1) x.1.2.2.1 (.Name (Str.ofString "z") x.2.1.2.2.2.1) x.1.2.2.2 x.2.2 x.2.1.2.2.2.2.1) x.2.1.2.2.2.2.2) } := ⟨((_, _, _, _), (_, _, _, _, _, _), _), rfl⟩
theorem off_new {I2 C D I1 I T : Nat} {o : Obj} {news : Led} (h : I2 < T ∧ C < T ∧ D < T ∧ I1 < T ∧ I < T ∧ AllLt T news) (off : ∀ p ∈ news, p.1 ≠ I2 ∧ p.1 ≠ C ∧ p.1 ≠ D ∧ p.1 ≠ I1 ∧ p.1 ≠ I) : ∀ p ∈ (T, o) :: news, p.1 ≠ I2 ∧ p.1 ≠ C ∧ p.1 ≠ D ∧ p.1 ≠ I1 ∧ p.1 ≠ I :=
  List.forall_mem_cons.2 ⟨⟨Nat.ne_of_gt h.1, Nat.ne_of_gt h.2.1, Nat.ne_of_gt h.2.2.1, Nat.ne_of_gt h.2.2.2.1, Nat.ne_of_gt h.2.2.2.2.1⟩, off⟩
theorem to_sixth {g h : Heap} {L : Addr} {x a b c d e : Addr × Obj} {r : Led} (N : News g L h (x :: a :: b :: c :: d :: e :: r)) : News g L h (a :: b :: c :: d :: e :: x :: r) := News.sub N fun q hq => by
  simp only [List.mem_cons] at hq ⊢
  rcases hq with h | h | h | h | h | h | h <;> simp only [h, true_or, or_true]
theorem tup_idx {i j k : Nat} (hj : j < 3) (hk : k < 3) {t0 t1 t2 : Tok} {n : Nat} : tupI (0 + (i : Int)) (0 + (j : Int)) (0 + (k : Int)) t0 t1 t2 n = tupI (((i * 3 + j) * 3 + k) / 9 : Nat) (((i * 3 + j) * 3 + k) / 3 % 3 : Nat) (((i * 3 + j) * 3 + k) % 3 : Nat) t0 t1 t2 n := by
  rw [show ((i * 3 + j) * 3 + k) / 9 = i by omega, show ((i * 3 + j) * 3 + k) / 3 % 3 = j by omega, show ((i * 3 + j) * 3 + k) % 3 = k by omega, Int.zero_add, Int.zero_add, Int.zero_add]
set_option maxRecDepth 100000 in
set_option maxHeartbeats 1000000 in
theorem counts_comp (w : World) {p : Program} {loose : List Str} {mean : ExcName → Option Value} {mg mb : Str → Option Value} {base g : Heap} {L : Nat} {fa : Addr} {cd : Value} {s : Shared} {E Q : Value → Shared → Prop}
   (X : (heapK w.params).In g) (T : Top p loose mean mg mb g) (B : Below callerA base [] g) {led : Led} {m : Str → Option Value} {mF : Addr → Str → Option Value} {r : Addr} {t u v : Tok}
   (F : Fr g L s.heap m) (N : News g L s.heap led) (hr : IsRange s.heap r 0 3 1 t u v)
   (fin : ∀ (D : Addr) ys add h' tk', (∀ q ∈ add, NoCell q.2) → CountsAre 27 ys add → Fr g L h' (mF D) → News g L h' ((D, lst ys) :: (add ++ led)) → (∀ q ∈ add ++ led, q.1 ≠ D) → Q (.ref D) { s with heap := h', toks := tk' }) :
   wpAny (model Challenge.rw_qu0064_01.row.prog w) (AW L fa cd) (pyIter (.ref r)) (fun it s₂ => CompAt Challenge.rw_qu0064_01.row.prog w (AW L fa cd) g L m (envW L fa cd) cdc.1.1.1 [⟨.Name (Str.ofString "x") cdc.1.2.1.2.1, cdc.1.1.2.1, [], 0⟩, ⟨.Name (Str.ofString "y") cdc.1.2.1.2.2.1, cdc.1.1.2.2.1, [], 0⟩, ⟨.Name (Str.ofString "z") cdc.1.2.1.2.2.2.1, cdc.1.1.2.2.2, [], 0⟩] cdc.1.2.2 [] cdc.1.2.1.2.2.2.2.1 mF Q it s₂) E s := by
  revert X; k_fill; intro X
  refine src_range (n' := 3) rfl F N hr rfl rfl (fun ys nw => ys.length = 3 * 3 * 3 ∧ ∃ add, nw = add ++ led ∧ (∀ q ∈ add, NoCell q.2) ∧ CountsAre (3 * 3 * 3) ys add) ?_ (fun D ys nw h' tk' F' N' o f => by obtain ⟨f1, add, f2, f3, f4⟩ := f; subst f2; exact fin D ys add h' tk' f3 f4 F' N' o)
  intro I h' C D h tk R offI K ne st hR
  refine loop3 (P1 := fun i v => ∃ t, v = .int (0 + (i : Int)) t) (P2 := fun i v => ∃ t, v = .int (0 + (i : Int)) t) (G := fun l => True) (n1 := 3) (n2 := 3) (fun _ _ _ => rfl) rfl K ne rfl rfl rfl (by decide) (by decide) (by decide) rfl (show (27 : Nat) ≤ sizeLine by decide) (fun _ _ => rfl) (fun _ _ => rfl) ?L1 ?L2 (fun x l hl => trivial) (fun c ys nw => ∃ add, nw = add ++ led ∧ (∀ q ∈ add, NoCell q.2) ∧ CountsAre c ys add) (fun c ys nw hh => ⟨trivial, trivial⟩) ?step st ⟨[], rfl, (fun _ h => nomatch h), rfl, fun i hi => absurd hi (Nat.not_lt_zero _)⟩ hR
  case L1 =>
    refine LevSrc.range (a := 0) (b := 3) (G := fun l => True) (n' := 3) rfl rfl rfl ?_
    intro C m₂ ys news D I oI oC h tk Q E hoC hG F N kk
    k_steps
    rename News _ _ _ _ => N9
    rename Fr _ _ _ _ => F9
    rename IsRange _ _ _ _ _ _ _ _ => R9
    exact kk _ _ _ _ _ _ R9 F9 N9
  case L2 =>
    refine LevSrc.range (a := 0) (b := 3) (G := fun l => True) (n' := 3) rfl rfl rfl ?_
    intro C m₂ ys news D I oI oC h tk Q E hoC hG F N kk
    k_steps
    rename News _ _ _ _ => N9
    rename Fr _ _ _ _ => F9
    rename IsRange _ _ _ _ _ _ _ _ => R9
    exact kk _ _ _ _ _ _ R9 F9 N9
  case step =>
    intro i j k v0 v1 v2 ys m₂ news h tk I2 I1 oI oC o1' o0 Q' E' hi hj hk p0 p1 p2 hJ hoC e0 e1 e2 F N off ret
    obtain ⟨add, rfl, hA, hW⟩ := hJ
    obtain ⟨t0, rfl⟩ := p0
    obtain ⟨t1, rfl⟩ := p1
    obtain ⟨t2, rfl⟩ := p2
    k_steps
    rename News _ _ _ _ => N9
    rename Fr _ _ _ _ => F9
    rename (_ ∧ _ ∧ _ ∧ _ ∧ _ ∧ AllLt _ _) => l9
    have N8 := to_sixth N9
    have hW' : ∀ T : Nat, CountsAre ((i * 3 + j) * 3 + k + 1) (ys ++ [.ref T]) ((T, tupI (0 + (i : Int)) (0 + (j : Int)) (0 + (k : Int)) t0 t1 t2 0) :: add) := fun T => by
      rw [tup_idx hj hk]
      exact counts_snoc hW
    exact ret _ _ _ _ F9 N8 (off_new l9 off) ⟨(_, _) :: add, rfl, List.forall_mem_cons.2 ⟨noCell_tup, hA⟩, hW' _⟩
end
section
open PySem PySem.W PyProof.Rows PySem.Spec PySem.Calls PyProof.Rows.LCg
set_option Elab.async false
theorem fresh_ML7 : True := by
  w_top off
  trivial
local macro_rules | `(tactic| walk_at "pyIter ref") => `(tactic| (refine stop_of ?_))
theorem noCell_app {a b : Led} (ha : ∀ q ∈ a, NoCell q.2) (hb : ∀ q ∈ b, NoCell q.2) : ∀ q ∈ a ++ b, NoCell q.2 := fun q hq => (List.mem_append.1 hq).elim (ha q) (hb q)
set_option maxRecDepth 100000 in
set_option maxHeartbeats 1000000 in
theorem law_counts (w : World) {p : Program} {loose : List Str} {mean : ExcName → Option Value} {mg mb : Str → Option Value} {base g : Heap} {L : Nat} {fa : Addr} {cd : Value} {s : Shared} {E : Value → Shared → Prop} {P : Flow → Shared → Prop}
   (X : (heapK w.params).In g) (T : Top p loose mean mg mb g) (B : Below callerA base [] g) {news : Led} {c1 c2 c3 c4 c5 c6 : Option Value}
   {v1 v2 v3 v4 v5 v6 v7 : Option Value}
   (S : LawS L g (mapL v1 v2 v3 v4 v5 v6 v7 none none none none none none) c1 c2 c3 c4 c5 c6 news s.heap)
   (post : ∀ (W : Addr) ys add h' tk', CountsAre 27 ys add → LawS L g (mapL v1 v2 v3 v4 v5 v6 v7 (some (.ref W)) none none none none none) c1 c2 c3 c4 c5 c6 ((W, lst ys) :: (add ++ news)) h' → P .next { s with heap := h', toks := tk' }) :
   wpAny (model Challenge.rw_qu0064_01.row.prog w) (AW L fa cd) (exec lb4.1 (envW L fa cd)) P E s := by
  revert X; k_fill; intro X
  have off := S.off
  obtain ⟨F, ⟨o1, o2, o3, o4, o5, o6, N, d1, d2, d3, d4, d5, d6⟩, _⟩ := S
  refine' comp_assign F ?q0 ?q1 ?qs ?qy ?qp ?q2 ?q3 ?q4 ?q5 ?_ ?q6
  case q0 => exact rfl
  case q1 => exact rfl
  case qs => exact rfl
  case qy => exact rfl
  case qp => exact rfl
  case q2 => with_unfolding_all rfl
  case q3 => decide
  case q4 => exact rfl
  case q5 => decide
  case q6 => exact fun _ => rfl
  dsimp only
  k_steps
  refine stop_go ?_
  rename News _ _ _ _ => N9
  rename Fr _ _ _ _ => F9
  rename IsRange _ _ _ _ _ _ _ _ => R9
  refine counts_comp w X T B (fa := fa) (cd := cd) (mF := fun D z => if z = Str.ofString "counts" then some (.ref D) else mapL v1 v2 v3 v4 v5 v6 v7 none none none none none none z) F9 N9 R9 ?_
  intro D ys add h' tk' hA hC F' N' o
  have N8 := cells_front ([(D, lst ys)] ++ add) (o1 := o1) (o2 := o2) (o3 := o3) (o4 := o4) (o5 := o5) (o6 := o6) (news := news) (by simpa only [List.append_assoc, List.cons_append, List.nil_append] using N')
  have hall : ∀ q ∈ [(D, lst ys)] ++ add, NoCell q.2 := noCell_app (noc1 noCell_list) hA
  have z := LawS.of ([(D, lst ys)] ++ add) (fr_map F' mapL_counts) N8 d1 d2 d3 d4 d5 d6 hall off
  rw [List.append_assoc] at z
  exact post D ys add h' tk' hC z
end
section
open PySem PySem.W PyProof.Rows PySem.Spec PySem.Calls PyProof.Rows.LCg
set_option Elab.async false
theorem fresh_ML8 : True := by
  w_top off
  trivial
local macro_rules | `(tactic| walk_at "eval ListComp") => `(tactic| (refine stop_of ?_))
local macro_rules | `(tactic| walk_at "pyIter ref") => `(tactic| (refine stop_of ?_))
local macro_rules | `(tactic| walk_at "compareOp NotEq ref ref") => `(tactic| (refine stop_of ?_))
noncomputable abbrev dcw : { x : (Expr × Expr) × (Pos × Pos × Pos × Pos × Pos × Pos × Pos × Pos) × Scope × List Stmt × Nat // d_law.1.2.1[5]? = some (Stmt.If (Expr.Compare (.Name (Str.ofString "words") x.2.1.1) [.NotEq] [.ListComp x.1.1 [⟨.Tuple [.Name (Str.ofString "x") x.2.1.2.1, .Name (Str.ofString "y") x.2.1.2.2.1, .Name (Str.ofString "z") x.2.1.2.2.2.1] x.2.2.2.2 x.2.1.2.2.2.2.1, x.1.2, [], 0⟩] x.2.2.1 x.2.1.2.2.2.2.2.1] x.2.1.2.2.2.2.2.2.1) x.2.2.2.1 [] x.2.1.2.2.2.2.2.2.2) } := ⟨((_, _), (_, _, _, _, _, _, _, _), _, _, _), rfl⟩
theorem due_all : ((List.range 27).all fun i => (Txt.mul (Str.ofString "f") (i / 9 : Nat) ++ Txt.mul (Str.ofString "s") (i / 3 % 3 : Nat) ++ Txt.mul (Str.ofString "k") (i % 3 : Nat)).cps.toList == wordAt i) = true := by decide +kernel
theorem due_is {i : Nat} (hi : i < 27) : Txt.mul (Str.ofString "f") (i / 9 : Nat) ++ Txt.mul (Str.ofString "s") (i / 3 % 3 : Nat) ++ Txt.mul (Str.ofString "k") (i % 3 : Nat) = strN (wordAt i) := by
  have h := beq_iff_eq.mp (List.all_eq_true.mp due_all i (List.mem_range.mpr hi))
  rw [← h, strN_cps]
set_option maxRecDepth 100000 in
set_option maxHeartbeats 1000000 in
theorem due_comp (w : World) {p : Program} {loose : List Str} {mean : ExcName → Option Value} {mg mb : Str → Option Value} {base g : Heap} {L : Nat} {fa : Addr} {cd : Value} {s : Shared} {E Q : Value → Shared → Prop}
   (X : (heapK w.params).In g) (T : Top p loose mean mg mb g) (B : Below callerA base [] g) {led : Led} {m : Str → Option Value} {mF : Addr → Str → Option Value} {D1 : Addr} {ys1 : List Value}
   (F : Fr g L s.heap m) (N : News g L s.heap led) (hD : (D1, lst ys1) ∈ led) (hC : CountsAre 27 ys1 led)
   (fin : ∀ (D : Addr) ys h' tk', WordsAre 27 ys → Fr g L h' (mF D) → News g L h' ((D, lst ys) :: led) → (∀ q ∈ led, q.1 ≠ D) → Q (.ref D) { s with heap := h', toks := tk' }) :
   wpAny (model Challenge.rw_qu0064_01.row.prog w) (AW L fa cd) (pyIter (.ref D1)) (fun it s₂ => CompAt Challenge.rw_qu0064_01.row.prog w (AW L fa cd) g L m (envW L fa cd) dcw.1.1.1 [⟨.Tuple [.Name (Str.ofString "x") dcw.1.2.1.2.1, .Name (Str.ofString "y") dcw.1.2.1.2.2.1, .Name (Str.ofString "z") dcw.1.2.1.2.2.2.1] dcw.1.2.2.2.2 dcw.1.2.1.2.2.2.2.1, dcw.1.1.2, [], 0⟩] dcw.1.2.2.1 [] dcw.1.2.1.2.2.2.2.2.1 mF Q it s₂) E s := by
  revert X; k_fill; intro X
  have hl : ys1.toArray.size = 27 := by rw [List.size_toArray]; exact hC.1
  refine src_list (its := ys1.toArray) rfl F N (.inr ⟨_, hD, rfl, _, rfl⟩) (fun ys nw => ys.length = ys1.toArray.size ∧ nw = led ∧ WordsAre ys1.toArray.size ys) ?_ (fun D ys nw h' tk' F' N' o f => by obtain ⟨f1, f2, f3⟩ := f; subst f2; rw [hl] at f3; exact fin D ys h' tk' f3 F' N' o)
  intro I h' C D h tk R offI K ne st hR
  refine loopT rfl (fun _ => rfl) K ne rfl rfl rfl (by decide) (by decide) (by decide) rfl (by rw [hl]; decide) (fun c ys nw => nw = led ∧ WordsAre c ys) ?tup ?step st ⟨rfl, rfl, fun i hi => absurd hi (Nat.not_lt_zero _)⟩ hR
  case tup =>
    intro i v ys nw hi hp hJ
    obtain ⟨T9, t0, t1, t2, n, e, hm⟩ := hC.2 i (by omega)
    have e2 : v = .ref T9 := by
      have hp' : ys1[i]? = some v := by simpa using hp
      rw [e] at hp'
      exact (Option.some.inj hp').symm
    exact ⟨T9, _, _, _, n, e2, _, hJ.1 ▸ hm, rfl, rfl⟩
  case step =>
    intro i T9 a b c nt ys m₂ news h tk oI oC Q' E' hi hp hT hJ hoC e0 e1 e2 F2 N2 off hS ret
    obtain ⟨rfl, hW⟩ := hJ
    have hi27 : i < 27 := by omega
    obtain ⟨T8, t0, t1, t2, n, e, hm⟩ := hC.2 i hi27
    have e9 : T8 = T9 := by
      have hp' : ys1[i]? = some (.ref T9) := by simpa using hp
      rw [e] at hp'
      exact Value.ref.inj (Option.some.inj hp')
    subst e9
    obtain ⟨oT, hm2, hc2, hd2⟩ := hT
    have g1 := (N2 _ (.tail _ (.tail _ (.tail _ hm2)))).1
    have g2 := (N2 _ (.tail _ (.tail _ (.tail _ hm)))).1
    dsimp only at g1 g2
    have e8 := Option.some.inj (g1.symm.trans g2)
    subst e8
    obtain ⟨rfl, rfl, rfl⟩ : a = .int (i / 9 : Nat) t0 ∧ b = .int (i / 3 % 3 : Nat) t1 ∧ c = .int (i % 3 : Nat) t2 := by
      have h := congrArg Array.toList (Data.seq.inj hd2).1
      simp only [List.cons.injEq] at h
      exact ⟨h.1.symm, h.2.1.symm, h.2.2.1.symm⟩
    have b0 : i / 9 < 3 := by omega
    have b1 : i / 3 % 3 < 3 := by omega
    have b2 : i % 3 < 3 := by omega
    clear F N hR
    k_steps
    rw [due_is hi27]
    exact ret _ _ _ _ F2 N2 off hS ⟨rfl, words_snoc hW⟩
end
section
open PySem PySem.W PyProof.Rows PySem.Spec PySem.Calls PyProof.Rows.LCg
set_option Elab.async false
local macro_rules | `(tactic| walk_at "zz0") => `(tactic| skip)
theorem fresh_ML9 : True := by
  w_top off
  trivial
local macro_rules | `(tactic| walk_at "eval ListComp") => `(tactic| (refine stop_of ?_))
local macro_rules | `(tactic| walk_at "pyIter ref") => `(tactic| (refine stop_of ?_))
local macro_rules | `(tactic| walk_at "compareOp NotEq ref ref") => `(tactic| (refine stop_of ?_))
theorem ne_words {prog : Program} {w : World} {A : Around} {E : Value → Shared → Prop} {s : Shared} {a b : Addr} {xs ys : List Value} {Q : Value → Shared → Prop} (ha : s.heap.IsList a xs.toArray) (hb : s.heap.IsList b ys.toArray) (h1 : WordsAre 27 xs) (h2 : WordsAre 27 ys) (hu : A.units < cLine) (h : Q (.bool false) s) :
    wpAny (model prog w) A (compareOp .NotEq (.ref a) (.ref b)) Q E s := by
  refine PySem.SeqAt.RcNeAt.lists (e := fun _ => true) ha hb (by simp [h1.1, h2.1]) hu (fun j j1 j2 => ?_) prog w E Q ?_
  · have hj : j < 27 := by simpa [h1.1] using j1
    obtain ⟨t, e⟩ := h1.2 j hj
    obtain ⟨u, f⟩ := h2.2 j hj
    have e' : xs.toArray[j] = .str (strN (wordAt j)) t := by
      have := Array.getElem?_eq_getElem j1
      rw [List.getElem?_toArray, e] at this
      exact (Option.some.inj this).symm
    have f' : ys.toArray[j] = .str (strN (wordAt j)) u := by
      have := Array.getElem?_eq_getElem j2
      rw [List.getElem?_toArray, f] at this
      exact (Option.some.inj this).symm
    rw [e', f']
    have z := PySem.SeqAt.EqAt.str_str (A := A.in1) (s := s) (strN (wordAt j)) t (strN (wordAt j)) u
    rw [beq_self_eq_true] at z
    exact z
  · have e : (List.range xs.toArray.size).all (fun _ => true) = true := by simp
    rw [e]
    exact h
set_option maxRecDepth 100000 in
set_option maxHeartbeats 1000000 in
theorem law_due (w : World) {p : Program} {loose : List Str} {mean : ExcName → Option Value} {mg mb : Str → Option Value} {base g : Heap} {L : Nat} {fa : Addr} {cd : Value} {s : Shared} {E : Value → Shared → Prop} {P : Flow → Shared → Prop}
   (X : (heapK w.params).In g) (T : Top p loose mean mg mb g) (B : Below callerA base [] g) {news : Led} {c1 c2 c3 c4 c5 c6 : Option Value}
   {v1 v2 v3 v4 v5 v6 : Option Value} {W K : Addr} {ysW ysK : List Value} (hW : WordsAre 27 ysW) (mW : (W, lst ysW) ∈ news) (hK : CountsAre 27 ysK news) (mK : (K, lst ysK) ∈ news)
   (S : LawS L g (mapL v1 v2 v3 v4 v5 v6 (some (.ref W)) (some (.ref K)) none none none none none) c1 c2 c3 c4 c5 c6 news s.heap)
   (post : ∀ h' tk', LawS L g (mapL v1 v2 v3 v4 v5 v6 (some (.ref W)) (some (.ref K)) none none none none none) c1 c2 c3 c4 c5 c6 news h' → P .next { s with heap := h', toks := tk' }) :
   wpAny (model Challenge.rw_qu0064_01.row.prog w) (AW L fa cd) (exec lb5.1 (envW L fa cd)) P E s := by
  revert X; k_fill; intro X
  have off := S.off
  obtain ⟨F, ⟨o1, o2, o3, o4, o5, o6, N, d1, d2, d3, d4, d5, d6⟩, _⟩ := S
  k_steps
  refine stop_go ?_
  refine' comp_any F ?q1 ?q2 ?q3 ?q4 ?q5 ?_ ?q6
  case q1 => exact rfl
  case q2 => with_unfolding_all rfl
  case q3 => decide
  case q4 => exact rfl
  case q5 => decide
  case q6 => exact fun _ => rfl
  dsimp only
  k_steps
  refine stop_go ?_
  rename News _ _ _ _ => N9
  rename Fr _ _ _ _ => F9
  refine due_comp w X T B (fa := fa) (cd := cd) (mF := fun _ => mapL v1 v2 v3 v4 v5 v6 (some (.ref W)) (some (.ref K)) none none none none none) F9 N9 (.tail _ (.tail _ (.tail _ (.tail _ (.tail _ (.tail _ mK)))))) (hK.mono fun q hq => .tail _ (.tail _ (.tail _ (.tail _ (.tail _ (.tail _ hq)))))) ?_
  intro D ys h' tk' hY F' N' o
  k_steps
  refine stop_go ?_
  refine ne_words (News.isList N' (.tail _ (.tail _ (.tail _ (.tail _ (.tail _ (.tail _ (.tail _ mW)))))))) (News.isList N' (.head _)) hW hY ?_ ?_
  · ktr_units
  k_steps
  rename Fr _ _ _ _ => F8
  exact post _ _ ⟨F8, ⟨_, _, _, _, _, _, News.tl N', d1, d2, d3, d4, d5, d6⟩, off⟩
end
section
open PySem PySem.W PyProof.Rows PySem.Spec PySem.Calls PyProof.Rows.LCg
set_option Elab.async false
theorem fresh_ML10 : True := by
  w_top off
  trivial
local macro_rules | `(tactic| walk_at "storeName") => `(tactic| (refine stop_of ?_))
set_option maxRecDepth 100000 in
set_option maxHeartbeats 1000000 in
theorem law_fsk (w : World) {p : Program} {loose : List Str} {mean : ExcName → Option Value} {mg mb : Str → Option Value} {base g : Heap} {L : Nat} {fa : Addr} {cd : Value} {s : Shared} {E : Value → Shared → Prop} {P : Flow → Shared → Prop}
   (X : (heapK w.params).In g) (T : Top p loose mean mg mb g) (B : Below callerA base [] g) {news : Led} {c1 c2 c3 c4 c5 c6 : Option Value}
   {v1 v2 v6 v7 v8 : Option Value} {a b c : Int} {ta tb tc : Tok}
   (S : LawS L g (mapL v1 v2 (some (.int a ta)) (some (.int b tb)) (some (.int c tc)) v6 v7 v8 none none none none none) c1 c2 c3 c4 c5 c6 news s.heap)
   (post : ∀ t1 t2 t3 h' tk', LawS L g (mapL v1 v2 (some (.int a ta)) (some (.int b tb)) (some (.int c tc)) v6 v7 v8 none none none none none) c1 (some (.int (a.fmod 3 + 1) t1)) (some (.int (b.fmod 3 + 1) t2)) (some (.int (c.fmod 3 + 1) t3)) c5 c6 news h' → P .next { s with heap := h', toks := tk' }) :
   wpAny (model Challenge.rw_qu0064_01.row.prog w) (AW L fa cd) (exec lb6.1 (envW L fa cd)) P E s := by
  revert X; k_fill; intro X
  have off := S.off
  obtain ⟨F, ⟨o1, o2, o3, o4, o5, o6, N, d1, d2, d3, d4, d5, d6⟩, _⟩ := S
  k_steps
  refine stop_go ?_
  rename Fr _ _ _ _ => F9
  rename News _ _ _ _ => N9
  refine storeX_C F9 (News.tl N9) rfl (upd2 off) d2 fun h1 x2 F8 N8 e2 => ?_
  clear F9 N9
  k_steps
  refine stop_go ?_
  rename Fr _ _ _ _ => F7
  refine storeX_C F7 N8 rfl (upd3 off) d3 fun h2 x3 F6 N6 e3 => ?_
  clear F7 N8
  k_steps
  refine stop_go ?_
  rename Fr _ _ _ _ => F5
  refine storeX_C F5 N6 rfl (upd4 off) d4 fun h3 x4 F4 N4 e4 => ?_
  clear F5 N6
  k_steps
  rename Fr _ _ _ _ => F3
  exact post _ _ _ _ _ ⟨F3, ⟨_, _, _, _, _, _, N4, d1, e2, e3, e4, d5, d6⟩, off⟩
set_option maxRecDepth 100000 in
set_option maxHeartbeats 1000000 in
theorem law_start (w : World) {p : Program} {loose : List Str} {mean : ExcName → Option Value} {mg mb : Str → Option Value} {base g : Heap} {L : Nat} {fa : Addr} {cd : Value} {s : Shared} {E : Value → Shared → Prop} {P : Flow → Shared → Prop}
   (X : (heapK w.params).In g) (T : Top p loose mean mg mb g) (B : Below callerA base [] g) {news : Led} {c1 c2 c3 c4 c5 c6 : Option Value}
   {v1 v2 v3 v4 v5 v7 v8 : Option Value} {d : Int} {td : Tok}
   (S : LawS L g (mapL v1 v2 v3 v4 v5 (some (.int d td)) v7 v8 none none none none none) c1 c2 c3 c4 c5 c6 news s.heap)
   (post : ∀ t1 h' tk', LawS L g (mapL v1 v2 v3 v4 v5 (some (.int d td)) v7 v8 none none none none none) c1 c2 c3 c4 (some (.int (d.fmod 4) t1)) c6 news h' → P .next { s with heap := h', toks := tk' }) :
   wpAny (model Challenge.rw_qu0064_01.row.prog w) (AW L fa cd) (exec lb7.1 (envW L fa cd)) P E s := by
  revert X; k_fill; intro X
  have off := S.off
  obtain ⟨F, ⟨o1, o2, o3, o4, o5, o6, N, d1, d2, d3, d4, d5, d6⟩, _⟩ := S
  k_steps
  refine stop_go ?_
  rename Fr _ _ _ _ => F9
  refine storeX_C F9 N rfl (upd5 off) d5 fun h' o' F' N' d' => ?_
  exact post _ _ _ ⟨F', ⟨_, _, _, _, _, _, N', d1, d2, d3, d4, d', d6⟩, off⟩
end
section
open PySem PySem.W PyProof.Rows PySem.Spec PySem.Calls PyProof.Rows.LCg
set_option Elab.async false
local macro_rules | `(tactic| walk_at "zz0") => `(tactic| skip)
theorem fresh_ML11 : True := by
  w_top off
  trivial
local macro_rules | `(tactic| walk_at "pyIter ref") => `(tactic| (refine stop_of ?_))
noncomputable def placeAt (st f s k : Int) (i : Nat) : Int := st + f * (i / 9 : Nat) + s * (i / 3 % 3 : Nat) + k * (i % 3 : Nat)
noncomputable def PlacesAre (st f s k : Int) (c : Nat) (ys : List Value) : Prop := ys.length = c ∧ ∀ i, i < c → ∃ t, ys[i]? = some (.int (placeAt st f s k i) t)
theorem places_snoc {st f s k : Int} {c : Nat} {ys : List Value} {t : Tok} (h : PlacesAre st f s k c ys) : PlacesAre st f s k (c + 1) (ys ++ [.int (placeAt st f s k c) t]) := by
  obtain ⟨h1, h2⟩ := h
  refine ⟨by simp [h1], fun i hi => ?_⟩
  by_cases e : i < c
  · obtain ⟨t', ht⟩ := h2 i e
    exact ⟨t', by rw [List.getElem?_append_left (by omega)]; exact ht⟩
  · have e2 : i = ys.length := by omega
    subst e2
    exact ⟨t, by rw [List.getElem?_concat_length, h1]⟩
theorem counts_all : ((List.range 27).all fun i => decide (Txt.count (strN (wordAt i)) (Str.ofString "f") = (i / 9 : Nat)) && decide (Txt.count (strN (wordAt i)) (Str.ofString "s") = (i / 3 % 3 : Nat)) && decide (Txt.count (strN (wordAt i)) (Str.ofString "k") = (i % 3 : Nat))) = true := by decide +kernel
theorem counts_is {i : Nat} (hi : i < 27) : Txt.count (strN (wordAt i)) (Str.ofString "f") = (i / 9 : Nat) ∧ Txt.count (strN (wordAt i)) (Str.ofString "s") = (i / 3 % 3 : Nat) ∧ Txt.count (strN (wordAt i)) (Str.ofString "k") = (i % 3 : Nat) := by
  have h := List.all_eq_true.mp counts_all i (List.mem_range.mpr hi)
  simp only [Bool.and_eq_true, decide_eq_true_eq] at h
  exact ⟨h.1.1, h.1.2, h.2⟩
set_option maxRecDepth 100000 in
set_option maxHeartbeats 1000000 in
theorem law_places (w : World) {p : Program} {loose : List Str} {mean : ExcName → Option Value} {mg mb : Str → Option Value} {base g : Heap} {L : Nat} {fa : Addr} {cd : Value} {s : Shared} {E : Value → Shared → Prop} {P : Flow → Shared → Prop}
   (X : (heapK w.params).In g) (T : Top p loose mean mg mb g) (B : Below callerA base [] g) {news : Led} {c1 c6 : Option Value}
   {v1 v2 v3 v4 v5 v6 v8 : Option Value} {W : Addr} {ysW : List Value} {f s' k st : Int} {tf ts tk' tst : Tok} (hf : 1 ≤ f ∧ f ≤ 3) (hs : 1 ≤ s' ∧ s' ≤ 3) (hk : 1 ≤ k ∧ k ≤ 3) (hst : 0 ≤ st ∧ st ≤ 3) (hW : WordsAre 27 ysW) (mW : (W, lst ysW) ∈ news)
   (S : LawS L g (mapL v1 v2 v3 v4 v5 v6 (some (.ref W)) v8 none none none none none) c1 (some (.int f tf)) (some (.int s' ts)) (some (.int k tk')) (some (.int st tst)) c6 news s.heap)
   (post : ∀ (Q : Addr) ys h' tk2, PlacesAre st f s' k 27 ys → LawS L g (mapL v1 v2 v3 v4 v5 v6 (some (.ref W)) v8 (some (.ref Q)) none none none none) c1 (some (.int f tf)) (some (.int s' ts)) (some (.int k tk')) (some (.int st tst)) c6 ((Q, lst ys) :: news) h' → P .next { s with heap := h', toks := tk2 }) :
   wpAny (model Challenge.rw_qu0064_01.row.prog w) (AW L fa cd) (exec lb8.1 (envW L fa cd)) P E s := by
  revert X; k_fill; intro X
  have off := S.off
  obtain ⟨F, ⟨o1, o2, o3, o4, o5, o6, N, d1, d2, d3, d4, d5, d6⟩, _⟩ := S
  refine' comp_assign F ?q0 ?q1 ?qs ?qy ?qp ?q2 ?q3 ?q4 ?q5 ?_ ?q6
  case q0 => exact rfl
  case q1 => exact rfl
  case qs => exact rfl
  case qy => exact rfl
  case qp => exact rfl
  case q2 => with_unfolding_all rfl
  case q3 => decide
  case q4 => exact rfl
  case q5 => decide
  case q6 => exact fun _ => rfl
  dsimp only
  k_steps
  refine stop_go ?_
  rename Fr _ _ _ _ => F9
  have hl : ysW.toArray.size = 27 := by rw [List.size_toArray]; exact hW.1
  refine src_list (its := ysW.toArray) rfl F9 N (.inr ⟨_, .tail _ (.tail _ (.tail _ (.tail _ (.tail _ (.tail _ mW))))), rfl, _, rfl⟩) (fun ys nw => ys.length = ysW.toArray.size ∧ nw = cells6 L o1 o2 o3 o4 o5 o6 news ∧ PlacesAre st f s' k ysW.toArray.size ys) ?_ ?_
  · intro I h' C D h tk R offI K ne cst hR
    refine loop1 (fun _ => rfl) K ne rfl rfl (by rw [hl]; decide) (fun c ys nw => nw = cells6 L o1 o2 o3 o4 o5 o6 news ∧ PlacesAre st f s' k c ys) ?_ cst ⟨rfl, rfl, fun i hi => absurd hi (Nat.not_lt_zero _)⟩ hR
    intro i v ys m₂ nw h tk oI oC Q' E' hi hp hJ hoC e0 F2 N2 off2 hS hSt ret
    obtain ⟨rfl, hP⟩ := hJ
    have hi27 : i < 27 := by omega
    obtain ⟨t, e⟩ := hW.2 i hi27
    have e2 : v = .str (strN (wordAt i)) t := by
      have hp' : ysW[i]? = some v := by simpa using hp
      rw [e] at hp'
      exact (Option.some.inj hp').symm
    subst e2
    clear F9 N hR
    k_steps
    obtain ⟨w1, w2, w3⟩ := counts_is hi27
    rw [w1, w2, w3]
    rename Fr _ _ _ _ => F3
    exact ret _ _ _ _ F3 N2 off2 hS ⟨rfl, places_snoc hP⟩
  · intro D ys nw h' tk'' F' N' o f
    obtain ⟨f1, rfl, f3⟩ := f
    rw [hl] at f3
    exact post D ys h' tk'' f3 (LawS.of [(D, lst ys)] (fr_map F' mapL_places) (cells_front [(D, lst ys)] N') d1 d2 d3 d4 d5 d6 (noc1 noCell_list) off)
end
section
open PySem PySem.W PyProof.Rows PySem.Spec PySem.Calls PyProof.Rows.LCg
set_option Elab.async false
theorem fresh_ML12 : True := by
  w_top off
  trivial
local macro_rules | `(tactic| walk_at "pyIter ref") => `(tactic| (refine stop_of ?_))
set_option maxRecDepth 100000 in
set_option maxHeartbeats 1000000 in
theorem law_told (w : World) {p : Program} {loose : List Str} {mean : ExcName → Option Value} {mg mb : Str → Option Value} {base g : Heap} {L : Nat} {fa : Addr} {cd : Value} {s : Shared} {E : Value → Shared → Prop} {P : Flow → Shared → Prop}
   (X : (heapK w.params).In g) (T : Top p loose mean mg mb g) (B : Below callerA base [] g) {news : Led} {c1 c6 : Option Value}
   {v1 v2 v3 v4 v5 v6 v7 v9 : Option Value} {K : Addr} {ysK : List Value} {f s' k st : Int} {tf ts tk' tst : Tok} (hf : 1 ≤ f ∧ f ≤ 3) (hs : 1 ≤ s' ∧ s' ≤ 3) (hk : 1 ≤ k ∧ k ≤ 3) (hst : 0 ≤ st ∧ st ≤ 3) (hK : CountsAre 27 ysK news) (mK : (K, lst ysK) ∈ news)
   (S : LawS L g (mapL v1 v2 v3 v4 v5 v6 v7 (some (.ref K)) v9 none none none none) c1 (some (.int f tf)) (some (.int s' ts)) (some (.int k tk')) (some (.int st tst)) c6 news s.heap)
   (post : ∀ (Q : Addr) ys h' tk2, PlacesAre st f s' k 27 ys → LawS L g (mapL v1 v2 v3 v4 v5 v6 v7 (some (.ref K)) v9 (some (.ref Q)) none none none) c1 (some (.int f tf)) (some (.int s' ts)) (some (.int k tk')) (some (.int st tst)) c6 ((Q, lst ys) :: news) h' → P .next { s with heap := h', toks := tk2 }) :
   wpAny (model Challenge.rw_qu0064_01.row.prog w) (AW L fa cd) (exec lb9.1 (envW L fa cd)) P E s := by
  revert X; k_fill; intro X
  have off := S.off
  obtain ⟨F, ⟨o1, o2, o3, o4, o5, o6, N, d1, d2, d3, d4, d5, d6⟩, _⟩ := S
  refine' comp_assign F ?q0 ?q1 ?qs ?qy ?qp ?q2 ?q3 ?q4 ?q5 ?_ ?q6
  case q0 => exact rfl
  case q1 => exact rfl
  case qs => exact rfl
  case qy => exact rfl
  case qp => exact rfl
  case q2 => with_unfolding_all rfl
  case q3 => decide
  case q4 => exact rfl
  case q5 => decide
  case q6 => exact fun _ => rfl
  dsimp only
  k_steps
  refine stop_go ?_
  rename Fr _ _ _ _ => F9
  have hl : ysK.toArray.size = 27 := by rw [List.size_toArray]; exact hK.1
  refine src_list (its := ysK.toArray) rfl F9 N (.inr ⟨_, .tail _ (.tail _ (.tail _ (.tail _ (.tail _ (.tail _ mK))))), rfl, _, rfl⟩) (fun ys nw => ys.length = ysK.toArray.size ∧ nw = cells6 L o1 o2 o3 o4 o5 o6 news ∧ PlacesAre st f s' k ysK.toArray.size ys) ?_ ?_
  · intro I h' C D h tk R offI K' ne cst hR
    refine loopT rfl (fun _ => rfl) K' ne rfl rfl rfl (by decide) (by decide) (by decide) rfl (by rw [hl]; decide) (fun c ys nw => nw = cells6 L o1 o2 o3 o4 o5 o6 news ∧ PlacesAre st f s' k c ys) ?tup ?step cst ⟨rfl, rfl, fun i hi => absurd hi (Nat.not_lt_zero _)⟩ hR
    case tup =>
      intro i v ys nw hi hp hJ
      obtain ⟨T9, t0, t1, t2, n, e, hm⟩ := hK.2 i (by omega)
      have e2 : v = .ref T9 := by
        have hp' : ysK[i]? = some v := by simpa using hp
        rw [e] at hp'
        exact (Option.some.inj hp').symm
      obtain ⟨rfl, _⟩ := hJ
      exact ⟨T9, _, _, _, n, e2, _, .tail _ (.tail _ (.tail _ (.tail _ (.tail _ (.tail _ hm))))), rfl, rfl⟩
    case step =>
      intro i T9 a b c nt ys m₂ nw h tk oI oC Q' E' hi hp hT hJ hoC e0 e1 e2 F2 N2 off2 hS ret
      obtain ⟨rfl, hP⟩ := hJ
      have hi27 : i < 27 := by omega
      obtain ⟨T8, t0, t1, t2, n, e, hm⟩ := hK.2 i hi27
      have e9 : T8 = T9 := by
        have hp' : ysK[i]? = some (.ref T9) := by simpa using hp
        rw [e] at hp'
        exact Value.ref.inj (Option.some.inj hp')
      subst e9
      obtain ⟨oT, hm2, hc2, hd2⟩ := hT
      have g1 := (N2 _ (.tail _ (.tail _ (.tail _ hm2)))).1
      have g2 := (N2 _ (.tail _ (.tail _ (.tail _ (.tail _ (.tail _ (.tail _ (.tail _ (.tail _ (.tail _ hm)))))))))).1
      dsimp only at g1 g2
      have e8 := Option.some.inj (g1.symm.trans g2)
      subst e8
      obtain ⟨rfl, rfl, rfl⟩ : a = .int (i / 9 : Nat) t0 ∧ b = .int (i / 3 % 3 : Nat) t1 ∧ c = .int (i % 3 : Nat) t2 := by
        have h := congrArg Array.toList (Data.seq.inj hd2).1
        simp only [List.cons.injEq] at h
        exact ⟨h.1.symm, h.2.1.symm, h.2.2.1.symm⟩
      have b0 : i / 9 < 3 := by omega
      have b1 : i / 3 % 3 < 3 := by omega
      have b2 : i % 3 < 3 := by omega
      clear F9 N hR
      k_steps
      rename Fr _ _ _ _ => F3
      exact ret _ _ _ _ F3 N2 off2 hS ⟨rfl, places_snoc hP⟩
  · intro D ys nw h' tk'' F' N' o f
    obtain ⟨f1, rfl, f3⟩ := f
    rw [hl] at f3
    exact post D ys h' tk'' f3 (LawS.of [(D, lst ys)] (fr_map F' mapL_told) (cells_front [(D, lst ys)] N') d1 d2 d3 d4 d5 d6 (noc1 noCell_list) off)
end
section
open PySem PySem.W PyProof.Rows PySem.Spec PySem.Calls
set_option Elab.async false
theorem fresh_MG2 : True := by
  w_top off
  trivial
noncomputable abbrev fSix (h : UInt64) : UInt64 := Float64.mul h 4618441417868443648
noncomputable abbrev fInt (h : UInt64) : Int := Flt.toInt Float64.truncOf (fSix h)
noncomputable abbrev fOne : UInt64 := 4607182418800017408
noncomputable abbrev fFra (h : UInt64) : UInt64 := Float64.sub (fSix h) (Float64.ofInt (fInt h))
noncomputable abbrev fT (h : UInt64) : UInt64 := Float64.mul fOne (Float64.sub fOne (Float64.mul fOne (Float64.sub fOne (fFra h))))
noncomputable abbrev fP : UInt64 := Float64.mul fOne (Float64.sub fOne fOne)
set_option maxRecDepth 100000 in
set_option maxHeartbeats 1000000 in
theorem c_hsv0 (w : World) (news : Led) (h : UInt64) (t1 t2 t3 : Tok) (hz : (Float64.cmp 4607182418800017408 0 == some Ordering.eq) = false) (hf : Float64.isFinite (Float64.mul h 4618441417868443648) = true) (hf1 : Float64.isNaN (Float64.mul h 4618441417868443648) = false) (hf2 : Float64.isInf (Float64.mul h 4618441417868443648) = false) (hn : (Flt.toInt Float64.truncOf (Float64.mul h 4618441417868443648)).natAbs < 2 ^ 1024 - 2 ^ 970) (hc : (Flt.toInt Float64.truncOf (Float64.mul h 4618441417868443648)).fmod 6 = 0) :
   Ctr w 1 8 92 news [.float h t1, .float 4607182418800017408 t2, .float 4607182418800017408 t3] (Tup3 fOne (fT h) fP) := by
  unfold Ctr; k_fill; intros; rename_i hret
  refine wpAny_call ?_
  k_dflt cell_enter
  k_steps
  · have hb : (Float64.cmp 4607182418800017408 0 == some Ordering.eq) = true := by assumption
    rw [hz] at hb; cases hb
  all_goals first
    | exact absurd hc (by assumption)
    | exact absurd (hc.symm.trans (by assumption : (Flt.toInt Float64.truncOf (Float64.mul h 4618441417868443648)).fmod 6 = 0)) (by decide)
    | exact absurd (hc.symm.trans (by assumption : (Flt.toInt Float64.truncOf (Float64.mul h 4618441417868443648)).fmod 6 = 1)) (by decide)
    | exact absurd (hc.symm.trans (by assumption : (Flt.toInt Float64.truncOf (Float64.mul h 4618441417868443648)).fmod 6 = 2)) (by decide)
    | exact absurd (hc.symm.trans (by assumption : (Flt.toInt Float64.truncOf (Float64.mul h 4618441417868443648)).fmod 6 = 3)) (by decide)
    | exact absurd (hc.symm.trans (by assumption : (Flt.toInt Float64.truncOf (Float64.mul h 4618441417868443648)).fmod 6 = 4)) (by decide)
    | exact absurd (hc.symm.trans (by assumption : (Flt.toInt Float64.truncOf (Float64.mul h 4618441417868443648)).fmod 6 = 5)) (by decide)
    | skip
  refine' hret _ (?p1 :: []) _ _ ?eR ?eF ?eN
  case eF => k_asm
  case eN => k_asm
  exact ⟨_, _, _, _, _, rfl, rfl⟩
set_option maxRecDepth 100000 in
set_option maxHeartbeats 1000000 in
theorem c_hsv2 (w : World) (news : Led) (h : UInt64) (t1 t2 t3 : Tok) (hz : (Float64.cmp 4607182418800017408 0 == some Ordering.eq) = false) (hf : Float64.isFinite (Float64.mul h 4618441417868443648) = true) (hf1 : Float64.isNaN (Float64.mul h 4618441417868443648) = false) (hf2 : Float64.isInf (Float64.mul h 4618441417868443648) = false) (hn : (Flt.toInt Float64.truncOf (Float64.mul h 4618441417868443648)).natAbs < 2 ^ 1024 - 2 ^ 970) (hc : (Flt.toInt Float64.truncOf (Float64.mul h 4618441417868443648)).fmod 6 = 2) :
   Ctr w 1 8 92 news [.float h t1, .float 4607182418800017408 t2, .float 4607182418800017408 t3] (Tup3 fP fOne (fT h)) := by
  unfold Ctr; k_fill; intros; rename_i hret
  refine wpAny_call ?_
  k_dflt cell_enter
  k_steps
  · have hb : (Float64.cmp 4607182418800017408 0 == some Ordering.eq) = true := by assumption
    rw [hz] at hb; cases hb
  all_goals first
    | exact absurd hc (by assumption)
    | exact absurd (hc.symm.trans (by assumption : (Flt.toInt Float64.truncOf (Float64.mul h 4618441417868443648)).fmod 6 = 0)) (by decide)
    | exact absurd (hc.symm.trans (by assumption : (Flt.toInt Float64.truncOf (Float64.mul h 4618441417868443648)).fmod 6 = 1)) (by decide)
    | exact absurd (hc.symm.trans (by assumption : (Flt.toInt Float64.truncOf (Float64.mul h 4618441417868443648)).fmod 6 = 2)) (by decide)
    | exact absurd (hc.symm.trans (by assumption : (Flt.toInt Float64.truncOf (Float64.mul h 4618441417868443648)).fmod 6 = 3)) (by decide)
    | exact absurd (hc.symm.trans (by assumption : (Flt.toInt Float64.truncOf (Float64.mul h 4618441417868443648)).fmod 6 = 4)) (by decide)
    | exact absurd (hc.symm.trans (by assumption : (Flt.toInt Float64.truncOf (Float64.mul h 4618441417868443648)).fmod 6 = 5)) (by decide)
    | skip
  refine' hret _ (?p1 :: []) _ _ ?eR ?eF ?eN
  case eF => k_asm
  case eN => k_asm
  exact ⟨_, _, _, _, _, rfl, rfl⟩
set_option maxRecDepth 100000 in
set_option maxHeartbeats 1000000 in
theorem c_hsv4 (w : World) (news : Led) (h : UInt64) (t1 t2 t3 : Tok) (hz : (Float64.cmp 4607182418800017408 0 == some Ordering.eq) = false) (hf : Float64.isFinite (Float64.mul h 4618441417868443648) = true) (hf1 : Float64.isNaN (Float64.mul h 4618441417868443648) = false) (hf2 : Float64.isInf (Float64.mul h 4618441417868443648) = false) (hn : (Flt.toInt Float64.truncOf (Float64.mul h 4618441417868443648)).natAbs < 2 ^ 1024 - 2 ^ 970) (hc : (Flt.toInt Float64.truncOf (Float64.mul h 4618441417868443648)).fmod 6 = 4) :
   Ctr w 1 8 92 news [.float h t1, .float 4607182418800017408 t2, .float 4607182418800017408 t3] (Tup3 (fT h) fP fOne) := by
  unfold Ctr; k_fill; intros; rename_i hret
  refine wpAny_call ?_
  k_dflt cell_enter
  k_steps
  · have hb : (Float64.cmp 4607182418800017408 0 == some Ordering.eq) = true := by assumption
    rw [hz] at hb; cases hb
  all_goals first
    | exact absurd hc (by assumption)
    | exact absurd (hc.symm.trans (by assumption : (Flt.toInt Float64.truncOf (Float64.mul h 4618441417868443648)).fmod 6 = 0)) (by decide)
    | exact absurd (hc.symm.trans (by assumption : (Flt.toInt Float64.truncOf (Float64.mul h 4618441417868443648)).fmod 6 = 1)) (by decide)
    | exact absurd (hc.symm.trans (by assumption : (Flt.toInt Float64.truncOf (Float64.mul h 4618441417868443648)).fmod 6 = 2)) (by decide)
    | exact absurd (hc.symm.trans (by assumption : (Flt.toInt Float64.truncOf (Float64.mul h 4618441417868443648)).fmod 6 = 3)) (by decide)
    | exact absurd (hc.symm.trans (by assumption : (Flt.toInt Float64.truncOf (Float64.mul h 4618441417868443648)).fmod 6 = 4)) (by decide)
    | exact absurd (hc.symm.trans (by assumption : (Flt.toInt Float64.truncOf (Float64.mul h 4618441417868443648)).fmod 6 = 5)) (by decide)
    | skip
  refine' hret _ (?p1 :: []) _ _ ?eR ?eF ?eN
  case eF => k_asm
  case eN => k_asm
  exact ⟨_, _, _, _, _, rfl, rfl⟩
noncomputable def thirdF (n : Nat) : UInt64 := Float64.div (Float64.ofInt n) (Float64.ofInt 3)
noncomputable def lampR (n : Nat) : UInt64 := if n % 3 = 0 then fOne else 0
noncomputable def lampG (n : Nat) : UInt64 := if n % 3 = 1 then fOne else 0
noncomputable def lampB (n : Nat) : UInt64 := if n % 3 = 2 then fOne else 0
end
section
open PySem PySem.W PyProof.Rows PySem.Spec PySem.Calls PyProof.Rows.LCg
set_option Elab.async false
theorem fresh_ML13 : True := by
  w_top off
  trivial
local macro_rules | `(tactic| walk_at "pyIter ref") => `(tactic| (refine stop_of ?_))
local macro_rules | `(tactic| walk_at "call ref") => `(tactic| (refine stop_of ?_))
noncomputable def hueN (n : Nat) : UInt64 := Float64.ofFrac (decide ((n : Int) < 0) != decide ((3 : Int) < 0)) (n : Int).natAbs (Int.natAbs 3)
noncomputable def lampF (n : Nat) : Rgb := match n % 3 with | 0 => (fOne, 0, 0) | 1 => (0, fOne, 0) | _ => (0, 0, fOne)
theorem hue_all : ((List.range 7).all fun n => Float64.isFinite (Float64.mul (hueN n) 4618441417868443648) && !Float64.isNaN (Float64.mul (hueN n) 4618441417868443648) && !Float64.isInf (Float64.mul (hueN n) 4618441417868443648) && decide ((Flt.toInt Float64.truncOf (Float64.mul (hueN n) 4618441417868443648)).natAbs < 2 ^ 1024 - 2 ^ 970) && decide ((Flt.toInt Float64.truncOf (Float64.mul (hueN n) 4618441417868443648)).fmod 6 = 2 * (n % 3 : Nat)) && (fT (hueN n) == 0)) = true := by decide +kernel
theorem hz_all : (Float64.cmp 4607182418800017408 0 == some Ordering.eq) = false := by decide +kernel
theorem fP_all : fP = 0 := by decide +kernel
theorem c_hsvN (w : World) (news : Led) (n : Nat) (hn : n ≤ 6) (t1 t2 t3 : Tok) : Ctr w 1 8 92 news [.float (hueN n) t1, .float 4607182418800017408 t2, .float 4607182418800017408 t3] (Tup3 (lampF n).1 (lampF n).2.1 (lampF n).2.2) := by
  have h := List.all_eq_true.mp hue_all n (List.mem_range.mpr (by omega))
  simp only [Bool.and_eq_true, decide_eq_true_eq, Bool.not_eq_true'] at h
  obtain ⟨⟨⟨⟨⟨h1, h2⟩, h3⟩, h4⟩, h5⟩, h6⟩ := h
  have h7 := beq_iff_eq.mp h6
  have h8 : n % 3 = 0 ∨ n % 3 = 1 ∨ n % 3 = 2 := by omega
  unfold lampF
  rcases h8 with e | e | e
  · rw [e] at h5 ⊢
    have c := c_hsv0 w news (hueN n) t1 t2 t3 hz_all h1 h2 h3 h4 h5
    rw [h7, fP_all] at c
    exact c
  · rw [e] at h5 ⊢
    have c := c_hsv2 w news (hueN n) t1 t2 t3 hz_all h1 h2 h3 h4 h5
    rw [h7, fP_all] at c
    exact c
  · rw [e] at h5 ⊢
    have c := c_hsv4 w news (hueN n) t1 t2 t3 hz_all h1 h2 h3 h4 h5
    rw [h7, fP_all] at c
    exact c
noncomputable def lenAt (i : Nat) : Nat := i / 9 + i / 3 % 3 + i % 3
theorem len_is (i : Nat) : (strN (wordAt i)).length = lenAt i := by
  show (wordAt i).toArray.size = _
  simp [wordAt, wordC, lenAt, Nat.add_assoc]
noncomputable def LampsAre (c : Nat) (ys : List Value) (news : Led) : Prop := ys.length = c ∧ ∀ i, i < c → ∃ D t0 t1 t2 n, ys[i]? = some (.ref D) ∧ (D, tup3 (lampF (lenAt i)).1 (lampF (lenAt i)).2.1 (lampF (lenAt i)).2.2 t0 t1 t2 n) ∈ news
theorem lamps_snoc {c D n : Nat} {ys : List Value} {news : Led} {t0 t1 t2 : Tok} (h : LampsAre c ys news) : LampsAre (c + 1) (ys ++ [.ref D]) ((D, tup3 (lampF (lenAt c)).1 (lampF (lenAt c)).2.1 (lampF (lenAt c)).2.2 t0 t1 t2 n) :: news) := by
  obtain ⟨h1, h2⟩ := h
  refine ⟨by simp [h1], fun i hi => ?_⟩
  by_cases e : i < c
  · obtain ⟨T', t0', t1', t2', n', ht, hm⟩ := h2 i e
    exact ⟨T', t0', t1', t2', n', by rw [List.getElem?_append_left (by omega)]; exact ht, .tail _ hm⟩
  · have e2 : i = c := by omega
    subst e2
    exact ⟨D, t0, t1, t2, n, by rw [← h1, List.getElem?_concat_length], .head _⟩
theorem noCell_tup3 {x y z : UInt64} {a b c : Tok} {n : Nat} : NoCell (tup3 x y z a b c n) := fun _ h => by cases h
theorem tup_off {g h : Heap} {L D9 I C D ax i : Nat} {oI oC : Obj} {m₂ : Str → Option Value} {ys : List Value} {r : Led} {x y z : UInt64} {a b c : Tok} {n : Nat} (N : News g L h ((D9, tup3 x y z a b c n) :: (I, oI) :: (C, oC) :: (D, lst ys) :: r)) (hoC : NsObj oC m₂) (hI : h.IsListIter I ax i) : D9 ≠ I ∧ D9 ≠ C ∧ D9 ≠ D := by
  have n9 := (N _ (.head _)).1
  have nI := (N _ (.tail _ (.head _))).1
  have nC := (N _ (.tail _ (.tail _ (.head _)))).1
  have nD := (N _ (.tail _ (.tail _ (.tail _ (.head _))))).1
  dsimp only at n9 nI nC nD
  refine ⟨fun e => ?_, fun e => ?_, fun e => ?_⟩
  · obtain ⟨o, ho, hc, _⟩ := hI
    rw [e, ho] at n9
    have := congrArg Obj.cls (Option.some.inj n9)
    rw [hc] at this
    exact absurd (Value.type.inj this) (by decide)
  · obtain ⟨es, ep, hd, _⟩ := hoC
    rw [e, nC] at n9
    have := congrArg Obj.data (Option.some.inj n9)
    rw [hd] at this
    cases this
  · rw [e, nD] at n9
    have := congrArg Obj.cls (Option.some.inj n9)
    exact absurd (Value.type.inj this) (by decide)
theorem to_fourth {g h : Heap} {L : Addr} {x a b c : Addr × Obj} {r : Led} (N : News g L h (x :: a :: b :: c :: r)) : News g L h (a :: b :: c :: x :: r) := News.sub N fun q hq => by
  simp only [List.mem_cons] at hq ⊢
  rcases hq with h | h | h | h | h <;> simp only [h, true_or, or_true]
set_option maxRecDepth 100000 in
set_option maxHeartbeats 1000000 in
theorem law_lamps (w : World) {p : Program} {loose : List Str} {mean : ExcName → Option Value} {mg mb : Str → Option Value} {base g : Heap} {L : Nat} {fa : Addr} {cd : Value} {s : Shared} {E : Value → Shared → Prop} {P : Flow → Shared → Prop}
   (X : (heapK w.params).In g) (T : Top p loose mean mg mb g) (B : Below callerA base [] g) {news : Led} {c1 c2 c3 c4 c5 c6 : Option Value}
   {v1 v2 v3 v4 v5 v6 v8 v9 v10 : Option Value} {W : Addr} {ysW : List Value} (hW : WordsAre 27 ysW) (mW : (W, lst ysW) ∈ news)
   (S : LawS L g (mapL v1 v2 v3 v4 v5 v6 (some (.ref W)) v8 v9 v10 none none none) c1 c2 c3 c4 c5 c6 news s.heap)
   (post : ∀ (Q : Addr) ys add h' tk2, LampsAre 27 ys add → LawS L g (mapL v1 v2 v3 v4 v5 v6 (some (.ref W)) v8 v9 v10 (some (.ref Q)) none none) c1 c2 c3 c4 c5 c6 ((Q, lst ys) :: (add ++ news)) h' → P .next { s with heap := h', toks := tk2 }) :
   wpAny (model Challenge.rw_qu0064_01.row.prog w) (AW L fa cd) (exec lb10.1 (envW L fa cd)) P E s := by
  revert X; k_fill; intro X
  have off := S.off
  obtain ⟨F, ⟨o1, o2, o3, o4, o5, o6, N, d1, d2, d3, d4, d5, d6⟩, _⟩ := S
  refine' comp_assign F ?q0 ?q1 ?qs ?qy ?qp ?q2 ?q3 ?q4 ?q5 ?_ ?q6
  case q0 => exact rfl
  case q1 => exact rfl
  case qs => exact rfl
  case qy => exact rfl
  case qp => exact rfl
  case q2 => with_unfolding_all rfl
  case q3 => decide
  case q4 => exact rfl
  case q5 => decide
  case q6 => exact fun _ => rfl
  dsimp only
  k_steps
  refine stop_go ?_
  rename Fr _ _ _ _ => F9
  have hl : ysW.toArray.size = 27 := by rw [List.size_toArray]; exact hW.1
  refine src_list (its := ysW.toArray) rfl F9 N (.inr ⟨_, .tail _ (.tail _ (.tail _ (.tail _ (.tail _ (.tail _ mW))))), rfl, _, rfl⟩) (fun ys nw => ys.length = ysW.toArray.size ∧ ∃ add, nw = add ++ cells6 L o1 o2 o3 o4 o5 o6 news ∧ (∀ q ∈ add, NoCell q.2) ∧ LampsAre ysW.toArray.size ys add) ?_ ?_
  · intro I h' C D h tk R offI K ne cst hR
    refine loop1 (fun _ => rfl) K ne rfl rfl (by rw [hl]; decide) (fun c ys nw => ∃ add, nw = add ++ cells6 L o1 o2 o3 o4 o5 o6 news ∧ (∀ q ∈ add, NoCell q.2) ∧ LampsAre c ys add) ?_ cst ⟨[], rfl, (fun _ h => nomatch h), rfl, fun i hi => absurd hi (Nat.not_lt_zero _)⟩ hR
    intro i v ys m₂ nw h tk oI oC Q' E' hi hp hJ hoC e0 F2 N2 off2 hS hSt ret
    obtain ⟨add, rfl, hA, hP⟩ := hJ
    have hi27 : i < 27 := by omega
    obtain ⟨t, e⟩ := hW.2 i hi27
    have e2 : v = .str (strN (wordAt i)) t := by
      have hp' : ysW[i]? = some v := by simpa using hp
      rw [e] at hp'
      exact (Option.some.inj hp').symm
    subst e2
    clear F9 N hR
    have hn := len_is i
    have hn6 : lenAt i ≤ 6 := by unfold lenAt; omega
    generalize strN (wordAt i) = x at e0 hn
    clear e hp
    k_steps
    refine stop_go ?_
    rw [hn]
    refine' Ctr.use (c_hsvN w _ (lenAt i) hn6 _ _ _) ?k1 ?k2 ?k3 ?k4 ?k5 ?kK ?kd ?ku ?_
    case k4 => k_asm
    case k1 => k_asm
    case k2 => k_asm
    case k3 => k_asm
    case k5 => k_asm
    case kK => exact rfl
    case kd => ktr_room
    case ku => ktr_units
    intro v9 more9 h9 tk9 hR9 F9 N9
    obtain ⟨D9, a9, b9, c9, n9, e9, e8⟩ := hR9
    subst e9 e8
    have hI9 : h9.IsListIter I W (i + 1) := by
      obtain ⟨o, ho, hr⟩ := hSt.1
      have q := (N2 _ (.head _)).1
      have q9 := (N9 _ (.tail _ (.head _))).1
      dsimp only at q q9
      rw [ho] at q
      exact ⟨o, Option.some.inj q ▸ q9, hr⟩
    have o9 := tup_off N9 hoC hI9
    refine ret _ _ _ _ F9 (to_fourth N9) ⟨o9, off2⟩ ?_ ⟨(D9, _) :: add, rfl, List.forall_mem_cons.2 ⟨noCell_tup3, hA⟩, lamps_snoc hP⟩
    rcases hS with h | ⟨o, hm, r⟩
    · exact .inl h
    · exact .inr ⟨o, .tail _ hm, r⟩
  · intro D ys nw h' tk'' F' N' o f
    obtain ⟨f1, add, rfl, hA, f3⟩ := f
    rw [hl] at f3
    have N8 := cells_front ([(D, lst ys)] ++ add) (o1 := o1) (o2 := o2) (o3 := o3) (o4 := o4) (o5 := o5) (o6 := o6) (news := news) (by simpa only [List.append_assoc, List.cons_append, List.nil_append] using N')
    have z := LawS.of ([(D, lst ys)] ++ add) (fr_map F' mapL_lamps) N8 d1 d2 d3 d4 d5 d6 (noCell_app (noc1 noCell_list) hA) off
    rw [List.append_assoc] at z
    exact post D ys add h' tk'' f3 z
end
section
open PySem PySem.W PyProof.Rows PySem.Spec PySem.Calls
set_option Elab.async false
set_option maxRecDepth 100000
open PySem.Float64 in
theorem rep (a : Nat) (h : a < 2 ^ 53) : ∃ t, t < infMag ∧ V t = a * 2 ^ 1074 := by
  by_cases h0 : a = 0
  · subst h0
    exact ⟨0, by decide, by rw [V_zero]; simp⟩
  · have l1 : 2 ^ a.log2 ≤ a := Nat.log2_self_le h0
    have l2 : a < 2 ^ (a.log2 + 1) := (Nat.log2_lt h0).mp (Nat.lt_succ_self _)
    have l3 : a.log2 < 53 := (Nat.log2_lt h0).mpr h
    generalize a.log2 = l at l1 l2 l3
    have e1 : 2 ^ l * 2 ^ (52 - l) = 2 ^ 52 := by rw [← Nat.pow_add]; congr 1; omega
    have e2 : 2 ^ (l + 1) * 2 ^ (52 - l) = 2 ^ 53 := by rw [← Nat.pow_add]; congr 1; omega
    have q1 : 2 ^ 52 ≤ a * 2 ^ (52 - l) := e1 ▸ Nat.mul_le_mul_right _ l1
    have q2 : a * 2 ^ (52 - l) < 2 ^ 53 := e2 ▸ Nat.mul_lt_mul_of_pos_right l2 (Nat.two_pow_pos _)
    refine ⟨(1022 + l) * 2 ^ 52 + a * 2 ^ (52 - l), ?_, ?_⟩
    · have : (1022 + l) * 2 ^ 52 ≤ 1074 * 2 ^ 52 := Nat.mul_le_mul_right _ (by omega)
      exact Nat.lt_of_lt_of_le (Nat.add_lt_add_of_le_of_lt this q2) (show 1074 * 2 ^ 52 + 2 ^ 53 ≤ infMag by decide +kernel)
    · rw [V_at (Nat.le_of_lt q2) (.inl q1), Nat.mul_assoc, ← Nat.pow_add]
      congr 2
      omega
open PySem.Float64 in
theorem uniq {r : UInt64} {neg : Bool} {W D t0 : Nat} (R : Right r neg W D) (hD : 0 < D) (h0 : D * V t0 = W) (hW : 2 * W < D * ((2 ^ 54 - 1) * 2 ^ 2045)) : r = pack neg t0 := by
  obtain ⟨t, rfl, hle, hinf, hmin⟩ := R
  have ht : t < infMag := by
    rcases Nat.lt_or_eq_of_le hle with h | h
    · exact h
    · exact absurd (hinf.mp h) (Nat.not_le.mpr hW)
  have h1 := (hmin ht t0).1
  rw [h0] at h1
  have h2 : dist W W = 0 := by unfold dist; omega
  rw [h2] at h1
  have h3 : W = D * V t := by unfold dist at h1; omega
  have h4 : V t = V t0 := Nat.eq_of_mul_eq_mul_left hD (h3.symm.trans h0.symm)
  have h5 : t = t0 := by
    rcases Nat.lt_trichotomy t t0 with h | h | h
    · exact absurd h4 (Nat.ne_of_lt (V_lt h))
    · exact h
    · exact absurd h4.symm (Nat.ne_of_lt (V_lt h))
  rw [h5]
theorem small_fits {a D : Nat} (h : a < 2 ^ 53) (hD : 0 < D) : 2 * (D * (a * 2 ^ 1074)) < D * ((2 ^ 54 - 1) * 2 ^ 2045) := by
  have e : 2 * (D * (a * 2 ^ 1074)) = D * (2 * (a * 2 ^ 1074)) := by ac_rfl
  rw [e]
  refine Nat.mul_lt_mul_of_pos_left ?_ hD
  have h1 : a * 2 ^ 1074 < 2 ^ 53 * 2 ^ 1074 := Nat.mul_lt_mul_of_pos_right h (Nat.two_pow_pos _)
  have h2 : 2 * (2 ^ 53 * 2 ^ 1074) < (2 ^ 54 - 1) * 2 ^ 2045 := by decide +kernel
  exact Nat.lt_trans (Nat.mul_lt_mul_of_pos_left h1 (by decide)) h2
open PySem.Float64 in
theorem int_is {a t : Nat} (h : a < 2 ^ 53) (hV : V t = a * 2 ^ 1074) : Float64.ofInt (a : Int) = pack false t := by
  have R := ofInt_right (a : Int)
  rw [decide_eq_false (by omega), Int.natAbs_natCast] at R
  have hf := small_fits (D := 1) h (by decide)
  rw [Nat.one_mul] at hf
  exact uniq R (by decide) (by rw [Nat.one_mul, hV]) hf
open PySem.Float64 in
theorem int_fin {a : Nat} (h : a < 2 ^ 53) : ∃ m e, decode (Float64.ofInt (a : Int)) = .fin false m e ∧ val (Float64.ofInt (a : Int)) = (a : Int) * 2 ^ 1074 := by
  obtain ⟨t, h1, h2⟩ := rep a h
  rw [int_is h h2]
  obtain ⟨m, e, d1, d2⟩ := decode_pack false h1
  refine ⟨m, e, d1, ?_⟩
  rw [val_pack false h1, h2]
  show ((a * 2 ^ 1074 : Nat) : Int) = _
  rw [Int.natCast_mul, Int.natCast_pow]
  rfl
open PySem.Float64 in
theorem addI {a b : Nat} (h : a + b < 2 ^ 53) : Float64.add (Float64.ofInt (a : Int)) (Float64.ofInt (b : Int)) = Float64.ofInt ((a + b : Nat) : Int) := by
  obtain ⟨m, e, d1, v1⟩ := int_fin (a := a) (by omega)
  obtain ⟨k, f, d2, v2⟩ := int_fin (a := b) (by omega)
  obtain ⟨t, t1, t2⟩ := rep (a + b) h
  have hs : val (Float64.ofInt (a : Int)) + val (Float64.ofInt (b : Int)) = (((a + b) * 2 ^ 1074 : Nat) : Int) := by
    rw [v1, v2, ← Int.add_mul, Int.natCast_mul, Int.natCast_pow, Int.natCast_add]
    rfl
  obtain ⟨z0, z1⟩ := add_right d1 d2
  rw [hs] at z0 z1
  rw [int_is h t2]
  by_cases hz : a + b = 0
  · have := z0 (by rw [hz]; simp)
    rw [this]
    have e0 : t = 0 := by
      rw [hz, Nat.zero_mul] at t2
      rcases Nat.eq_zero_or_pos t with h | h
      · exact h
      · have := V_lt h
        rw [V_zero, t2] at this
        exact absurd this (Nat.lt_irrefl _)
    rw [e0]
    rfl
  · have hpos : 0 < (a + b) * 2 ^ 1074 := Nat.mul_pos (by omega) (Nat.two_pow_pos _)
    have R := z1 (by omega)
    rw [decide_eq_false (by omega), Int.natAbs_natCast] at R
    have hf := small_fits (D := 1) h (by decide)
    rw [Nat.one_mul] at hf
    exact uniq R (by decide) (by rw [Nat.one_mul, t2]) hf
open PySem.Float64 in
theorem mulI {a b : Nat} (ha : a < 2 ^ 53) (hb : b < 2 ^ 53) (h : a * b < 2 ^ 53) : Float64.mul (Float64.ofInt (a : Int)) (Float64.ofInt (b : Int)) = Float64.ofInt ((a * b : Nat) : Int) := by
  obtain ⟨m, e, d1, v1⟩ := int_fin ha
  obtain ⟨k, f, d2, v2⟩ := int_fin hb
  obtain ⟨t, t1, t2⟩ := rep (a * b) h
  have R := mul_right d1 d2
  have n1 : (val (Float64.ofInt (a : Int))).natAbs = a * 2 ^ 1074 := by
    rw [v1, Int.natAbs_mul, Int.natAbs_natCast, Int.natAbs_pow]; rfl
  have n2 : (val (Float64.ofInt (b : Int))).natAbs = b * 2 ^ 1074 := by
    rw [v2, Int.natAbs_mul, Int.natAbs_natCast, Int.natAbs_pow]; rfl
  rw [n1, n2] at R
  have e1 : a * 2 ^ 1074 * (b * 2 ^ 1074) = 2 ^ 1074 * (a * b * 2 ^ 1074) := by ac_rfl
  rw [e1] at R
  rw [int_is h t2]
  exact uniq R (Nat.two_pow_pos _) (by rw [t2]) (small_fits h (Nat.two_pow_pos _))
end
section
open PySem PySem.W PyProof.Rows PySem.Spec PySem.Calls
set_option Elab.async false
set_option maxRecDepth 100000
noncomputable def sumC (c k : Nat) : List Nat → List Nat → Nat
  | n :: ns, p :: ps => (if n % 3 = c then p ^ k else 0) + sumC c k ns ps
  | _, _ => 0
noncomputable abbrev fI (n : Nat) : UInt64 := Float64.ofInt (n : Int)
theorem one_is : fOne = fI 1 := by decide +kernel
theorem zero_is : (0 : UInt64) = fI 0 := by decide +kernel
theorem lampF_is (n : Nat) : lampF n = (fI (if n % 3 = 0 then 1 else 0), fI (if n % 3 = 1 then 1 else 0), fI (if n % 3 = 2 then 1 else 0)) := by
  have h : n % 3 = 0 ∨ n % 3 = 1 ∨ n % 3 = 2 := by omega
  unfold lampF
  rcases h with e | e | e <;> rw [e] <;> simp only [one_is, zero_is] <;> rfl
theorem add_mul_is {A c p M : Nat} {b : Prop} [Decidable b] (hp : p ≤ M) (hA : A + M < 2 ^ 53) : Float64.add (fI A) (Float64.mul (fI (if b then 1 else 0)) (fI p)) = fI (A + if b then p else 0) := by
  by_cases h : b
  · rw [if_pos h, if_pos h, mulI (by decide) (by omega) (by omega), Nat.one_mul, addI (by omega)]
  · rw [if_neg h, if_neg h, mulI (by decide) (by omega) (by omega), Nat.zero_mul, addI (by omega)]
theorem mix_int (k M : Nat) : ∀ (lam : List Lamp) (ns ps : List Nat) (A B C : Nat), lam.map (·.2) = ns.map lampF → (∀ p ∈ ps, p ^ k ≤ M) → A + M * ps.length < 2 ^ 53 → B + M * ps.length < 2 ^ 53 → C + M * ps.length < 2 ^ 53 →
    mixF k (fI A, fI B, fI C) lam (ps.map fun (p : Nat) => (p : Int)) = (fI (A + sumC 0 k ns ps), fI (B + sumC 1 k ns ps), fI (C + sumC 2 k ns ps))
  | [], [], ps, A, B, C, _, _, _, _, _ => by
    have e : ∀ c, sumC c k [] ps = 0 := fun c => by cases ps <;> rfl
    rw [e, e, e]
    rfl
  | [], _ :: _, _, _, _, _, h, _, _, _, _ => by cases h
  | _ :: _, [], _, _, _, _, h, _, _, _, _ => by cases h
  | x :: lam, n :: ns, [], A, B, C, _, _, _, _, _ => rfl
  | x :: lam, n :: ns, p :: ps, A, B, C, h, hp, hA, hB, hC => by
    rw [List.map_cons, List.map_cons] at h
    injection h with h1 h2
    have hp0 := hp p (List.mem_cons_self ..)
    rw [List.length_cons, Nat.mul_succ] at hA hB hC
    have ec : Float64.ofInt ((p : Int) ^ k) = fI (p ^ k) := by unfold fI; rw [Int.natCast_pow]
    have e1 : mixS k (fI A, fI B, fI C) x (p : Int) = (fI (A + if n % 3 = 0 then p ^ k else 0), fI (B + if n % 3 = 1 then p ^ k else 0), fI (C + if n % 3 = 2 then p ^ k else 0)) := by
      unfold mixS
      rw [h1, lampF_is, ec]
      dsimp only
      rw [add_mul_is (c := 0) hp0 (by omega), add_mul_is (c := 0) hp0 (by omega), add_mul_is (c := 0) hp0 (by omega)]
    have hb : ∀ c, (if n % 3 = c then p ^ k else 0) ≤ M := fun c => by split <;> omega
    rw [List.map_cons, mixF, e1]
    rw [mix_int k M lam ns ps _ _ _ h2 (fun q hq => hp q (List.mem_cons_of_mem _ hq)) (by have := hb 0; omega) (by have := hb 1; omega) (by have := hb 2; omega)]
    simp only [sumC, Nat.add_assoc]
noncomputable def lens : List Nat := (List.range 27).map lenAt
noncomputable def placeN (st f s k i : Nat) : Nat := st + f * (i / 9) + s * (i / 3 % 3) + k * (i % 3)
noncomputable def plN (st f s k : Nat) : List Nat := (List.range 27).map (placeN st f s k)
noncomputable def thirdN (j : Nat) (ps : List Nat) : Nat := (ps.map (· ^ j)).sum / 3
noncomputable abbrev pt (n : Nat) : UInt64 := Float64.div (fI n) (fI 262144)
noncomputable abbrev dv (a b : Nat) : UInt64 := Float64.ofFrac (decide ((a : Int) < 0) != decide ((b : Int) < 0)) (a : Int).natAbs (b : Int).natAbs
noncomputable def greyB (j : Nat) (ns ps : List Nat) : Bool :=
  let T := thirdN j ps
  let x := pt T
  Nat.beq (sumC 0 j ns ps) T && Nat.beq (sumC 1 j ns ps) T && Nat.beq (sumC 2 j ns ps) T && !Float64.isInf (dv T 262144) && (Float64.cmp (fL x x x) (dv T 262144) == some Ordering.eq) && (Float64.cmp (fMin3 x x x) (fMax3 x x x) == some Ordering.eq)
noncomputable def colB (q : Nat) (ns ps : List Nat) : Bool :=
  let T := thirdN 3 ps
  let r := pt (sumC 0 3 ns ps)
  let g := pt (sumC 1 3 ns ps)
  let b := pt (sumC 2 3 ns ps)
  !Float64.isInf (dv T 262144) && Nat.ble 1 T && !Float64.isInf (dv (36 * q) (2 * T)) &&
  (Float64.cmp (fMin3 r g b) (fMax3 r g b) == some Ordering.eq) == false && (Float64.cmp (fL r g b) 4602678819172646912 == some Ordering.lt || Float64.cmp (fL r g b) 4602678819172646912 == some Ordering.eq) &&
  (Float64.cmp r (fMax3 r g b) == some Ordering.eq) == false && (Float64.cmp g (fMax3 r g b) == some Ordering.eq) == false && !Float64.isZero (Float64.add (fMax3 r g b) (fMin3 r g b)) && !Float64.isZero (Float64.sub (fMax3 r g b) (fMin3 r g b)) &&
  (Float64.cmp (fHue r g b) 4604930618986332160 == some Ordering.eq) && (Float64.cmp (fL r g b) (dv T 262144) == some Ordering.eq) && (Float64.cmp (fSat r g b) (dv (36 * q) (2 * T)) == some Ordering.eq)
noncomputable def chkB (st f s k : Nat) : Bool := greyB 0 lens (plN st f s k) && greyB 1 lens (plN st f s k) && greyB 2 lens (plN st f s k) && colB (f * s * k) lens (plN st f s k)
theorem chk_11 : ((List.range 3).all fun k => (List.range 4).all fun st => chkB st 1 1 (k + 1)) = true := by decide +kernel
theorem chk_12 : ((List.range 3).all fun k => (List.range 4).all fun st => chkB st 1 2 (k + 1)) = true := by decide +kernel
theorem chk_13 : ((List.range 3).all fun k => (List.range 4).all fun st => chkB st 1 3 (k + 1)) = true := by decide +kernel
theorem chk_21 : ((List.range 3).all fun k => (List.range 4).all fun st => chkB st 2 1 (k + 1)) = true := by decide +kernel
theorem chk_22 : ((List.range 3).all fun k => (List.range 4).all fun st => chkB st 2 2 (k + 1)) = true := by decide +kernel
theorem chk_23 : ((List.range 3).all fun k => (List.range 4).all fun st => chkB st 2 3 (k + 1)) = true := by decide +kernel
theorem chk_31 : ((List.range 3).all fun k => (List.range 4).all fun st => chkB st 3 1 (k + 1)) = true := by decide +kernel
theorem chk_32 : ((List.range 3).all fun k => (List.range 4).all fun st => chkB st 3 2 (k + 1)) = true := by decide +kernel
theorem chk_33 : ((List.range 3).all fun k => (List.range 4).all fun st => chkB st 3 3 (k + 1)) = true := by decide +kernel
theorem chk_all {st f s k : Nat} (hst : st ≤ 3) (hf : 1 ≤ f ∧ f ≤ 3) (hs : 1 ≤ s ∧ s ≤ 3) (hk : 1 ≤ k ∧ k ≤ 3) : chkB st f s k = true := by
  have go : ∀ F S : Nat, ((List.range 3).all fun k => (List.range 4).all fun st => chkB st F S (k + 1)) = true → chkB st F S k = true := fun F S h => by
    have h1 := List.all_eq_true.mp (List.all_eq_true.mp h (k - 1) (List.mem_range.mpr (by omega))) st (List.mem_range.mpr (by omega))
    rw [show k - 1 + 1 = k by omega] at h1
    exact h1
  have h : f = 1 ∨ f = 2 ∨ f = 3 := by omega
  have h' : s = 1 ∨ s = 2 ∨ s = 3 := by omega
  rcases h with rfl | rfl | rfl <;> rcases h' with rfl | rfl | rfl
  · exact go 1 1 chk_11
  · exact go 1 2 chk_12
  · exact go 1 3 chk_13
  · exact go 2 1 chk_21
  · exact go 2 2 chk_22
  · exact go 2 3 chk_23
  · exact go 3 1 chk_31
  · exact go 3 2 chk_32
  · exact go 3 3 chk_33
theorem third_is (j : Nat) (tls : List (Int × Tok)) (ps : List Nat) (h : tls.map (·.1) = ps.map fun (p : Nat) => (p : Int)) : thirdI j tls = (thirdN j ps : Nat) := by
  have e : (tls.map fun x : Int × Tok => x.1 ^ j).sum = ((ps.map (· ^ j)).sum : Nat) := by
    have e1 : (tls.map fun x : Int × Tok => x.1 ^ j) = (tls.map (·.1)).map (· ^ j) := by rw [List.map_map]; rfl
    rw [e1, h]
    clear h e1
    induction ps with
    | nil => rfl
    | cons p ps ih => simp only [List.map_cons, List.sum_cons, Int.natCast_add, Int.natCast_pow, ih]
  unfold thirdI thirdN
  rw [e]
  exact (Int.fdiv_eq_ediv_of_nonneg _ (by decide)).trans rfl
theorem plN_le {st f s k : Nat} (hst : st ≤ 3) (hf : f ≤ 3) (hs : s ≤ 3) (hk : k ≤ 3) : ∀ p ∈ plN st f s k, p ≤ 21 := fun p hp => by
  obtain ⟨i, hi, rfl⟩ := List.mem_map.mp hp
  have hi := List.mem_range.mp hi
  unfold placeN
  have h1 : f * (i / 9) ≤ 3 * 2 := Nat.mul_le_mul hf (by omega)
  have h2 : s * (i / 3 % 3) ≤ 3 * 2 := Nat.mul_le_mul hs (by omega)
  have h3 : k * (i % 3) ≤ 3 * 2 := Nat.mul_le_mul hk (by omega)
  omega
theorem pow_le {p j : Nat} (hp : p ≤ 21) (hj : j ≤ 3) : p ^ j ≤ 9261 := Nat.le_trans (Nat.pow_le_pow_left hp j) (Nat.le_trans (Nat.pow_le_pow_right (by decide) hj) (by decide))
theorem mixL_is {st f s k : Nat} (hst : st ≤ 3) (hf : f ≤ 3) (hs : s ≤ 3) (hk : k ≤ 3) (j : Nat) (hj : j ≤ 3) (lam : List Lamp) (pls : List (Int × Tok)) (hl : lam.map (·.2) = lens.map lampF) (hp : pls.map (·.1) = (plN st f s k).map fun (p : Nat) => (p : Int)) :
    mixL (j : Int) lam pls = (fI (sumC 0 j lens (plN st f s k)), fI (sumC 1 j lens (plN st f s k)), fI (sumC 2 j lens (plN st f s k))) := by
  unfold mixL
  rw [hp, Int.toNat_natCast, zero_is]
  have hlen : (plN st f s k).length = 27 := by simp [plN]
  have h := mix_int j 9261 lam lens (plN st f s k) 0 0 0 hl (fun p hp => pow_le (plN_le hst hf hs hk p hp) hj) (by rw [hlen]; decide) (by rw [hlen]; decide) (by rw [hlen]; decide)
  rw [Nat.zero_add, Nat.zero_add, Nat.zero_add] at h
  exact h
theorem grey_of {j : Nat} {ps : List Nat} (h : greyB j lens ps = true) : sumC 0 j lens ps = thirdN j ps ∧ sumC 1 j lens ps = thirdN j ps ∧ sumC 2 j lens ps = thirdN j ps ∧ Float64.isInf (dv (thirdN j ps) 262144) = false ∧ (Float64.cmp (fL (pt (thirdN j ps)) (pt (thirdN j ps)) (pt (thirdN j ps))) (dv (thirdN j ps) 262144) == some Ordering.eq) = true ∧ (Float64.cmp (fMin3 (pt (thirdN j ps)) (pt (thirdN j ps)) (pt (thirdN j ps))) (fMax3 (pt (thirdN j ps)) (pt (thirdN j ps)) (pt (thirdN j ps))) == some Ordering.eq) = true := by
  unfold greyB at h
  simp only [Bool.and_eq_true, Bool.not_eq_true'] at h
  obtain ⟨⟨⟨⟨⟨h1, h2⟩, h3⟩, h4⟩, h5⟩, h6⟩ := h
  exact ⟨Nat.eq_of_beq_eq_true h1, Nat.eq_of_beq_eq_true h2, Nat.eq_of_beq_eq_true h3, h4, h5, h6⟩
end
section
open PySem PySem.W PyProof.Rows PySem.Spec PySem.Calls
set_option Elab.async false
set_option maxRecDepth 100000
theorem colours_ctr (w : World) (news : Led) (la lp lt : Nat) (lam : List Lamp) (pls tls : List (Int × Tok)) (n1 n2 n3 : Nat) {st f s k : Nat} (hst : st ≤ 3) (hf : 1 ≤ f ∧ f ≤ 3) (hs : 1 ≤ s ∧ s ≤ 3) (hk : 1 ≤ k ∧ k ≤ 3)
    (hL : LampsIn news lam) (hla : (la, listOf (lam.map fun x => Value.ref x.1).toArray n1) ∈ news) (hlp : (lp, listOf (pls.map fun x => Value.int x.1 x.2).toArray n2) ∈ news) (hlt : (lt, listOf (tls.map fun x => Value.int x.1 x.2).toArray n3) ∈ news)
    (hl : lam.map (·.2) = lens.map lampF) (hp : pls.map (·.1) = (plN st f s k).map fun (p : Nat) => (p : Int)) (ht : tls.map (·.1) = (plN st f s k).map fun (p : Nat) => (p : Int)) (tq : Tok) :
    Ctr w 3 24 179 news [.ref la, .ref lp, .ref lt, .int ((f * s * k : Nat) : Int) tq] (fun v more => more = [] ∧ v = .bool true) := by
  have hc := chk_all hst hf hs hk
  unfold chkB at hc
  simp only [Bool.and_eq_true] at hc
  obtain ⟨⟨⟨g0, g1⟩, g2⟩, g3⟩ := hc
  have rng : ∀ (xs : List (Int × Tok)), xs.map (·.1) = (plN st f s k).map (fun (p : Nat) => (p : Int)) → ∀ x ∈ xs, 0 ≤ x.1 ∧ x.1 ≤ 30 := fun xs e x hx => by
    have h1 : x.1 ∈ xs.map (·.1) := List.mem_map_of_mem hx
    rw [e] at h1
    obtain ⟨p, hp1, hp2⟩ := List.mem_map.mp h1
    have := plN_le hst hf.2 hs.2 hk.2 p hp1
    omega
  have hq : f * s * k ≤ 27 := by
    have h1 : f * s ≤ 3 * 3 := Nat.mul_le_mul hf.2 hs.2
    exact Nat.le_trans (Nat.mul_le_mul h1 hk.2) (by decide)
  have hlen : tls.length ≤ 27 := by
    have := congrArg List.length ht
    simp [plN] at this
    omega
  have G : ∀ j : Nat, j ≤ 3 → greyB j lens (plN st f s k) = true → ∀ led t, (∀ p ∈ news, p ∈ led) → Ctr w 2 16 174 led [.ref la, .ref lp, .int (j : Int) t] (Tup3p 0 (fL (pt (thirdN j (plN st f s k))) (pt (thirdN j (plN st f s k))) (pt (thirdN j (plN st f s k)))) 0) := fun j hj hg led t hs' => by
    obtain ⟨a1, a2, a3, a4, a5, a6⟩ := grey_of hg
    refine c_mixed w led la lp lam pls n1 n2 (fun x hx => by obtain ⟨a, b, c, n, h⟩ := hL x hx; exact ⟨a, b, c, n, hs' _ h⟩) (rng pls hp) (hs' _ hla) (hs' _ hlp) (j : Int) t ⟨by omega, by omega⟩ _ _ _ fun news' t1 t2 t3 => ?_
    rw [mixL_is hst hf.2 hs.2 hk.2 j hj lam pls hl hp, a1, a2, a3]
    exact c_hls_grey w news' _ _ _ t1 t2 t3 a6
  obtain ⟨_, _, _, i0, e0, _⟩ := grey_of g0
  obtain ⟨_, _, _, i1, e1, _⟩ := grey_of g1
  obtain ⟨_, _, _, i2, e2, _⟩ := grey_of g2
  unfold colB at g3
  simp only [Bool.and_eq_true, Bool.not_eq_true', beq_iff_eq (a := (_ : Bool))] at g3
  obtain ⟨⟨⟨⟨⟨⟨⟨⟨⟨⟨⟨i3, q3⟩, j3⟩, b1⟩, b2⟩, b3⟩, b4⟩, b5⟩, b6⟩, f3⟩, e3⟩, k3⟩ := g3
  have T0 := third_is 0 tls _ ht
  have T1 := third_is 1 tls _ ht
  have T2 := third_is 2 tls _ ht
  have T3 := third_is 3 tls _ ht
  have ec : ∀ T : Nat, divF ((T : Nat) : Int) 262144 = dv T 262144 := fun _ => rfl
  have e36 : divF (36 * ((f * s * k : Nat) : Int)) (2 * ((thirdN 3 (plN st f s k) : Nat) : Int)) = dv (36 * (f * s * k)) (2 * thirdN 3 (plN st f s k)) := by
    unfold divF dv
    rw [Int.natCast_mul 36 (f * s * k), Int.natCast_mul 2 (thirdN 3 (plN st f s k))]
    rfl
  have hT1 := Nat.le_of_ble_eq_true q3
  refine c_colours w news la lp lt tls n3 (rng tls ht) hlen hlt _ tq ⟨by omega, by omega⟩
    (by rw [T0]; exact i0) _ (by rw [T0]; exact e0) ⟨G 0 (by decide) g0⟩
    (by rw [T1]; exact i1) _ (by rw [T1]; exact e1) ⟨G 1 (by decide) g1⟩
    (by rw [T2]; exact i2) _ (by rw [T2]; exact e2) ⟨G 2 (by decide) g2⟩
    (by rw [T3]; exact i3) ⟨by rw [T3]; omega⟩ (by rw [T3, e36]; exact j3) (fHue (pt (sumC 0 3 lens (plN st f s k))) (pt (sumC 1 3 lens (plN st f s k))) (pt (sumC 2 3 lens (plN st f s k)))) (fL (pt (sumC 0 3 lens (plN st f s k))) (pt (sumC 1 3 lens (plN st f s k))) (pt (sumC 2 3 lens (plN st f s k)))) (fSat (pt (sumC 0 3 lens (plN st f s k))) (pt (sumC 1 3 lens (plN st f s k))) (pt (sumC 2 3 lens (plN st f s k)))) f3 (by rw [T3]; exact e3) (by rw [T3, e36]; exact k3) ⟨fun led t hs' => ?_⟩
  refine c_mixed w led la lp lam pls n1 n2 (fun x hx => by obtain ⟨a, b, c, n, h⟩ := hL x hx; exact ⟨a, b, c, n, hs' _ h⟩) (rng pls hp) (hs' _ hla) (hs' _ hlp) 3 t ⟨by omega, by omega⟩ _ _ _ fun news' t1 t2 t3 => ?_
  have e9 := mixL_is hst hf.2 hs.2 hk.2 3 (by decide) lam pls hl hp
  rw [show mixL (3 : Int) lam pls = mixL ((3 : Nat) : Int) lam pls from rfl, e9]
  exact c_hls_col w news' _ _ _ t1 t2 t3 b1 b2 b3 b4 (fun h => Bool.false_ne_true (b5.symm.trans h)) (fun h => Bool.false_ne_true (b6.symm.trans h))
end
section
open PySem PySem.W PyProof.Rows PySem.Spec PySem.Calls PyProof.Rows.LCg
set_option Elab.async false
theorem fresh_ML14 : True := by
  w_top off
  trivial
local macro_rules | `(tactic| walk_at "call ref") => `(tactic| (refine stop_of ?_))
theorem of_get {α : Type} [Inhabited α] (g : Nat → α → Value) (p : Nat → α → Prop) (c : Nat) (ys : List Value) (hl : ys.length = c) (h : ∀ i, i < c → ∃ t, ys[i]? = some (g i t) ∧ p i t) : ∃ T : Nat → α, (∀ i, i < c → p i (T i)) ∧ ys = (List.range c).map fun i => g i (T i) := by
  have h' : ∀ i, ∃ t, i < c → ys[i]? = some (g i t) ∧ p i t := fun i => by
    by_cases hi : i < c
    · obtain ⟨t, ht⟩ := h i hi
      exact ⟨t, fun _ => ht⟩
    · exact ⟨default, fun h => absurd h hi⟩
  obtain ⟨T, hT⟩ := Classical.skolem.mp h'
  refine ⟨T, fun i hi => (hT i hi).2, List.ext_getElem? fun i => ?_⟩
  by_cases hi : i < c
  · rw [(hT i hi).1, List.getElem?_map, List.getElem?_range hi]
    rfl
  · rw [List.getElem?_eq_none (by omega), List.getElem?_eq_none (by simp; omega)]
theorem lamps_lam {ys : List Value} {news : Led} (h : LampsAre 27 ys news) : ∃ lam : List Lamp, ys = lam.map (fun x => Value.ref x.1) ∧ LampsIn news lam ∧ lam.map (·.2) = lens.map lampF := by
  obtain ⟨T, hT, e⟩ := of_get (α := Nat × Nat × Nat × Nat × Nat) (fun i t => .ref t.1) (fun i t => (t.1, tup3 (lampF (lenAt i)).1 (lampF (lenAt i)).2.1 (lampF (lenAt i)).2.2 t.2.1 t.2.2.1 t.2.2.2.1 t.2.2.2.2) ∈ news) 27 ys h.1 fun i hi => by
    obtain ⟨D, t0, t1, t2, n, e, hm⟩ := h.2 i hi
    exact ⟨(D, t0, t1, t2, n), e, hm⟩
  refine ⟨(List.range 27).map fun i => ((T i).1, lampF (lenAt i)), ?_, fun x hx => ?_, ?_⟩
  · rw [e, List.map_map]; rfl
  · obtain ⟨i, hi, rfl⟩ := List.mem_map.mp hx
    exact ⟨_, _, _, _, hT i (List.mem_range.mp hi)⟩
  · unfold lens
    rw [List.map_map, List.map_map]; rfl
theorem places_pls {st f s k : Nat} {ys : List Value} (h : PlacesAre st f s k 27 ys) : ∃ pls : List (Int × Tok), ys = pls.map (fun x => Value.int x.1 x.2) ∧ pls.map (·.1) = (plN st f s k).map fun (p : Nat) => (p : Int) := by
  obtain ⟨T, hT, e⟩ := of_get (α := Nat) (fun i t => .int (placeAt st f s k i) t) (fun _ _ => True) 27 ys h.1 fun i hi => by
    obtain ⟨t, ht⟩ := h.2 i hi
    exact ⟨t, ht, trivial⟩
  refine ⟨(List.range 27).map fun i => (placeAt st f s k i, T i), ?_, ?_⟩
  · rw [e, List.map_map]; rfl
  · unfold plN
    rw [List.map_map, List.map_map]
    refine List.map_congr_left fun i hi => ?_
    show placeAt st f s k i = ((placeN st f s k i : Nat) : Int)
    unfold placeAt placeN
    simp only [Int.natCast_add, Int.natCast_mul]
set_option maxRecDepth 100000 in
set_option maxHeartbeats 1000000 in
theorem law_colours (w : World) {p : Program} {loose : List Str} {mean : ExcName → Option Value} {mg mb : Str → Option Value} {base g : Heap} {L : Nat} {fa : Addr} {cd : Value} {s : Shared} {E : Value → Shared → Prop} {P : Flow → Shared → Prop}
   (X : (heapK w.params).In g) (T : Top p loose mean mg mb g) (B : Below callerA base [] g) {news : Led} {c1 c6 : Option Value}
   {v1 v2 v3 v4 v5 v6 v7 v8 : Option Value} {QL QP QT : Addr} {ysL ysP ysT : List Value} {f s' k st : Nat} {tf ts tk' tst : Tok} (hf : 1 ≤ f ∧ f ≤ 3) (hs : 1 ≤ s' ∧ s' ≤ 3) (hk : 1 ≤ k ∧ k ≤ 3) (hst : st ≤ 3)
   (hL : LampsAre 27 ysL news) (mL : (QL, lst ysL) ∈ news) (hP : PlacesAre st f s' k 27 ysP) (mP : (QP, lst ysP) ∈ news) (hT : PlacesAre st f s' k 27 ysT) (mT : (QT, lst ysT) ∈ news)
   (S : LawS L g (mapL v1 v2 v3 v4 v5 v6 v7 v8 (some (.ref QP)) (some (.ref QT)) (some (.ref QL)) none none) c1 (some (.int f tf)) (some (.int s' ts)) (some (.int k tk')) (some (.int st tst)) c6 news s.heap)
   (post : ∀ h' tk2, LawS L g (mapL v1 v2 v3 v4 v5 v6 v7 v8 (some (.ref QP)) (some (.ref QT)) (some (.ref QL)) none none) c1 (some (.int f tf)) (some (.int s' ts)) (some (.int k tk')) (some (.int st tst)) c6 news h' → P .next { s with heap := h', toks := tk2 }) :
   wpAny (model Challenge.rw_qu0064_01.row.prog w) (AW L fa cd) (exec lb11.1 (envW L fa cd)) P E s := by
  revert X; k_fill; intro X
  have off := S.off
  obtain ⟨F, ⟨o1, o2, o3, o4, o5, o6, N, d1, d2, d3, d4, d5, d6⟩, _⟩ := S
  have r1 : (1 : Int) ≤ f ∧ (f : Int) ≤ 3 := by omega
  have r2 : (1 : Int) ≤ s' ∧ (s' : Int) ≤ 3 := by omega
  have r3 : (1 : Int) ≤ k ∧ (k : Int) ≤ 3 := by omega
  k_steps
  refine stop_go ?_
  obtain ⟨lam, rfl, i1, i2⟩ := lamps_lam hL
  obtain ⟨pls, rfl, i3⟩ := places_pls hP
  obtain ⟨tls, rfl, i4⟩ := places_pls hT
  have up : ∀ {q : Addr × Obj}, q ∈ news → q ∈ cells6 L o1 o2 o3 o4 o5 o6 news := fun hq => .tail _ (.tail _ (.tail _ (.tail _ (.tail _ (.tail _ hq)))))
  have ep : ((f * s' * k : Nat) : Int) = (f : Int) * s' * k := by rw [Int.natCast_mul, Int.natCast_mul]
  have C := fun tq => colours_ctr w (cells6 L o1 o2 o3 o4 o5 o6 news) QL QP QT lam pls tls _ _ _ hst hf hs hk (fun x hx => by obtain ⟨a, b, c, n, h⟩ := i1 x hx; exact ⟨a, b, c, n, up h⟩) (up mL) (up mP) (up mT) i2 i3 i4 tq
  rw [ep] at C
  refine' Ctr.use (C _) ?k1 ?k2 ?k3 ?k4 ?k5 ?kK ?kd ?ku ?_
  case k4 => k_asm
  case k1 => k_asm
  case k2 => k_asm
  case k3 => k_asm
  case k5 => k_asm
  case kK => exact rfl
  case kd => ktr_room
  case ku => ktr_units
  intro v9 more9 h9 tk9 hR9 F9 N9
  obtain ⟨e9, e8⟩ := hR9
  subst e9 e8
  k_steps
  rename Fr _ _ _ _ => F8
  exact post _ _ ⟨F8, ⟨_, _, _, _, _, _, N9, d1, d2, d3, d4, d5, d6⟩, off⟩
end
section
open PySem PySem.W PyProof.Rows PySem.Spec PySem.Calls PyProof.Rows.LCg
set_option Elab.async false
local macro_rules | `(tactic| walk_at "zz0") => `(tactic| skip)
local macro_rules | `(tactic| walk_at "zz1") => `(tactic| skip)
theorem fresh_ML15 : True := by
  w_top off
  trivial
set_option maxRecDepth 100000 in
set_option maxHeartbeats 1000000 in
theorem law_base (w : World) {p : Program} {loose : List Str} {mean : ExcName → Option Value} {mg mb : Str → Option Value} {base g : Heap} {L : Nat} {fa : Addr} {cd : Value} {s : Shared} {E : Value → Shared → Prop} {P : Flow → Shared → Prop}
   (X : (heapK w.params).In g) (T : Top p loose mean mg mb g) (B : Below callerA base [] g) {news : Led} {c1 c2 c3 c4 c5 : Option Value}
   {v1 v2 v3 v4 v5 v6 v7 v8 v9 v10 v11 : Option Value} {n : Int} {td : Tok} (hn : 8 ≤ n ∧ n ≤ 16)
   (S : LawS L g (mapL v1 v2 v3 v4 v5 v6 v7 v8 v9 v10 v11 none none) c1 c2 c3 c4 c5 (some (.int n td)) news s.heap)
   (post : ∀ t1 h' tk', LawS L g (mapL v1 v2 v3 v4 v5 v6 v7 v8 v9 v10 v11 (some (.int (2 ^ n.toNat) t1)) none) c1 c2 c3 c4 c5 (some (.int n td)) news h' → P .next { s with heap := h', toks := tk' }) :
   wpAny (model Challenge.rw_qu0064_01.row.prog w) (AW L fa cd) (exec lb13.1 (envW L fa cd)) P E s := by
  revert X; k_fill; intro X
  have off := S.off
  obtain ⟨F, ⟨o1, o2, o3, o4, o5, o6, N, d1, d2, d3, d4, d5, d6⟩, _⟩ := S
  k_steps
  rename Fr _ _ _ _ => F9
  rename News _ _ _ _ => N9
  exact post _ _ _ ⟨fr_map F9 mapL_base, ⟨_, _, _, _, _, _, N9, d1, d2, d3, d4, d5, d6⟩, off⟩
local macro_rules | `(tactic| walk_at "storeName") => `(tactic| (refine stop_of ?_))
set_option maxRecDepth 100000 in
set_option maxHeartbeats 1000000 in
theorem law_width (w : World) {p : Program} {loose : List Str} {mean : ExcName → Option Value} {mg mb : Str → Option Value} {base g : Heap} {L : Nat} {fa : Addr} {cd : Value} {s : Shared} {E : Value → Shared → Prop} {P : Flow → Shared → Prop}
   (X : (heapK w.params).In g) (T : Top p loose mean mg mb g) (B : Below callerA base [] g) {news : Led} {c1 c2 c3 c4 c5 c6 : Option Value}
   {v1 v2 v3 v4 v5 v7 v8 v9 v10 v11 : Option Value} {d : Int} {td : Tok}
   (S : LawS L g (mapL v1 v2 v3 v4 v5 (some (.int d td)) v7 v8 v9 v10 v11 none none) c1 c2 c3 c4 c5 c6 news s.heap)
   (post : ∀ t1 h' tk', LawS L g (mapL v1 v2 v3 v4 v5 (some (.int d td)) v7 v8 v9 v10 v11 none none) c1 c2 c3 c4 c5 (some (.int (8 + (d.fdiv 4).fmod 9) t1)) news h' → P .next { s with heap := h', toks := tk' }) :
   wpAny (model Challenge.rw_qu0064_01.row.prog w) (AW L fa cd) (exec lb12.1 (envW L fa cd)) P E s := by
  revert X; k_fill; intro X
  have off := S.off
  obtain ⟨F, ⟨o1, o2, o3, o4, o5, o6, N, d1, d2, d3, d4, d5, d6⟩, _⟩ := S
  k_steps
  refine stop_go ?_
  rename Fr _ _ _ _ => F9
  refine storeX_C F9 N rfl (upd6 off) d6 fun h' o' F' N' d' => ?_
  exact post _ _ _ ⟨F', ⟨_, _, _, _, _, _, N', d1, d2, d3, d4, d5, d'⟩, off⟩
end
section
open PySem PySem.W PyProof.Rows PySem.Spec PySem.Calls PyProof.Rows.LCg
set_option Elab.async false
local macro_rules | `(tactic| walk_at "zz0") => `(tactic| skip)
local macro_rules | `(tactic| walk_at "zz1") => `(tactic| skip)
theorem fresh_ML16 : True := by
  w_top off
  trivial
local macro_rules | `(tactic| walk_at "pyIter ref") => `(tactic| (refine stop_of ?_))
local macro_rules | `(tactic| walk_at "call ref") => `(tactic| (refine stop_of ?_))
noncomputable def GoodS (S : Led) : Prop := ∀ q ∈ S, NoCell q.2 ∧ @LT.lt Nat _ 191 q.1
theorem pickG {P : Addr} {ln col : Int} {qual : Str} {t t' : Obj} {S rest : Led} {x : Addr × Obj} (hS : TabSt P ln col qual t S) (gS : GoodS S) (h' : TabSt P ln col qual t' [x]) (hx : @LT.lt Nat _ 191 x.1) (hf : t' = t ∨ ∀ q ∈ rest, @LT.lt Nat _ q.1 x.1) : ∃ S', TabSt P ln col qual t' S' ∧ GoodS S' ∧ ∀ q ∈ S', q ∈ S ∨ (q = x ∧ ∀ p ∈ rest, @LT.lt Nat _ p.1 q.1) := by
  rcases hf with h | h
  · exact ⟨S, h ▸ hS, gS, fun q hq => .inl hq⟩
  · rcases h' with e | ⟨c', oc, vs, tk, h1, h2, h3, h4, h5⟩
    · exact ⟨[], .inl e, (fun _ h => nomatch h), (fun _ h => nomatch h)⟩
    · have e := List.mem_singleton.1 h3
      subst e
      refine ⟨[(c', oc)], .inr ⟨c', oc, vs, tk, h1, h2, h3, h4, h5⟩, fun q hq => ?_, fun q hq => ?_⟩
      · rw [List.mem_singleton.1 hq]
        refine And.intro (fun v hv => ?_) h2
        rw [h4] at hv
        cases hv
      · rw [List.mem_singleton.1 hq]
        exact .inr ⟨rfl, h⟩
noncomputable def WholesAre (ws : List Int) (c : Nat) (ys : List Value) : Prop := ys.length = c ∧ ∀ i, i < c → ∃ t, ys[i]? = some (.int (ws.getD i 0) t)
theorem wholes_snoc {ws : List Int} {c : Nat} {ys : List Value} {x : Int} {t : Tok} (h : WholesAre ws c ys) (hx : x = ws.getD c 0) : WholesAre ws (c + 1) (ys ++ [.int x t]) := by
  obtain ⟨h1, h2⟩ := h
  subst hx
  refine ⟨by simp [h1], fun i hi => ?_⟩
  by_cases e : i < c
  · obtain ⟨t', ht⟩ := h2 i e
    exact ⟨t', by rw [List.getElem?_append_left (by omega)]; exact ht⟩
  · have e2 : i = ys.length := by omega
    subst e2
    exact ⟨t, by rw [List.getElem?_concat_length, h1]⟩
structure FigOk (ns : List Int) (n : Int) : Prop where
  len : ns.length ≤ 32
  bits : Flt.Hid (∀ a b : Int, 0 ≤ a → a ≤ b → b ≤ ns.length → Builtin.Int.intBits (segD ns n a b) ≤ 100000)
theorem fig_at {ns0 ns1 ns2 : List Int} {us0 us1 us2 : List Value} {a0 a1 a2 m0 m1 m2 : Nat} {led0 : Led} {n : Int} (h0 : (a0, listOf us0.toArray m0) ∈ led0) (h1 : (a1, listOf us1.toArray m1) ∈ led0) (h2 : (a2, listOf us2.toArray m2) ∈ led0) (i0 : IntsAre us0 ns0) (i1 : IntsAre us1 ns1) (i2 : IntsAre us2 ns2) (f0 : FigOk ns0 n) (f1 : FigOk ns1 n) (f2 : FigOk ns2 n)
    {i : Nat} {v : Value} (hi : i < 3) (hv : (#[.ref a0, .ref a1, .ref a2] : Array Value)[i]? = some v) : ∃ (a m : Nat) (us : List Value) (ns : List Int), v = .ref a ∧ (a, listOf us.toArray m) ∈ led0 ∧ IntsAre us ns ∧ FigOk ns n ∧ polyI n.toNat ns = [polyI n.toNat ns0, polyI n.toNat ns1, polyI n.toNat ns2].getD i 0 := by
  match i, hi with
  | 0, _ => exact ⟨a0, m0, us0, ns0, (Option.some.inj hv).symm, h0, i0, f0, rfl⟩
  | 1, _ => exact ⟨a1, m1, us1, ns1, (Option.some.inj hv).symm, h1, i1, f1, rfl⟩
  | 2, _ => exact ⟨a2, m2, us2, ns2, (Option.some.inj hv).symm, h2, i2, f2, rfl⟩
noncomputable abbrev wdw : { x : (Expr × Expr) × (Pos × Pos × Pos × Pos) × Scope // d_law.1.2.1[14]? = some (Stmt.Assign [Expr.Name (Str.ofString "wholes") x.2.1.1] (Expr.ListComp x.1.1 [⟨.Name (Str.ofString "shelf") x.2.1.2.1, x.1.2, [], 0⟩] x.2.2 x.2.1.2.2.1) x.2.1.2.2.2) } := ⟨((_, _), (_, _, _, _), _), rfl⟩
theorem n_cell {g h : Heap} {L : Addr} {i c d c6 x : Addr × Obj} {r : Led} (N : News g L h (i :: c :: d :: x :: r)) (h6 : c6 ∈ r) : News g L h (i :: c :: d :: c6 :: x :: r) := News.sub N fun q hq => by
  simp only [List.mem_cons] at hq ⊢
  rcases hq with h | h | h | h | h | h
  case inr.inr.inr.inl => exact .inr (.inr (.inr (.inr (h ▸ h6))))
  all_goals simp only [h, true_or, or_true]
theorem n_tab {g h : Heap} {L : Addr} {i c d c6 x : Addr × Obj} {r : Led} (N : News g L h (i :: c :: d :: c6 :: x :: r)) : News g L h (x :: i :: c :: d :: r) := News.sub N fun q hq => by
  simp only [List.mem_cons] at hq ⊢
  rcases hq with h | h | h | h | h <;> simp only [h, true_or, or_true]
theorem n_back {g h : Heap} {L : Addr} {i c d x y : Addr × Obj} {S S' led0 : Led} (N : News g L h (x :: y :: i :: c :: d :: (S ++ led0))) (hS : ∀ q ∈ S', q ∈ S ∨ q = y) : News g L h (i :: c :: d :: x :: (S' ++ led0)) := News.sub N fun q hq => by
  simp only [List.mem_cons, List.mem_append] at hq ⊢
  rcases hq with h | h | h | h | h | h
  case inr.inr.inr.inr.inl => rcases hS q h with h | h <;> simp only [h, true_or, or_true]
  all_goals simp only [h, true_or, or_true]
set_option maxRecDepth 100000 in
set_option maxHeartbeats 1000000 in
theorem wholes_comp (w : World) {p : Program} {loose : List Str} {mean : ExcName → Option Value} {mg mb : Str → Option Value} {base g : Heap} {L : Nat} {fa : Addr} {cd : Value} {s : Shared} {E Q : Value → Shared → Prop}
   (X : (heapK w.params).In g) (T : Top p loose mean mg mb g) (B : Below callerA base [] g) {led0 : Led} {m : Str → Option Value} {mF : Addr → Str → Option Value} {o6 t0 : Obj} {S0 a0 a1 a2 k9 m0 m1 m2 : Nat} {us0 us1 us2 : List Value} {ns0 ns1 ns2 : List Int} {n : Int} {tn : Tok} (hn : 8 ≤ n ∧ n ≤ 16)
   (F : Fr g L s.heap m) (N : News g L s.heap ((115, t0) :: led0)) (hT : TabD t0 []) (h115 : ∀ q ∈ led0, q.1 ≠ 115) (mS : (S0, listOf #[.ref a0, .ref a1, .ref a2] k9) ∈ led0) (h0 : (a0, listOf us0.toArray m0) ∈ led0) (h1 : (a1, listOf us1.toArray m1) ∈ led0) (h2 : (a2, listOf us2.toArray m2) ∈ led0)
   (i0 : IntsAre us0 ns0) (i1 : IntsAre us1 ns1) (i2 : IntsAre us2 ns2) (f0 : FigOk ns0 n) (f1 : FigOk ns1 n) (f2 : FigOk ns2 n) (h6 : (L + 1 + 1 + 1 + 1 + 1 + 1, o6) ∈ led0) (d6 : o6.data = .cell (some (.int n tn)))
   (fin : ∀ (D : Addr) ys t' Sd h' tk', WholesAre [polyI n.toNat ns0, polyI n.toNat ns1, polyI n.toNat ns2] 3 ys → TabD t' Sd → GoodS Sd → Fr g L h' (mF D) → News g L h' ((D, lst ys) :: (115, t') :: (Sd ++ led0)) → (∀ q ∈ (115, t') :: (Sd ++ led0), q.1 ≠ D) → Q (.ref D) { s with heap := h', toks := tk' }) :
   wpAny (model Challenge.rw_qu0064_01.row.prog w) (AW L fa cd) (pyIter (.ref S0)) (fun it s₂ => CompAt Challenge.rw_qu0064_01.row.prog w (AW L fa cd) g L m (envW L fa cd) wdw.1.1.1 [⟨.Name (Str.ofString "shelf") wdw.1.2.1.2.1, wdw.1.1.2, [], 0⟩] wdw.1.2.2 [(Str.ofString "width", L + 1 + 1 + 1 + 1 + 1 + 1)] wdw.1.2.1.2.2.1 mF Q it s₂) E s := by
  revert X; k_fill; intro X
  refine src_list (its := #[.ref a0, .ref a1, .ref a2]) rfl F N (.inr ⟨_, .tail _ mS, rfl, _, rfl⟩) (fun ys nw => ys.length = 3 ∧ ∃ t Sd, nw = (115, t) :: (Sd ++ led0) ∧ TabD t Sd ∧ GoodS Sd ∧ WholesAre [polyI n.toNat ns0, polyI n.toNat ns1, polyI n.toNat ns2] 3 ys) ?_ (fun D ys nw h' tk' F' N' o f => by obtain ⟨f1, t, Sd, rfl, f2, f3, f4⟩ := f; exact fin D ys t Sd h' tk' f4 f2 f3 F' N' o)
  intro I h' C D h tk R offI K ne cst hR
  refine loop1 (n := 3) (fun _ => rfl) K ne rfl rfl (by decide) (fun c ys nw => ∃ t Sd, nw = (115, t) :: (Sd ++ led0) ∧ TabD t Sd ∧ GoodS Sd ∧ WholesAre [polyI n.toNat ns0, polyI n.toNat ns1, polyI n.toNat ns2] c ys) ?_ cst ⟨t0, [], rfl, hT, (fun _ h => nomatch h), rfl, fun i hi => absurd hi (Nat.not_lt_zero _)⟩ hR
  intro i v ys m₂ nw h tk oI oC Q' E' hi hp hJ hoC e0 F2 N2 off2 hS hSt ret
  obtain ⟨t, Sd, rfl, hTd, hG, hW⟩ := hJ
  obtain ⟨a, m9, us, ns, rfl, ha, hia, hfa, hpa⟩ := fig_at h0 h1 h2 i0 i1 i2 f0 f1 f2 hi hp
  have N3 := n_cell N2 (c6 := (L + 1 + 1 + 1 + 1 + 1 + 1, o6)) (List.mem_append_right _ h6)
  clear N2 N hR
  have o2 := off2.mem
  k_steps
  refine stop_go ?_
  have N4 := n_tab N3
  refine' CtrN.use (c_d2i w t _ a us ns m9 n _ ⟨by omega, by omega⟩ hia hfa.len hfa.bits (TabSt.mono hTd fun q hq => .tail _ (.tail _ (.tail _ (List.mem_append_left _ hq)))) ⟨?hrr⟩ (.tail _ (.tail _ (.tail _ (List.mem_append_right _ ha))))) ?ka1 ?kb1 ?kc1 ?kd1 ?ke1 ?kK1 ?kf1 ?kg1 ?_
  case kd1 => exact N4
  case ka1 => k_asm
  case kb1 => k_asm
  case kc1 => k_asm
  case ke1 => k_asm
  case kK1 => exact rfl
  case kf1 => ktr_room
  case kg1 => ktr_units
  case hrr =>
    have oh := o2 _ (.head _)
    intro q hq
    simp only [List.mem_cons, List.mem_append] at hq
    rcases hq with rfl | rfl | rfl | h | h
    · exact Ne.symm oh.1
    · exact Ne.symm oh.2.1
    · exact Ne.symm oh.2.2
    · exact Nat.ne_of_gt (Nat.lt_trans (by decide) (hG q h).2)
    · exact h115 q h
  intro v9 news9 h9 tk9 hR9 F9 N9
  obtain ⟨c', oc, t', tv, e9, g1, g2, g3, e8⟩ := hR9
  subst e9 e8
  obtain ⟨S', s1, s2, s3⟩ := pickG hTd hG g1 g2 g3
  have N8 := n_back N9 (S' := S') fun q hq => (s3 q hq).imp id fun h => h.1
  refine ret _ _ _ _ F9 N8 (Off3.of fun q hq => ?_) ?_ ⟨t', S', rfl, s1, s2, wholes_snoc hW hpa⟩
  · rcases List.mem_cons.1 hq with rfl | hq
    · exact o2 (115, t) (.head _)
    · rcases List.mem_append.1 hq with h | h
      · rcases s3 q h with h' | ⟨_, h'⟩
        · exact o2 q (.tail _ (List.mem_append_left _ h'))
        · exact ⟨Nat.ne_of_gt (h' _ (.head _)), Nat.ne_of_gt (h' _ (.tail _ (.head _))), Nat.ne_of_gt (h' _ (.tail _ (.tail _ (.head _))))⟩
      · exact o2 q (.tail _ (List.mem_append_right _ h))
  · exact .inr ⟨_, .tail _ (List.mem_append_right _ mS), rfl, _, rfl⟩
set_option maxRecDepth 100000 in
set_option maxHeartbeats 1000000 in
theorem law_wholes (w : World) {p : Program} {loose : List Str} {mean : ExcName → Option Value} {mg mb : Str → Option Value} {base g : Heap} {L : Nat} {fa : Addr} {cd : Value} {s : Shared} {E : Value → Shared → Prop} {P : Flow → Shared → Prop}
   (X : (heapK w.params).In g) (T : Top p loose mean mg mb g) (B : Below callerA base [] g) {news : Led} {c1 : Option Value}
   {v1 v2 v3 v4 v5 v6 v7 v8 v10 v12 : Option Value} {QL QP : Addr} {lam : List Lamp} {pls : List (Int × Tok)} {f s' k st n : Int} {tf ts tk' tst tn : Tok} (hf : 1 ≤ f ∧ f ≤ 3) (hs : 1 ≤ s' ∧ s' ≤ 3) (hk : 1 ≤ k ∧ k ≤ 3) (hst : 0 ≤ st ∧ st ≤ 3) (hn : 8 ≤ n ∧ n ≤ 16)
   (hL : LampsIn news lam) (mL : (QL, lst (lam.map fun x => Value.ref x.1)) ∈ news) (mP : (QP, lst (pls.map fun x => Value.int x.1 x.2)) ∈ news) (m108 : (108, tabObj #[]) ∈ news) (m115 : (115, tabObj #[]) ∈ news)
   (hfin : Flt.Hid (∀ x ∈ lam, (Float64.isNaN x.2.1 = false ∧ Float64.isInf x.2.1 = false) ∧ (Float64.isNaN x.2.2.1 = false ∧ Float64.isInf x.2.2.1 = false) ∧ Float64.isNaN x.2.2.2 = false ∧ Float64.isInf x.2.2.2 = false)) (hP : Flt.Hid (∀ x ∈ pls, 0 ≤ x.1 ∧ x.1 < st + 2 * (f + s' + k) + 1))
   {sh : Sh} (hsh : shF (List.replicate (st + 2 * (f + s' + k) + 1).toNat 0, List.replicate (st + 2 * (f + s' + k) + 1).toNat 0, List.replicate (st + 2 * (f + s' + k) + 1).toNat 0) lam (pls.map (·.1)) = sh) (f0 : FigOk sh.1 n) (f1 : FigOk sh.2.1 n) (f2 : FigOk sh.2.2 n)
   (S : LawS L g (mapL v1 v2 v3 v4 v5 v6 v7 v8 (some (.ref QP)) v10 (some (.ref QL)) v12 none) c1 (some (.int f tf)) (some (.int s' ts)) (some (.int k tk')) (some (.int st tst)) (some (.int n tn)) news s.heap)
   (post : ∀ (Q : Addr) ys t R h' tk2, WholesAre [polyI n.toNat sh.1, polyI n.toNat sh.2.1, polyI n.toNat sh.2.2] 3 ys → TabD t R → (∀ q ∈ R, q.1 ≠ 108 ∧ q.1 ≠ 115) → Q ≠ 108 ∧ Q ≠ 115 → LawS L g (mapL v1 v2 v3 v4 v5 v6 v7 v8 (some (.ref QP)) v10 (some (.ref QL)) v12 (some (.ref Q))) c1 (some (.int f tf)) (some (.int s' ts)) (some (.int k tk')) (some (.int st tst)) (some (.int n tn)) ((Q, lst ys) :: (108, tabObj #[]) :: (115, t) :: R) h' → P .next { s with heap := h', toks := tk2 }) :
   wpAny (model Challenge.rw_qu0064_01.row.prog w) (AW L fa cd) (exec lb14.1 (envW L fa cd)) P E s := by
  have hbL := big_L X S.fr
  revert X; k_fill; intro X
  have off := S.off
  obtain ⟨F, ⟨o1, o2, o3, o4, o5, o6, N, d1, d2, d3, d4, d5, d6⟩, _⟩ := S
  have up : ∀ {q : Addr × Obj}, q ∈ news → q ∈ cells6 L o1 o2 o3 o4 o5 o6 news := fun hq => .tail _ (.tail _ (.tail _ (.tail _ (.tail _ (.tail _ hq)))))
  refine' comp_assign F ?q0 ?q1 ?qs ?qy ?qp ?q2 ?q3 ?q4 ?q5 ?_ ?q6
  case q0 => exact rfl
  case q1 => exact rfl
  case qs => exact rfl
  case qy => exact rfl
  case qp => exact rfl
  case q2 => with_unfolding_all rfl
  case q3 => decide
  case q4 => exact rfl
  case q5 => decide
  case q6 => exact fun _ => rfl
  dsimp only
  k_steps
  refine stop_go ?_
  refine' Ctr.use (c_shelves w (cells6 L o1 o2 o3 o4 o5 o6 news) QL QP lam pls _ _ (fun x hx => by obtain ⟨a, b, c, n, h⟩ := hL x hx; exact ⟨a, b, c, n, up h⟩) hfin (st + 2 * (f + s' + k) + 1) _ ⟨by omega, by omega⟩ hP (up mL) (up mP)) ?k1 ?k2 ?k3 ?k4 ?k5 ?kK ?kd ?ku ?_
  case k4 => k_asm
  case k1 => k_asm
  case k2 => k_asm
  case k3 => k_asm
  case k5 => k_asm
  case kK => exact rfl
  case kd => ktr_room
  case ku => ktr_units
  intro v9 more9 h9 tk9 hR9 F9 N9
  rw [hsh] at hR9
  obtain ⟨S0, a0, a1, a2, k9, m0, m1, m2, us0, us1, us2, e9, e8, i0, i1, i2⟩ := hR9
  subst e9 e8
  k_steps
  refine stop_go ?_
  rename Fr _ _ _ _ => F8
  have q115 := N9 (115, tabObj #[]) (List.mem_append_right _ (up m115))
  have offT : ∀ {x : Nat} {a : Array Value} {kk : Nat}, (x, listOf a kk) ∈ ([(S0, listOf #[.ref a0, .ref a1, .ref a2] k9), (a0, listOf us0.toArray m0), (a1, listOf us1.toArray m1), (a2, listOf us2.toArray m2)] : Led) → x ≠ 115 := fun {x a kk} hx e => by
    have h1 := (N9 _ (List.mem_append_left _ hx)).1
    have h2 := q115.1
    dsimp only at h1 h2
    rw [e, h2] at h1
    have := congrArg Obj.data (Option.some.inj h1)
    cases this
  have N8 : News g L h9 ((115, tabObj #[]) :: cells6 L o1 o2 o3 o4 o5 o6 [(108, tabObj #[]), (S0, listOf #[.ref a0, .ref a1, .ref a2] k9), (a0, listOf us0.toArray m0), (a1, listOf us1.toArray m1), (a2, listOf us2.toArray m2)]) := News.sub N9 fun q hq => by
    simp only [cells6, List.mem_cons, List.mem_append, List.not_mem_nil, or_false] at hq ⊢
    rcases hq with h | h | h | h | h | h | h | h | h
    · exact .inr (.inr (.inr (.inr (.inr (.inr (.inr (h ▸ m115)))))))
    · exact .inr (.inl h)
    · exact .inr (.inr (.inl h))
    · exact .inr (.inr (.inr (.inl h)))
    · exact .inr (.inr (.inr (.inr (.inl h))))
    · exact .inr (.inr (.inr (.inr (.inr (.inl h)))))
    · exact .inr (.inr (.inr (.inr (.inr (.inr (.inl h))))))
    · exact .inr (.inr (.inr (.inr (.inr (.inr (.inr (h ▸ m108)))))))
    · exact .inl h
  have hL115 : ∀ j : Nat, L + j ≠ 115 := fun j e => by
    have : 191 < L := hbL
    omega
  refine wholes_comp w X T B (fa := fa) (cd := cd) (mF := fun D z => if z = Str.ofString "wholes" then some (.ref D) else mapL v1 v2 v3 v4 v5 v6 v7 v8 (some (.ref QP)) v10 (some (.ref QL)) v12 none z) hn F8 N8 (.inl rfl) ?h115 (.tail _ (.tail _ (.tail _ (.tail _ (.tail _ (.tail _ (.tail _ (.head _)))))))) (.tail _ (.tail _ (.tail _ (.tail _ (.tail _ (.tail _ (.tail _ (.tail _ (.head _))))))))) (.tail _ (.tail _ (.tail _ (.tail _ (.tail _ (.tail _ (.tail _ (.tail _ (.tail _ (.head _)))))))))) (.tail _ (.tail _ (.tail _ (.tail _ (.tail _ (.tail _ (.tail _ (.tail _ (.tail _ (.tail _ (.head _))))))))))) i0 i1 i2 f0 f1 f2 (.head _) d6 ?_
  case h115 =>
    intro q hq
    simp only [cells6, List.mem_cons, List.not_mem_nil, or_false] at hq
    rcases hq with rfl | rfl | rfl | rfl | rfl | rfl | rfl | rfl | rfl | rfl | rfl
    · exact hL115 6
    · exact hL115 5
    · exact hL115 4
    · exact hL115 3
    · exact hL115 2
    · exact hL115 1
    · exact (by decide : (108 : Nat) ≠ 115)
    · exact offT (.head _)
    · exact offT (.tail _ (.head _))
    · exact offT (.tail _ (.tail _ (.head _)))
    · exact offT (.tail _ (.tail _ (.tail _ (.head _))))
  intro D ys t' Sd h' tk2 hY hTd hG F' N' o
  have hold : Off6 L [(108, tabObj #[]), (115, t')] := fun q hq => by
    simp only [List.mem_cons, List.not_mem_nil, or_false] at hq
    rcases hq with rfl | rfl
    · exact off _ m108
    · exact off (115, tabObj #[]) m115
  have N7 : News g L h' (cells6 L o1 o2 o3 o4 o5 o6 (((D, LCg.lst ys) :: Sd) ++ [(108, tabObj #[]), (115, t')])) := News.sub N' fun q hq => by
    simp only [cells6, List.mem_cons, List.mem_append, List.not_mem_nil, or_false] at hq ⊢
    rcases hq with h | h | h | h | h | h | (h | h) | h | h <;> simp only [h, true_or, or_true]
  have z := LawS.of ((D, LCg.lst ys) :: Sd) (fr_map F' mapL_wholes) N7 d1 d2 d3 d4 d5 d6 (fun q hq => (List.mem_cons.1 hq).elim (fun e => e ▸ noCell_list) fun h => (hG q h).1) hold
  refine post D ys t' Sd h' tk2 hY hTd (fun q hq => ⟨Nat.ne_of_gt (Nat.lt_trans (by decide) (hG q hq).2), Nat.ne_of_gt (Nat.lt_trans (by decide) (hG q hq).2)⟩) ⟨Ne.symm (o (108, tabObj #[]) (.tail _ (List.mem_append_right _ (.tail _ (.tail _ (.tail _ (.tail _ (.tail _ (.tail _ (.head _)))))))))), Ne.symm (o (115, t') (.head _))⟩ (z.sub fun q hq => ?_)
  simp only [List.mem_cons, List.mem_append, List.not_mem_nil, or_false] at hq ⊢
  rcases hq with h | h | h | h <;> simp only [h, true_or, or_true]
end
section
open PySem PySem.W PyProof.Rows PySem.Spec PySem.Calls PyProof.Rows.LCg
set_option Elab.async false
theorem fresh_ML17 : True := by
  w_top off
  trivial
local macro_rules | `(tactic| walk_at "call ref") => `(tactic| (refine stop_of ?_))
local macro_rules | `(tactic| walk_at "compareOp NotEq int int") => `(tactic| (refine stop_of ?_))
theorem bits_base {bs : Int} (hb : 256 ≤ bs ∧ bs ≤ 65536) : Builtin.Int.intBits bs ≤ 17 := intBits_le_iff.mpr (by have : (2 : Nat) ^ 17 = 131072 := by decide
                                                                                                                  omega)
theorem bits_powb {bs : Int} (hb : 256 ≤ bs ∧ bs ≤ 65536) {k : Nat} (hk : k ≤ 6) : Builtin.Int.intBits (bs ^ k) ≤ 103 := Nat.le_trans (intBits_pow_le (bits_base hb) k) (by omega)
theorem bits_fac {bs : Int} (hb : 256 ≤ bs ∧ bs ≤ 65536) {j : Int} (hj : 1 ≤ j ∧ j ≤ 3) : Builtin.Int.intBits (1 + bs ^ j.toNat + bs ^ (2 * j).toNat) ≤ 105 :=
  Nat.le_trans (intBits_add_le (intBits_add_le (intBits_le_iff.mpr (by decide) : Builtin.Int.intBits 1 ≤ 1) (bits_powb hb (k := j.toNat) (by omega))) (bits_powb hb (k := (2 * j).toNat) (by omega))) (by omega)
theorem bits_st {bs st : Int} (hb : 256 ≤ bs ∧ bs ≤ 65536) (hst : 0 ≤ st ∧ st ≤ 3) : Builtin.Int.intBits (bs ^ st.toNat) ≤ 103 := bits_powb hb (by omega)
theorem fac_1 {bs st f : Int} (hb : 256 ≤ bs ∧ bs ≤ 65536) (hst : 0 ≤ st ∧ st ≤ 3) (hf : 1 ≤ f ∧ f ≤ 3) : IntMulOk (bs ^ st.toNat) (1 + bs ^ f.toNat + bs ^ (2 * f).toNat) :=
  IntMulOk.of_bits (Nat.le_trans (bits_st hb hst) (by decide)) (Nat.le_trans (bits_fac hb hf) (by decide))
theorem fac_2 {bs st f s : Int} (hb : 256 ≤ bs ∧ bs ≤ 65536) (hst : 0 ≤ st ∧ st ≤ 3) (hf : 1 ≤ f ∧ f ≤ 3) (hs : 1 ≤ s ∧ s ≤ 3) : IntMulOk (bs ^ st.toNat * (1 + bs ^ f.toNat + bs ^ (2 * f).toNat)) (1 + bs ^ s.toNat + bs ^ (2 * s).toNat) :=
  IntMulOk.of_bits (Nat.le_trans (intBits_mul_le (bits_st hb hst) (bits_fac hb hf)) (by decide)) (Nat.le_trans (bits_fac hb hs) (by decide))
theorem fac_3 {bs st f s k : Int} (hb : 256 ≤ bs ∧ bs ≤ 65536) (hst : 0 ≤ st ∧ st ≤ 3) (hf : 1 ≤ f ∧ f ≤ 3) (hs : 1 ≤ s ∧ s ≤ 3) (hk : 1 ≤ k ∧ k ≤ 3) : IntMulOk (bs ^ st.toNat * (1 + bs ^ f.toNat + bs ^ (2 * f).toNat) * (1 + bs ^ s.toNat + bs ^ (2 * s).toNat)) (1 + bs ^ k.toNat + bs ^ (2 * k).toNat) :=
  IntMulOk.of_bits (Nat.le_trans (intBits_mul_le (intBits_mul_le (bits_st hb hst) (bits_fac hb hf)) (bits_fac hb hs)) (by decide)) (Nat.le_trans (bits_fac hb hk) (by decide))
set_option maxRecDepth 100000 in
set_option maxHeartbeats 1000000 in
theorem law_sum (w : World) {p : Program} {loose : List Str} {mean : ExcName → Option Value} {mg mb : Str → Option Value} {base g : Heap} {L : Nat} {fa : Addr} {cd : Value} {s : Shared} {E : Value → Shared → Prop} {P : Flow → Shared → Prop}
   (X : (heapK w.params).In g) (T : Top p loose mean mg mb g) (B : Below callerA base [] g) {news : Led} {c1 c6 : Option Value}
   {v1 v2 v3 v4 v5 v6 v7 v8 v9 v10 v11 : Option Value} {Q : Addr} {w0 w1 w2 bs : Int} {u0 u1 u2 tb : Tok} {f s' k st : Int} {tf ts tk' tst : Tok} {kq : Nat} (hf : 1 ≤ f ∧ f ≤ 3) (hs : 1 ≤ s' ∧ s' ≤ 3) (hk : 1 ≤ k ∧ k ≤ 3) (hst : 0 ≤ st ∧ st ≤ 3) (hb : 256 ≤ bs ∧ bs ≤ 65536)
   (hsum : Flt.Hid (w0 + w1 + w2 = bs ^ st.toNat * (1 + bs ^ f.toNat + bs ^ (2 * f).toNat) * (1 + bs ^ s'.toNat + bs ^ (2 * s').toNat) * (1 + bs ^ k.toNat + bs ^ (2 * k).toNat)))
   (S : LawS L g (mapL v1 v2 v3 v4 v5 v6 v7 v8 v9 v10 v11 (some (.int bs tb)) (some (.ref Q))) c1 (some (.int f tf)) (some (.int s' ts)) (some (.int k tk')) (some (.int st tst)) c6 ((Q, listOf #[.int w0 u0, .int w1 u1, .int w2 u2] kq) :: news) s.heap)
   (post : ∀ h' tk2, LawS L g (mapL v1 v2 v3 v4 v5 v6 v7 v8 v9 v10 v11 (some (.int bs tb)) (some (.ref Q))) c1 (some (.int f tf)) (some (.int s' ts)) (some (.int k tk')) (some (.int st tst)) c6 ((Q, listOf #[.int w0 u0, .int w1 u1, .int w2 u2] kq) :: news) h' → P .next { s with heap := h', toks := tk2 }) :
   wpAny (model Challenge.rw_qu0064_01.row.prog w) (AW L fa cd) (exec lb15.1 (envW L fa cd)) P E s := by
  revert X; k_fill; intro X
  have off := S.off
  obtain ⟨F, ⟨o1, o2, o3, o4, o5, o6, N, d1, d2, d3, d4, d5, d6⟩, _⟩ := S
  have hI9 : IntsAre [.int w0 u0, .int w1 u1, .int w2 u2] [w0, w1, w2] := .cons _ _ (.cons _ _ (.cons _ _ .nil))
  k_steps
  refine sumK rfl (by k_asm) (by k_asm) (News.isList N (.tail _ (.tail _ (.tail _ (.tail _ (.tail _ (.tail _ (.head _)))))))) hI9 (fun h8 tk8 t8 F8 N8 => ?_)
  clear F N
  k_steps
  refine mul_int ?_ (fac_1 hb hst hf)
  obtain ⟨p1, e1⟩ : ∃ p1, Flt.Hid (bs ^ st.toNat * (1 + bs ^ f.toNat + bs ^ (2 * f).toNat) = p1) := ⟨_, ⟨rfl⟩⟩
  rw [e1.out]
  have q1 := fac_2 hb hst hf hs
  rw [e1.out] at q1
  have h1 : Flt.Hid (IntMulOk p1 (1 + bs ^ s'.toNat + bs ^ (2 * s').toNat)) := ⟨q1⟩
  clear q1
  repeat (first | (dsimp only; walk1) | walk1)
  refine mul_int ?_ h1.out
  obtain ⟨p2, e2⟩ : ∃ p2, Flt.Hid (p1 * (1 + bs ^ s'.toNat + bs ^ (2 * s').toNat) = p2) := ⟨_, ⟨rfl⟩⟩
  rw [e2.out]
  have q2 := fac_3 hb hst hf hs hk
  rw [e1.out, e2.out] at q2
  have h2 : Flt.Hid (IntMulOk p2 (1 + bs ^ k.toNat + bs ^ (2 * k).toNat)) := ⟨q2⟩
  clear q2
  clear h1
  repeat (first | (dsimp only; walk1) | walk1)
  refine mul_int ?_ h2.out
  have hx : [w0, w1, w2].sum = p2 * (1 + bs ^ k.toNat + bs ^ (2 * k).toNat) := by
    rw [← e2.out, ← e1.out, ← hsum.out]
    simp only [List.sum_cons, List.sum_nil, Int.add_zero, Int.add_assoc]
  rw [hx]
  clear hx h2 e1 e2
  dsimp only
  refine PySem.SeqAt.RcNeAt.int_int _ _ _ _ _ _ _ _ ?_
  rw [beq_self_eq_true, Bool.not_true]
  repeat (first | (dsimp only; walk1) | walk1)
  rename Fr _ _ _ _ => F7
  exact post _ _ ⟨F7, ⟨_, _, _, _, _, _, N8, d1, d2, d3, d4, d5, d6⟩, off⟩
set_option maxRecDepth 100000 in
set_option maxHeartbeats 1000000 in
theorem law_last (w : World) {p : Program} {loose : List Str} {mean : ExcName → Option Value} {mg mb : Str → Option Value} {base g : Heap} {L : Nat} {fa : Addr} {cd : Value} {s : Shared} {E : Value → Shared → Prop} {P : Flow → Shared → Prop}
   (X : (heapK w.params).In g) (T : Top p loose mean mg mb g) (B : Below callerA base [] g) {R : Led} {c1 c5 c6 : Option Value} {t : Obj}
   {v1 v2 v3 v4 v5 v6 v7 v8 v9 v10 v11 : Option Value} {Q : Addr} {w0 w1 w2 bs : Int} {u0 u1 u2 tb : Tok} {f s' k : Int} {tf ts tk' : Tok} {kq : Nat} (hf : 1 ≤ f ∧ f ≤ 3) (hs : 1 ≤ s' ∧ s' ≤ 3) (hk : 1 ≤ k ∧ k ≤ 3) (hb : 256 ≤ bs ∧ bs ≤ 65536)
   (H1 : Flt.Hid (DivOk (w0 - w1) bs (f * s' * k) 3)) (H2 : Flt.Hid (DivOk (w1 - w2) bs (f * s' * k) (-6))) (hT : TabD t R) (hR : ∀ q ∈ R, q.1 ≠ 108 ∧ q.1 ≠ 115) (hQ : Q ≠ 108 ∧ Q ≠ 115)
   (S : LawS L g (mapL v1 v2 v3 v4 v5 v6 v7 v8 v9 v10 v11 (some (.int bs tb)) (some (.ref Q))) c1 (some (.int f tf)) (some (.int s' ts)) (some (.int k tk')) c5 c6 ((Q, listOf #[.int w0 u0, .int w1 u1, .int w2 u2] kq) :: (108, tabObj #[]) :: (115, t) :: R) s.heap)
   (post : ∀ h' tk2 m', Fr g L h' m' → GrownAt 108 h' → GrownAt 115 h' → P (.ret (.bool true)) { s with heap := h', toks := tk2 }) :
   wpAny (model Challenge.rw_qu0064_01.row.prog w) (AW L fa cd) (exec lb16.1 (envW L fa cd)) P E s := by
  revert X; k_fill; intro X
  have off := S.off
  obtain ⟨F, ⟨o1, o2, o3, o4, o5, o6, N, d1, d2, d3, d4, d5, d6⟩, _⟩ := S
  k_steps
  refine stop_go ?_
  have hbL := big_L (by k_asm) F
  have hq : 0 ≤ f * s' * k ∧ f * s' * k ≤ 27 := by
    have h1 : f * s' ≤ 3 * 3 := Int.mul_le_mul hf.2 hs.2 (by omega) (by decide)
    have h2 : 0 ≤ f * s' := Int.mul_nonneg (by omega) (by omega)
    have h3 : f * s' * k ≤ 9 * 3 := Int.mul_le_mul h1 hk.2 (by omega) (by decide)
    exact ⟨Int.mul_nonneg h2 (by omega), h3⟩
  have N8 : News g L s.heap ((108, tabObj #[]) :: (115, t) :: (Q, listOf #[.int w0 u0, .int w1 u1, .int w2 u2] kq) :: cells6 L o1 o2 o3 o4 o5 o6 R) := News.sub N fun q hq => by
    simp only [cells6, List.mem_cons] at hq ⊢
    rcases hq with h | h | h | h | h | h | h | h | h | h <;> simp only [h, true_or, or_true]
  have ne : ∀ P : Nat, P ≤ 191 → Q ≠ P → (∀ q ∈ R, q.1 ≠ P) → ∀ q ∈ (Q, listOf #[.int w0 u0, .int w1 u1, .int w2 u2] kq) :: cells6 L o1 o2 o3 o4 o5 o6 R, q.1 ≠ P := fun P hP h1 h2 q hq => by
    have hL : 191 < L := hbL
    simp only [cells6, List.mem_cons] at hq
    rcases hq with rfl | rfl | rfl | rfl | rfl | rfl | rfl | hq
    · exact h1
    · exact Nat.ne_of_gt (show P < L + 6 by omega)
    · exact Nat.ne_of_gt (show P < L + 5 by omega)
    · exact Nat.ne_of_gt (show P < L + 4 by omega)
    · exact Nat.ne_of_gt (show P < L + 3 by omega)
    · exact Nat.ne_of_gt (show P < L + 2 by omega)
    · exact Nat.ne_of_gt (show P < L + 1 by omega)
    · exact h2 q hq
  refine' CtrN.use (c_divs w (tabObj #[]) t _ Q kq w0 w1 w2 bs (f * s' * k) u0 u1 u2 tb _ hb hq (.head _) H1 H2 (.inl rfl) (TabSt.mono hT fun q hq => .tail _ (.tail _ (.tail _ (.tail _ (.tail _ (.tail _ (.tail _ hq))))))) ⟨ne 108 (by decide) hQ.1 fun q hq => (hR q hq).1⟩ ⟨ne 115 (by decide) hQ.2 fun q hq => (hR q hq).2⟩) ?ka1 ?kb1 ?kc1 ?kd1 ?ke1 ?kK1 ?kf1 ?kg1 ?_
  case kd1 => exact N8
  case ka1 => k_asm
  case kb1 => k_asm
  case kc1 => k_asm
  case ke1 => k_asm
  case kK1 => exact rfl
  case kf1 => ktr_room
  case kg1 => ktr_units
  intro v9 news9 h9 tk9 hR9 F9 N9
  obtain ⟨hR9, ⟨ps1, hp1⟩, ⟨ps2, hp2⟩⟩ := hR9
  subst hR9
  exact post _ _ _ F9 (GrownAt.of N9 hp1) (GrownAt.of N9 hp2)
end
section
open PySem PySem.W PyProof.Rows PySem.Spec PySem.Calls
set_option Elab.async false
local macro_rules | `(tactic| walk_at "zz0") => `(tactic| skip)
theorem fresh_ML3 : True := by
  w_top off
  trivial
theorem stock_f (w : World) (news : Led) (both : Str) (hb : both.length ≤ 4) (number : Int) (t1 t2 t3 : Tok) (hn : 0 ≤ number ∧ number < 1000000) : Ctr w 2 16 155 news [.str (Str.ofString "f") t1, .str both t2, .int number t3] (StockR 102 both number) := c_stock w news 102 (by decide) both hb number t1 t2 t3 hn
theorem stock_s (w : World) (news : Led) (both : Str) (hb : both.length ≤ 4) (number : Int) (t1 t2 t3 : Tok) (hn : 0 ≤ number ∧ number < 1000000) : Ctr w 2 16 155 news [.str (Str.ofString "s") t1, .str both t2, .int number t3] (StockR 115 both number) := c_stock w news 115 (by decide) both hb number t1 t2 t3 hn
theorem stock_k (w : World) (news : Led) (both : Str) (hb : both.length ≤ 4) (number : Int) (t1 t2 t3 : Tok) (hn : 0 ≤ number ∧ number < 1000000) : Ctr w 2 16 155 news [.str (Str.ofString "k") t1, .str both t2, .int number t3] (StockR 107 both number) := c_stock w news 107 (by decide) both hb number t1 t2 t3 hn
local macro_rules | `(tactic| walk_at "storeName") => `(tactic| (refine stop_of ?_))
local macro_rules | `(tactic| walk_at "call ref") => `(tactic| (refine stop_of ?_))
set_option maxRecDepth 100000 in
set_option maxHeartbeats 1000000 in
theorem law_stocks (w : World) {p : Program} {loose : List Str} {mean : ExcName → Option Value} {mg mb : Str → Option Value} {base g : Heap} {L : Nat} {fa : Addr} {cd : Value} {s : Shared} {E : Value → Shared → Prop} {P : Flow → Shared → Prop}
   (X : (heapK w.params).In g) (T : Top p loose mean mg mb g) (B : Below callerA base [] g) {news : Led} {c1 c2 c3 c4 c5 c6 : Option Value}
   {vs vd vl : Option Value} {a b c : Int} {ta tb tc : Tok} (ha : 0 ≤ a ∧ a < 1000000) (hb : 0 ≤ b ∧ b < 1000000) (hc : 0 ≤ c ∧ c < 1000000)
   (S : LawS L g (mapL vs vd (some (.int a ta)) (some (.int b tb)) (some (.int c tc)) vl none none none none none none none) c1 c2 c3 c4 c5 c6 news s.heap)
   (post : ∀ (S0 D0 D1 D2 : Addr) n0 n1 n2 k x0 y0 z0 x1 y1 z1 x2 y2 z2 h' tk', LawS L g (mapL vs vd (some (.int a ta)) (some (.int b tb)) (some (.int c tc)) vl none none none none none none none) (some (.ref S0)) c2 c3 c4 c5 c6 ((S0, listOf #[.ref D0, .ref D1, .ref D2] k) :: (D2, listOf #[.str ⟨#[nothingN (c.fdiv 36)]⟩ x2, .str (formF 107 (c.fdiv 3)) y2, .str (bothF 107 ⟨#[13261]⟩ c) z2] n2) :: (D1, listOf #[.str ⟨#[nothingN (b.fdiv 36)]⟩ x1, .str (formF 115 (b.fdiv 3)) y1, .str (bothF 115 ⟨#[223]⟩ b) z1] n1) :: (D0, listOf #[.str ⟨#[nothingN (a.fdiv 36)]⟩ x0, .str (formF 102 (a.fdiv 3)) y0, .str (bothF 102 ⟨#[64256]⟩ a) z0] n0) :: news) h' → P .next { s with heap := h', toks := tk' }) :
   wpAny (model Challenge.rw_qu0064_01.row.prog w) (AW L fa cd) (exec lb2.1 (envW L fa cd)) P E s := by
  revert X; k_fill; intro X
  obtain ⟨F, ⟨o1, o2, o3, o4, o5, o6, N, d1, d2, d3, d4, d5, d6⟩, off⟩ := S
  k_steps
  refine stop_go ?_
  refine' Ctr.use (stock_f w _ _ ?hb0 _ _ _ _ ?hn0) ?k10 ?k20 ?k30 ?k40 ?k50 ?kK0 ?kd0 ?ku0 ?_
  case k40 => k_asm
  case k10 => k_asm
  case k20 => k_asm
  case k30 => k_asm
  case k50 => k_asm
  case kK0 => exact rfl
  case kd0 => ktr_room
  case ku0 => ktr_units
  case hb0 => exact (show (1 : Nat) ≤ 4 by decide)
  case hn0 => assumption
  intro v09 more09 h09 tk09 hR09 F09 N09
  obtain ⟨D0, x0, y0, z0, n0, e09, e08⟩ := hR09
  subst e09 e08
  simp only [List.cons_append, List.nil_append] at N09
  dsimp only
  k_steps
  refine stop_go ?_
  refine' Ctr.use (stock_s w _ _ ?hb1 _ _ _ _ ?hn1) ?k11 ?k21 ?k31 ?k41 ?k51 ?kK1 ?kd1 ?ku1 ?_
  case k41 => k_asm
  case k11 => k_asm
  case k21 => k_asm
  case k31 => k_asm
  case k51 => k_asm
  case kK1 => exact rfl
  case kd1 => ktr_room
  case ku1 => ktr_units
  case hb1 => exact (show (1 : Nat) ≤ 4 by decide)
  case hn1 => assumption
  intro v19 more19 h19 tk19 hR19 F19 N19
  obtain ⟨D1, x1, y1, z1, n1, e19, e18⟩ := hR19
  subst e19 e18
  simp only [List.cons_append, List.nil_append] at N19
  dsimp only
  k_steps
  refine stop_go ?_
  refine' Ctr.use (stock_k w _ _ ?hb2 _ _ _ _ ?hn2) ?k12 ?k22 ?k32 ?k42 ?k52 ?kK2 ?kd2 ?ku2 ?_
  case k42 => k_asm
  case k12 => k_asm
  case k22 => k_asm
  case k32 => k_asm
  case k52 => k_asm
  case kK2 => exact rfl
  case kd2 => ktr_room
  case ku2 => ktr_units
  case hb2 => exact (show (1 : Nat) ≤ 4 by decide)
  case hn2 => assumption
  intro v29 more29 h29 tk29 hR29 F29 N29
  obtain ⟨D2, x2, y2, z2, n2, e29, e28⟩ := hR29
  subst e29 e28
  simp only [List.cons_append, List.nil_append] at N29
  dsimp only
  k_steps
  refine stop_go ?_
  rename News _ _ _ _ => N9
  rename Fr _ _ _ _ => F9
  have N8 := cells_front [_, _, _, _] N9
  have off8 := off6_new [_, _, _, _] N8 d1 d2 d3 d4 d5 d6 (List.forall_mem_cons.2 ⟨noCell_list, List.forall_mem_cons.2 ⟨noCell_list, List.forall_mem_cons.2 ⟨noCell_list, List.forall_mem_cons.2 ⟨noCell_list, fun _ h => nomatch h⟩⟩⟩⟩) off
  refine storeX_C F9 N8 rfl (upd1 off8) d1 fun h' o' F' N' d' => ?_
  exact post _ _ _ _ _ _ _ _ _ _ _ _ _ _ _ _ _ _ _ ⟨F', ⟨_, _, _, _, _, _, N', d', d2, d3, d4, d5, d6⟩, off8⟩
end
section
open PySem PySem.W PyProof.Rows PySem.Spec PySem.Calls PyProof.Rows.LCg
set_option Elab.async false
theorem fresh_ML1 : True := by
  w_top off
  trivial
local macro_rules | `(tactic| walk_at "pyIter ref") => `(tactic| (refine stop_of ?_))
local macro_rules | `(tactic| walk_at "subscriptTail") => `(tactic| (refine stop_of ?_))
theorem led_of {g h : Heap} {L : Addr} {x : Addr × Obj} {r : Led} (N : News g L h (x :: r)) : ∃ l', x :: r = l' ∧ News g L h l' ∧ x ∈ l' := ⟨x :: r, rfl, N, .head _⟩
theorem ints_get : ∀ {vs : List Value} {ns : List Int} {i : Nat} {v : Value}, IntsAre vs ns → vs[i]? = some v → ∃ x t, v = .int x t ∧ ns[i]? = some x
  | _, _, 0, _, .cons x t h, e => ⟨x, t, (Option.some.inj e).symm, rfl⟩
  | _, _, i + 1, _, .cons x t h, e => by
    rw [List.getElem?_cons_succ] at e ⊢
    exact ints_get h e
  | _, _, _, _, .nil, e => by simp at e
theorem take_snoc {xs : List Int} {i : Nat} {x : Int} (h : xs[i]? = some x) : xs.take (i + 1) = xs.take i ++ [x] := by
  rw [List.take_add_one, h]
  rfl
set_option maxRecDepth 100000 in
set_option maxHeartbeats 1000000 in
theorem law_drawn (w : World) {p : Program} {loose : List Str} {mean : ExcName → Option Value} {mg mb : Str → Option Value} {base g : Heap} {L : Nat} {fa : Addr} {cd : Value} {s : Shared} {E : Value → Shared → Prop} {P : Flow → Shared → Prop}
   (X : (heapK w.params).In g) (T : Top p loose mean mg mb g) (B : Below callerA base [] g) {news : Led} {c1 c2 c3 c4 c5 c6 : Option Value} {la : Addr} {vs : List Value} {ns : List Int} (hl : g.IsList la vs.toArray) (hi : IntsAre vs ns) (hlen : ns.length ≤ 63)
   (S : LawS L g (mapL (some (.ref la)) none none none none none none none none none none none none) c1 c2 c3 c4 c5 c6 news s.heap)
   (post : ∀ (W : Addr) ys h' tk', IntsAre ys ((ns.take 4).map fun x => x.fmod 1000000) → LawS L g (mapL (some (.ref la)) (some (.ref W)) none none none none none none none none none none none) c1 c2 c3 c4 c5 c6 ((W, lst ys) :: news) h' → P .next { s with heap := h', toks := tk' }) :
   wpAny (model Challenge.rw_qu0064_01.row.prog w) (AW L fa cd) (exec lb0.1 (envW L fa cd)) P E s := by
  revert X; k_fill; intro X
  have off := S.off
  obtain ⟨F, ⟨o1, o2, o3, o4, o5, o6, N, d1, d2, d3, d4, d5, d6⟩, _⟩ := S
  refine' comp_assign F ?q0 ?q1 ?qs ?qy ?qp ?q2 ?q3 ?q4 ?q5 ?_ ?q6
  case q0 => exact rfl
  case q1 => exact rfl
  case qs => exact rfl
  case qy => exact rfl
  case qp => exact rfl
  case q2 => with_unfolding_all rfl
  case q3 => decide
  case q4 => exact rfl
  case q5 => decide
  case q6 => exact fun _ => rfl
  dsimp only
  k_steps
  refine stop_go ?_
  rename News _ _ _ _ => N9
  rename Fr _ _ _ _ => F9
  rename IntsAre _ (List.take 4 ns) => hI
  have hl4 : (List.take 4 ns).length ≤ 4 := by rw [List.length_take]; omega
  obtain ⟨led, el, N7, hm⟩ := led_of N9
  refine src_list rfl F9 N7 (.inr ⟨_, hm, rfl, _, rfl⟩) (fun ys nw => nw = led ∧ IntsAre ys ((List.take 4 ns).map fun x => x.fmod 1000000)) ?_ ?_
  · intro I h' C D h tk R offI K ne cst hR
    refine loop1 (fun _ => rfl) K ne rfl rfl (by rw [List.size_toArray, hI.length]; exact Nat.le_trans hl4 (by decide)) (fun c ys nw => nw = led ∧ IntsAre ys (((List.take 4 ns).take c).map fun x => x.fmod 1000000)) ?_ cst ⟨rfl, .nil⟩ (fun h'' tk'' m₂ ys nw z hJ => hR h'' tk'' m₂ ys nw z ⟨hJ.2.1, by
      have e := hJ.2.2
      rw [List.take_of_length_le (by rw [List.size_toArray, hI.length]; exact Nat.le_refl _)] at e
      exact e⟩)
    intro i v ys m₂ nw h tk oI oC Q' E' hi' hp hJ hoC e0 F2 N2 off2 hS hSt ret
    obtain ⟨rfl, hP⟩ := hJ
    obtain ⟨x, t, rfl, hx⟩ := ints_get hI (by simpa using hp)
    clear F9 N9 N7 hR el hm
    k_steps
    rename Fr _ _ _ _ => F3
    refine ret _ _ _ _ F3 N2 off2 hS ⟨rfl, ?_⟩
    rw [take_snoc hx, List.map_append]
    exact ints_snoc hP
  · intro D ys nw h' tk'' F' N' o f
    obtain ⟨rfl, f3⟩ := f
    subst el
    refine post D ys h' tk'' f3 (LawS.sub (LawS.of (old := news) [(D, LCg.lst ys), (_, _)] (fr_map F' mapL_drawn) (cells_front [(D, LCg.lst ys), (_, _)] N') d1 d2 d3 d4 d5 d6 (fun q hq => ?_) off) fun q hq => ?_)
    · simp only [List.mem_cons, List.not_mem_nil, or_false] at hq
      rcases hq with rfl | rfl <;> exact noCell_list
    · rcases List.mem_cons.1 hq with h | h
      · exact h ▸ .head _
      · exact .tail _ (.tail _ h)
end
section
open PySem PySem.W PyProof.Rows PySem.Spec PySem.Calls PyProof.Rows.LCg
set_option Elab.async false
theorem fresh_ML2 : True := by
  w_top off
  trivial
theorem mapL_four {a b c d v_script v_drawn v_first v_second v_third v_last v_words v_counts v_places v_told v_lamps v_base v_wholes : Option Value} : (fun y => if y = Str.ofString "last" then d else if y = Str.ofString "third" then c else if y = Str.ofString "second" then b else if y = Str.ofString "first" then a else mapL v_script v_drawn v_first v_second v_third v_last v_words v_counts v_places v_told v_lamps v_base v_wholes y) = mapL v_script v_drawn a b c d v_words v_counts v_places v_told v_lamps v_base v_wholes := by
  funext y
  by_cases h1 : y = Str.ofString "last"
  · subst h1; rfl
  · by_cases h2 : y = Str.ofString "third"
    · subst h2; rfl
    · by_cases h3 : y = Str.ofString "second"
      · subst h3; rfl
      · by_cases h4 : y = Str.ofString "first"
        · subst h4; rfl
        · simp only [mapL, if_neg h1, if_neg h2, if_neg h3, if_neg h4]
theorem ints_0 {vs : List Value} (h : IntsAre vs []) : vs = [] := by cases h; rfl
theorem ints_s {vs : List Value} {n : Int} {ns : List Int} (h : IntsAre vs (n :: ns)) : ∃ t us, vs = .int n t :: us ∧ IntsAre us ns := by cases h with | cons i u h => exact ⟨_, _, rfl, h⟩
theorem n_unp {g h : Heap} {L : Nat} {x y z wl : Addr × Obj} {o1 o2 o3 o4 o5 o6 : Obj} {news : Led} (N : News g L h (x :: y :: z :: cells6 L o1 o2 o3 o4 o5 o6 (wl :: news))) : News g L h (x :: cells6 L o1 o2 o3 o4 o5 o6 news) := News.sub N fun q hq => by
  simp only [cells6, List.mem_cons] at hq ⊢
  rcases hq with h | h | h | h | h | h | h | h <;> simp only [h, true_or, or_true]
noncomputable abbrev lb1t : { x : Expr // ∃ v p, d_law.1.2.1[1]? = some (Stmt.Assign [x] v p) } := ⟨_, _, _, rfl⟩
set_option maxRecDepth 100000 in
set_option maxHeartbeats 1000000 in
theorem unpack_tail (w : World) {p : Program} {loose : List Str} {mean : ExcName → Option Value} {mg mb : Str → Option Value} {base g : Heap} {L : Nat} {fa : Addr} {cd : Value} {s : Shared} {E : Value → Shared → Prop} {P : Flow → Shared → Prop}
   (X : (heapK w.params).In g) (T : Top p loose mean mg mb g) (B : Below callerA base [] g) {news : Led} {c1 c2 c3 c4 c5 c6 : Option Value} {o1 o2 o3 o4 o5 o6 : Obj} {v1 : Option Value} {W D : Addr} {a b c d : Int} {t0 t1 t2 t3 : Tok}
   (F : Fr g L s.heap (mapL v1 (some (.ref W)) none none none none none none none none none none none)) (N : News g L s.heap ((D, PySem.W.listOf #[.int a t0, .int b t1, .int c t2, .int d t3] 0) :: cells6 L o1 o2 o3 o4 o5 o6 news))
   (d1 : o1.data = .cell c1) (d2 : o2.data = .cell c2) (d3 : o3.data = .cell c3) (d4 : o4.data = .cell c4) (d5 : o5.data = .cell c5) (d6 : o6.data = .cell c6) (off : Off6 L news)
   (post : ∀ s1 s2 s3 s4 h' tk', LawS L g (mapL v1 (some (.ref W)) (some (.int a s1)) (some (.int b s2)) (some (.int c s3)) (some (.int d s4)) none none none none none none none) c1 c2 c3 c4 c5 c6 news h' → P .next { s with heap := h', toks := tk' }) :
   wpAny (model Challenge.rw_qu0064_01.row.prog w) (AW L fa cd) (assign lb1t.1 (envW L fa cd) (.ref D)) (fun _ s₂ => P .next s₂) E s := by
  revert X; k_fill; intro X
  k_steps
  rename Fr _ _ _ _ => F9
  rename News _ _ _ _ => N9
  refine post _ _ _ _ _ _ ⟨fr_map F9 mapL_four, ⟨_, _, _, _, _, _, News.sub N9 (fun q hq => ?_), d1, d2, d3, d4, d5, d6⟩, off⟩
  exact .tail _ hq
local macro_rules | `(tactic| walk_at "assign Tuple") => `(tactic| (refine stop_of ?_))
set_option maxRecDepth 100000 in
set_option maxHeartbeats 1000000 in
theorem law_unpack0 (w : World) {p : Program} {loose : List Str} {mean : ExcName → Option Value} {mg mb : Str → Option Value} {base g : Heap} {L : Nat} {fa : Addr} {cd : Value} {s : Shared} {E : Value → Shared → Prop} {P : Flow → Shared → Prop}
   (X : (heapK w.params).In g) (T : Top p loose mean mg mb g) (B : Below callerA base [] g) {news : Led} {c1 c2 c3 c4 c5 c6 : Option Value} {v1 : Option Value} {W : Addr}
   (S : LawS L g (mapL v1 (some (.ref W)) none none none none none none none none none none none) c1 c2 c3 c4 c5 c6 ((W, LCg.lst []) :: news) s.heap)
   (post : ∀ s1 s2 s3 s4 h' tk', LawS L g (mapL v1 (some (.ref W)) (some (.int 114 s1)) (some (.int 1696 s2)) (some (.int 0 s3)) (some (.int 1 s4)) none none none none none none none) c1 c2 c3 c4 c5 c6 news h' → P .next { s with heap := h', toks := tk' }) :
   wpAny (model Challenge.rw_qu0064_01.row.prog w) (AW L fa cd) (exec lb1.1 (envW L fa cd)) P E s := by
  revert X; k_fill; intro X
  have off := S.off
  obtain ⟨F, ⟨o1, o2, o3, o4, o5, o6, N, d1, d2, d3, d4, d5, d6⟩, _⟩ := S
  k_steps
  refine stop_go ?_
  rename Fr _ _ _ _ => F9
  rename News _ _ _ _ => N9
  exact unpack_tail w X T B F9 (n_unp N9) d1 d2 d3 d4 d5 d6 (fun q hq => off q (.tail _ hq)) post
set_option maxRecDepth 100000 in
set_option maxHeartbeats 1000000 in
theorem law_unpack1 (w : World) {p : Program} {loose : List Str} {mean : ExcName → Option Value} {mg mb : Str → Option Value} {base g : Heap} {L : Nat} {fa : Addr} {cd : Value} {s : Shared} {E : Value → Shared → Prop} {P : Flow → Shared → Prop}
   (X : (heapK w.params).In g) (T : Top p loose mean mg mb g) (B : Below callerA base [] g) {news : Led} {c1 c2 c3 c4 c5 c6 : Option Value} {v1 : Option Value} {W : Addr} {a : Int} {t0 : Tok}
   (S : LawS L g (mapL v1 (some (.ref W)) none none none none none none none none none none none) c1 c2 c3 c4 c5 c6 ((W, LCg.lst [.int a t0]) :: news) s.heap)
   (post : ∀ s1 s2 s3 s4 h' tk', LawS L g (mapL v1 (some (.ref W)) (some (.int a s1)) (some (.int 1696 s2)) (some (.int 0 s3)) (some (.int 1 s4)) none none none none none none none) c1 c2 c3 c4 c5 c6 news h' → P .next { s with heap := h', toks := tk' }) :
   wpAny (model Challenge.rw_qu0064_01.row.prog w) (AW L fa cd) (exec lb1.1 (envW L fa cd)) P E s := by
  revert X; k_fill; intro X
  have off := S.off
  obtain ⟨F, ⟨o1, o2, o3, o4, o5, o6, N, d1, d2, d3, d4, d5, d6⟩, _⟩ := S
  k_steps
  refine stop_go ?_
  rename Fr _ _ _ _ => F9
  rename News _ _ _ _ => N9
  exact unpack_tail w X T B F9 (n_unp N9) d1 d2 d3 d4 d5 d6 (fun q hq => off q (.tail _ hq)) post
set_option maxRecDepth 100000 in
set_option maxHeartbeats 1000000 in
theorem law_unpack2 (w : World) {p : Program} {loose : List Str} {mean : ExcName → Option Value} {mg mb : Str → Option Value} {base g : Heap} {L : Nat} {fa : Addr} {cd : Value} {s : Shared} {E : Value → Shared → Prop} {P : Flow → Shared → Prop}
   (X : (heapK w.params).In g) (T : Top p loose mean mg mb g) (B : Below callerA base [] g) {news : Led} {c1 c2 c3 c4 c5 c6 : Option Value} {v1 : Option Value} {W : Addr} {a b : Int} {t0 t1 : Tok}
   (S : LawS L g (mapL v1 (some (.ref W)) none none none none none none none none none none none) c1 c2 c3 c4 c5 c6 ((W, LCg.lst [.int a t0, .int b t1]) :: news) s.heap)
   (post : ∀ s1 s2 s3 s4 h' tk', LawS L g (mapL v1 (some (.ref W)) (some (.int a s1)) (some (.int b s2)) (some (.int 0 s3)) (some (.int 1 s4)) none none none none none none none) c1 c2 c3 c4 c5 c6 news h' → P .next { s with heap := h', toks := tk' }) :
   wpAny (model Challenge.rw_qu0064_01.row.prog w) (AW L fa cd) (exec lb1.1 (envW L fa cd)) P E s := by
  revert X; k_fill; intro X
  have off := S.off
  obtain ⟨F, ⟨o1, o2, o3, o4, o5, o6, N, d1, d2, d3, d4, d5, d6⟩, _⟩ := S
  k_steps
  refine stop_go ?_
  rename Fr _ _ _ _ => F9
  rename News _ _ _ _ => N9
  exact unpack_tail w X T B F9 (n_unp N9) d1 d2 d3 d4 d5 d6 (fun q hq => off q (.tail _ hq)) post
set_option maxRecDepth 100000 in
set_option maxHeartbeats 1000000 in
theorem law_unpack3 (w : World) {p : Program} {loose : List Str} {mean : ExcName → Option Value} {mg mb : Str → Option Value} {base g : Heap} {L : Nat} {fa : Addr} {cd : Value} {s : Shared} {E : Value → Shared → Prop} {P : Flow → Shared → Prop}
   (X : (heapK w.params).In g) (T : Top p loose mean mg mb g) (B : Below callerA base [] g) {news : Led} {c1 c2 c3 c4 c5 c6 : Option Value} {v1 : Option Value} {W : Addr} {a b c : Int} {t0 t1 t2 : Tok}
   (S : LawS L g (mapL v1 (some (.ref W)) none none none none none none none none none none none) c1 c2 c3 c4 c5 c6 ((W, LCg.lst [.int a t0, .int b t1, .int c t2]) :: news) s.heap)
   (post : ∀ s1 s2 s3 s4 h' tk', LawS L g (mapL v1 (some (.ref W)) (some (.int a s1)) (some (.int b s2)) (some (.int c s3)) (some (.int 1 s4)) none none none none none none none) c1 c2 c3 c4 c5 c6 news h' → P .next { s with heap := h', toks := tk' }) :
   wpAny (model Challenge.rw_qu0064_01.row.prog w) (AW L fa cd) (exec lb1.1 (envW L fa cd)) P E s := by
  revert X; k_fill; intro X
  have off := S.off
  obtain ⟨F, ⟨o1, o2, o3, o4, o5, o6, N, d1, d2, d3, d4, d5, d6⟩, _⟩ := S
  k_steps
  refine stop_go ?_
  rename Fr _ _ _ _ => F9
  rename News _ _ _ _ => N9
  exact unpack_tail w X T B F9 (n_unp N9) d1 d2 d3 d4 d5 d6 (fun q hq => off q (.tail _ hq)) post
set_option maxRecDepth 100000 in
set_option maxHeartbeats 1000000 in
theorem law_unpack4 (w : World) {p : Program} {loose : List Str} {mean : ExcName → Option Value} {mg mb : Str → Option Value} {base g : Heap} {L : Nat} {fa : Addr} {cd : Value} {s : Shared} {E : Value → Shared → Prop} {P : Flow → Shared → Prop}
   (X : (heapK w.params).In g) (T : Top p loose mean mg mb g) (B : Below callerA base [] g) {news : Led} {c1 c2 c3 c4 c5 c6 : Option Value} {v1 : Option Value} {W : Addr} {a b c d : Int} {t0 t1 t2 t3 : Tok}
   (S : LawS L g (mapL v1 (some (.ref W)) none none none none none none none none none none none) c1 c2 c3 c4 c5 c6 ((W, LCg.lst [.int a t0, .int b t1, .int c t2, .int d t3]) :: news) s.heap)
   (post : ∀ s1 s2 s3 s4 h' tk', LawS L g (mapL v1 (some (.ref W)) (some (.int a s1)) (some (.int b s2)) (some (.int c s3)) (some (.int d s4)) none none none none none none none) c1 c2 c3 c4 c5 c6 news h' → P .next { s with heap := h', toks := tk' }) :
   wpAny (model Challenge.rw_qu0064_01.row.prog w) (AW L fa cd) (exec lb1.1 (envW L fa cd)) P E s := by
  revert X; k_fill; intro X
  have off := S.off
  obtain ⟨F, ⟨o1, o2, o3, o4, o5, o6, N, d1, d2, d3, d4, d5, d6⟩, _⟩ := S
  k_steps
  refine stop_go ?_
  rename Fr _ _ _ _ => F9
  rename News _ _ _ _ => N9
  exact unpack_tail w X T B F9 (n_unp N9) d1 d2 d3 d4 d5 d6 (fun q hq => off q (.tail _ hq)) post
noncomputable def fourth (ns : List Int) (i : Nat) (d : Int) : Int := match ns[i]? with | some x => x.fmod 1000000 | none => d
theorem fourth_in {ns : List Int} {i : Nat} {d : Int} (hd : 0 ≤ d ∧ d < 1000000) : 0 ≤ fourth ns i d ∧ fourth ns i d < 1000000 := by
  unfold fourth
  split
  · exact ⟨Int.fmod_nonneg_of_pos _ (by decide), Int.fmod_lt_of_pos _ (by decide)⟩
  · exact hd
theorem law_unpack (w : World) {p : Program} {loose : List Str} {mean : ExcName → Option Value} {mg mb : Str → Option Value} {base g : Heap} {L : Nat} {fa : Addr} {cd : Value} {s : Shared} {E : Value → Shared → Prop} {P : Flow → Shared → Prop}
   (X : (heapK w.params).In g) (T : Top p loose mean mg mb g) (B : Below callerA base [] g) {news : Led} {c1 c2 c3 c4 c5 c6 : Option Value} {v1 : Option Value} {W : Addr} {ys : List Value} {ns : List Int} (hy : IntsAre ys ((ns.take 4).map fun x => x.fmod 1000000))
   (S : LawS L g (mapL v1 (some (.ref W)) none none none none none none none none none none none) c1 c2 c3 c4 c5 c6 ((W, LCg.lst ys) :: news) s.heap)
   (post : ∀ s1 s2 s3 s4 h' tk', LawS L g (mapL v1 (some (.ref W)) (some (.int (fourth ns 0 114) s1)) (some (.int (fourth ns 1 1696) s2)) (some (.int (fourth ns 2 0) s3)) (some (.int (fourth ns 3 1) s4)) none none none none none none none) c1 c2 c3 c4 c5 c6 news h' → P .next { s with heap := h', toks := tk' }) :
   wpAny (model Challenge.rw_qu0064_01.row.prog w) (AW L fa cd) (exec lb1.1 (envW L fa cd)) P E s := by
  rcases ns with _ | ⟨a, _ | ⟨b, _ | ⟨c, _ | ⟨d, r⟩⟩⟩⟩
  · skip
    have e := ints_0 hy
    subst e
    exact law_unpack0 w X T B S post
  · skip
    obtain ⟨t0, u0, rfl, hz1⟩ := ints_s hy
    have e := ints_0 hz1
    subst e
    exact law_unpack1 w X T B S post
  · skip
    obtain ⟨t0, u0, rfl, hz1⟩ := ints_s hy
    obtain ⟨t1, u1, rfl, hz2⟩ := ints_s hz1
    have e := ints_0 hz2
    subst e
    exact law_unpack2 w X T B S post
  · skip
    obtain ⟨t0, u0, rfl, hz1⟩ := ints_s hy
    obtain ⟨t1, u1, rfl, hz2⟩ := ints_s hz1
    obtain ⟨t2, u2, rfl, hz3⟩ := ints_s hz2
    have e := ints_0 hz3
    subst e
    exact law_unpack3 w X T B S post
  · skip
    obtain ⟨t0, u0, rfl, hz1⟩ := ints_s hy
    obtain ⟨t1, u1, rfl, hz2⟩ := ints_s hz1
    obtain ⟨t2, u2, rfl, hz3⟩ := ints_s hz2
    obtain ⟨t3, u3, rfl, hz4⟩ := ints_s hz3
    have e := ints_0 hz4
    subst e
    exact law_unpack4 w X T B S post
end
section
open PySem PySem.W PyProof.Rows PySem.Spec PySem.Calls
set_option Elab.async false
set_option maxRecDepth 100000
noncomputable def shI (c : Nat) : List Int → List Nat → List Nat → List Int
  | acc, n :: ns, p :: ps => shI c (acc.set p (acc.getD p 0 + if n % 3 = c then 1 else 0)) ns ps
  | acc, _, _ => acc
theorem int_one : Flt.toInt Float64.truncOf fOne = 1 := by decide +kernel
theorem int_zero : Flt.toInt Float64.truncOf 0 = 0 := by decide +kernel
theorem lamp_int (n : Nat) : Flt.toInt Float64.truncOf (lampF n).1 = (if n % 3 = 0 then 1 else 0) ∧ Flt.toInt Float64.truncOf (lampF n).2.1 = (if n % 3 = 1 then 1 else 0) ∧ Flt.toInt Float64.truncOf (lampF n).2.2 = (if n % 3 = 2 then 1 else 0) := by
  have h : n % 3 = 0 ∨ n % 3 = 1 ∨ n % 3 = 2 := by omega
  unfold lampF
  rcases h with e | e | e <;> rw [e] <;> simp only [int_one, int_zero] <;> decide
theorem shF_int : ∀ (lam : List Lamp) (ns ps : List Nat) (A B C : List Int), lam.map (·.2) = ns.map lampF → shF (A, B, C) lam (ps.map fun (p : Nat) => (p : Int)) = (shI 0 A ns ps, shI 1 B ns ps, shI 2 C ns ps)
  | [], [], ps, A, B, C, _ => by
    have e : ∀ c l, shI c l [] ps = l := fun c l => by cases ps <;> rfl
    rw [e, e, e, shF_nil]
  | [], _ :: _, _, _, _, _, h => by cases h
  | _ :: _, [], _, _, _, _, h => by cases h
  | x :: lam, n :: ns, [], A, B, C, _ => rfl
  | x :: lam, n :: ns, p :: ps, A, B, C, h => by
    rw [List.map_cons, List.map_cons] at h
    injection h with h1 h2
    obtain ⟨a1, a2, a3⟩ := lamp_int n
    rw [List.map_cons, shF]
    have e1 : shS (A, B, C) x (p : Int) = (A.set p (A.getD p 0 + if n % 3 = 0 then 1 else 0), B.set p (B.getD p 0 + if n % 3 = 1 then 1 else 0), C.set p (C.getD p 0 + if n % 3 = 2 then 1 else 0)) := by
      unfold shS addAt
      rw [h1, a1, a2, a3, Int.toNat_natCast]
    rw [e1, shF_int lam ns ps _ _ _ h2]
    rfl
noncomputable def szN (st f s k : Nat) : Nat := st + 2 * (f + s + k) + 1
noncomputable def figN (c st f s k : Nat) : List Int := shI c (List.replicate (szN st f s k) 0) lens (plN st f s k)
noncomputable def idmB (a b : Int) : Bool := decide (0 < b) && Nat.ble (Builtin.Int.intBits b) 100 && Nat.ble (Builtin.Int.intBits (absN a : Int)) 1000 && Nat.ble ((Builtin.Int.intBits (absN a : Int) + Builtin.Int.intBits b - 1) / Builtin.Int.intBits b) 32
theorem idm_of {a b : Int} (h : idmB a b = true) : IdmOk a b := by
  unfold idmB at h
  simp only [Bool.and_eq_true, decide_eq_true_eq] at h
  obtain ⟨⟨⟨h1, h2⟩, h3⟩, h4⟩ := h
  exact ⟨h1, Nat.le_of_ble_eq_true h2, Nat.le_of_ble_eq_true h3, Nat.le_of_ble_eq_true h4⟩
noncomputable def divB (d bs q fac : Int) : Bool := idmB d ((bs - 1) ^ 3) && decide (d.fmod ((bs - 1) ^ 3) = 0) && idmB (d.fdiv ((bs - 1) ^ 3)) (bs - 1) && decide ((d.fdiv ((bs - 1) ^ 3)).fmod (bs - 1) = (fac * q).fmod (bs - 1))
theorem div_of {d bs q fac : Int} (h : divB d bs q fac = true) : DivOk d bs q fac := by
  unfold divB at h
  simp only [Bool.and_eq_true, decide_eq_true_eq] at h
  obtain ⟨⟨⟨h1, h2⟩, h3⟩, h4⟩ := h
  exact ⟨idm_of h1, h2, idm_of h3, h4⟩
noncomputable def figB (d : List Int) : Bool := Nat.ble d.length 32 && d.all fun x => decide (x.natAbs < 2 ^ 10)
theorem fig_of {d : List Int} {n : Int} (hn : 0 ≤ n ∧ n ≤ 100) (h : figB d = true) : FigOk d n := by
  unfold figB at h
  obtain ⟨h1, h2⟩ := Bool.and_eq_true_iff.mp h
  have h3 := Nat.le_of_ble_eq_true h1
  exact ⟨h3, ⟨fun a b _ _ _ => seg_bits hn h3 (m := 10) (by decide) (fun x hx => of_decide_eq_true (List.all_eq_true.mp h2 x hx)) a b⟩⟩
noncomputable def sumB (w0 w1 w2 b : Int) (st f s k : Nat) : Bool := decide (w0 + w1 + w2 = b ^ st * (1 + b ^ f + b ^ (2 * f)) * (1 + b ^ s + b ^ (2 * s)) * (1 + b ^ k + b ^ (2 * k)))
noncomputable def whB (w0 w1 w2 b : Int) (st f s k : Nat) : Bool := sumB w0 w1 w2 b st f s k && divB (w0 - w1) b ((f * s * k : Nat) : Int) 3 && divB (w1 - w2) b ((f * s * k : Nat) : Int) (-6)
noncomputable def widthsB (d0 d1 d2 : List Int) (st f s k : Nat) : Bool := (List.range 9).all fun j => whB (polyI (8 + j) d0) (polyI (8 + j) d1) (polyI (8 + j) d2) (2 ^ (8 + j)) st f s k
noncomputable def wholeB (st f s k : Nat) : Bool := figB (figN 0 st f s k) && figB (figN 1 st f s k) && figB (figN 2 st f s k) && widthsB (figN 0 st f s k) (figN 1 st f s k) (figN 2 st f s k) st f s k
end
section
open PySem PySem.W PyProof.Rows PySem.Spec PySem.Calls
set_option Elab.async false
set_option maxRecDepth 100000
theorem wh_11 : ((List.range 3).all fun k => (List.range 4).all fun st => wholeB st 1 1 (k + 1)) = true := by decide +kernel
theorem wh_12 : ((List.range 3).all fun k => (List.range 4).all fun st => wholeB st 1 2 (k + 1)) = true := by decide +kernel
theorem wh_13 : ((List.range 3).all fun k => (List.range 4).all fun st => wholeB st 1 3 (k + 1)) = true := by decide +kernel
theorem wh_21 : ((List.range 3).all fun k => (List.range 4).all fun st => wholeB st 2 1 (k + 1)) = true := by decide +kernel
theorem wh_22 : ((List.range 3).all fun k => (List.range 4).all fun st => wholeB st 2 2 (k + 1)) = true := by decide +kernel
theorem wh_23 : ((List.range 3).all fun k => (List.range 4).all fun st => wholeB st 2 3 (k + 1)) = true := by decide +kernel
theorem wh_31 : ((List.range 3).all fun k => (List.range 4).all fun st => wholeB st 3 1 (k + 1)) = true := by decide +kernel
theorem wh_32 : ((List.range 3).all fun k => (List.range 4).all fun st => wholeB st 3 2 (k + 1)) = true := by decide +kernel
theorem wh_33 : ((List.range 3).all fun k => (List.range 4).all fun st => wholeB st 3 3 (k + 1)) = true := by decide +kernel
theorem wh_all {st f s k : Nat} (hst : st ≤ 3) (hf : 1 ≤ f ∧ f ≤ 3) (hs : 1 ≤ s ∧ s ≤ 3) (hk : 1 ≤ k ∧ k ≤ 3) : wholeB st f s k = true := by
  have go : ∀ F S : Nat, ((List.range 3).all fun k => (List.range 4).all fun st => wholeB st F S (k + 1)) = true → wholeB st F S k = true := fun F S h => by
    have h1 := List.all_eq_true.mp (List.all_eq_true.mp h (k - 1) (List.mem_range.mpr (by omega))) st (List.mem_range.mpr (by omega))
    rw [show k - 1 + 1 = k by omega] at h1
    exact h1
  have h : f = 1 ∨ f = 2 ∨ f = 3 := by omega
  have h' : s = 1 ∨ s = 2 ∨ s = 3 := by omega
  rcases h with rfl | rfl | rfl <;> rcases h' with rfl | rfl | rfl
  · exact go 1 1 wh_11
  · exact go 1 2 wh_12
  · exact go 1 3 wh_13
  · exact go 2 1 wh_21
  · exact go 2 2 wh_22
  · exact go 2 3 wh_23
  · exact go 3 1 wh_31
  · exact go 3 2 wh_32
  · exact go 3 3 wh_33
structure WholesOk (st f s k n : Nat) : Prop where
  f0 : FigOk (figN 0 st f s k) n
  f1 : FigOk (figN 1 st f s k) n
  f2 : FigOk (figN 2 st f s k) n
  su : polyI n (figN 0 st f s k) + polyI n (figN 1 st f s k) + polyI n (figN 2 st f s k) = ((2 : Int) ^ n) ^ st * (1 + ((2 : Int) ^ n) ^ f + ((2 : Int) ^ n) ^ (2 * f)) * (1 + ((2 : Int) ^ n) ^ s + ((2 : Int) ^ n) ^ (2 * s)) * (1 + ((2 : Int) ^ n) ^ k + ((2 : Int) ^ n) ^ (2 * k))
  d1 : DivOk (polyI n (figN 0 st f s k) - polyI n (figN 1 st f s k)) (2 ^ n) ((f * s * k : Nat) : Int) 3
  d2 : DivOk (polyI n (figN 1 st f s k) - polyI n (figN 2 st f s k)) (2 ^ n) ((f * s * k : Nat) : Int) (-6)
theorem wholes_ok {st f s k n : Nat} (hst : st ≤ 3) (hf : 1 ≤ f ∧ f ≤ 3) (hs : 1 ≤ s ∧ s ≤ 3) (hk : 1 ≤ k ∧ k ≤ 3) (hn : 8 ≤ n ∧ n ≤ 16) : WholesOk st f s k n := by
  have h := wh_all hst hf hs hk
  unfold wholeB at h
  simp only [Bool.and_eq_true] at h
  obtain ⟨⟨⟨h0, h1⟩, h2⟩, h3⟩ := h
  have h4 := List.all_eq_true.mp h3 (n - 8) (List.mem_range.mpr (by omega))
  rw [show 8 + (n - 8) = n by omega] at h4
  unfold whB at h4
  simp only [Bool.and_eq_true] at h4
  obtain ⟨⟨h5, h6⟩, h7⟩ := h4
  exact ⟨fig_of ⟨by omega, by omega⟩ h0, fig_of ⟨by omega, by omega⟩ h1, fig_of ⟨by omega, by omega⟩ h2, of_decide_eq_true h5, div_of h6, div_of h7⟩
end
end Mine
end
section
open PySem PySem.W PyProof.Rows PySem.Spec PySem.Calls PyProof.Rows.LCg
set_option Elab.async false
namespace Mine
theorem fresh_ML18 : True := by
  w_top off
  trivial
theorem exec_step {M : Model} {A : Around} {env : Env} {x : Stmt} {r l : List Stmt} {P : Flow → Shared → Prop} {E : Value → Shared → Prop} {s : Shared} (h : l = x :: r) (H : wpAny M A (exec x env) (fun f s' => match f with | .next => wpAny M A (execs r env) P E s' | f => P f s') E s) : wpAny M A (execs l env) P E s := h ▸ wpAny_execs_cons H
theorem lamp_fin (n : Nat) : (Float64.isNaN (lampF n).1 = false ∧ Float64.isInf (lampF n).1 = false) ∧ (Float64.isNaN (lampF n).2.1 = false ∧ Float64.isInf (lampF n).2.1 = false) ∧ Float64.isNaN (lampF n).2.2 = false ∧ Float64.isInf (lampF n).2.2 = false := by
  have h : n % 3 = 0 ∨ n % 3 = 1 ∨ n % 3 = 2 := by omega
  unfold lampF
  rcases h with e | e | e <;> rw [e] <;> decide +kernel
theorem wh_list {ys : List Value} {a b c : Int} (h : WholesAre [a, b, c] 3 ys) : ∃ t0 t1 t2, ys = [.int a t0, .int b t1, .int c t2] := by
  obtain ⟨h1, h2⟩ := h
  obtain ⟨t0, e0⟩ := h2 0 (by decide)
  obtain ⟨t1, e1⟩ := h2 1 (by decide)
  obtain ⟨t2, e2⟩ := h2 2 (by decide)
  refine ⟨t0, t1, t2, List.ext_getElem? fun i => ?_⟩
  by_cases h0 : i < 3
  · have : i = 0 ∨ i = 1 ∨ i = 2 := by omega
    rcases this with rfl | rfl | rfl
    · exact e0
    · exact e1
    · exact e2
  · rw [List.getElem?_eq_none (by omega), List.getElem?_eq_none (by simp; omega)]
theorem one_three (a : Int) : ∃ n : Nat, a.fmod 3 + 1 = n ∧ 1 ≤ n ∧ n ≤ 3 := by
  have h1 := Int.fmod_nonneg_of_pos a (b := 3) (by decide)
  have h2 := Int.fmod_lt_of_pos a (b := 3) (by decide)
  exact ⟨(a.fmod 3 + 1).toNat, by omega, by omega, by omega⟩
theorem zero_three (a : Int) : ∃ n : Nat, a.fmod 4 = n ∧ n ≤ 3 := by
  have h1 := Int.fmod_nonneg_of_pos a (b := 4) (by decide)
  have h2 := Int.fmod_lt_of_pos a (b := 4) (by decide)
  exact ⟨(a.fmod 4).toNat, by omega, by omega⟩
theorem eight_on (a : Int) : ∃ n : Nat, 8 + (a.fdiv 4).fmod 9 = n ∧ 8 ≤ n ∧ n ≤ 16 := by
  have h1 := Int.fmod_nonneg_of_pos (a.fdiv 4) (b := 9) (by decide)
  have h2 := Int.fmod_lt_of_pos (a.fdiv 4) (b := 9) (by decide)
  exact ⟨(8 + (a.fdiv 4).fmod 9).toNat, by omega, by omega, by omega⟩
theorem place_lt {st f s k m : Nat} (h : m ∈ plN st f s k) : m < st + 2 * (f + s + k) + 1 := by
  obtain ⟨i, hi, rfl⟩ := List.mem_map.mp h
  have hi := List.mem_range.mp hi
  unfold placeN
  have h1 : f * (i / 9) ≤ f * 2 := Nat.mul_le_mul_left _ (by omega)
  have h2 : s * (i / 3 % 3) ≤ s * 2 := Nat.mul_le_mul_left _ (by omega)
  have h3 : k * (i % 3) ≤ k * 2 := Nat.mul_le_mul_left _ (by omega)
  omega
theorem two_pow {n : Nat} (h : 8 ≤ n ∧ n ≤ 16) : (256 : Int) ≤ 2 ^ n ∧ (2 : Int) ^ n ≤ 65536 := by
  have h1 : 2 ^ 8 ≤ 2 ^ n := Nat.pow_le_pow_right (by decide) h.1
  have h2 : 2 ^ n ≤ 2 ^ 16 := Nat.pow_le_pow_right (by decide) h.2
  have e : ((2 ^ n : Nat) : Int) = (2 : Int) ^ n := Int.natCast_pow 2 n
  omega
theorem two_nat (f : Nat) : (2 * (f : Int)).toNat = 2 * f := by omega
theorem wholes_pack {st f s k n : Nat} (hst : st ≤ 3) (hf : 1 ≤ f ∧ f ≤ 3) (hs : 1 ≤ s ∧ s ≤ 3) (hk : 1 ≤ k ∧ k ≤ 3) (hn : 8 ≤ n ∧ n ≤ 16) (lam : List Lamp) (pls : List (Int × Tok)) (i2 : lam.map (·.2) = lens.map lampF) (i3 : pls.map (·.1) = (plN st f s k).map fun (p : Nat) => (p : Int)) : ∃ d0 d1 d2 : List Int,
    shF (List.replicate ((st : Int) + 2 * ((f : Int) + s + k) + 1).toNat 0, List.replicate ((st : Int) + 2 * ((f : Int) + s + k) + 1).toNat 0, List.replicate ((st : Int) + 2 * ((f : Int) + s + k) + 1).toNat 0) lam (pls.map (·.1)) = (d0, d1, d2) ∧ FigOk d0 n ∧ FigOk d1 n ∧ FigOk d2 n ∧
    polyI n d0 + polyI n d1 + polyI n d2 = ((2 : Int) ^ n) ^ st * (1 + ((2 : Int) ^ n) ^ f + ((2 : Int) ^ n) ^ (2 * f)) * (1 + ((2 : Int) ^ n) ^ s + ((2 : Int) ^ n) ^ (2 * s)) * (1 + ((2 : Int) ^ n) ^ k + ((2 : Int) ^ n) ^ (2 * k)) ∧
    DivOk (polyI n d0 - polyI n d1) (2 ^ n) ((f : Int) * s * k) 3 ∧ DivOk (polyI n d1 - polyI n d2) (2 ^ n) ((f : Int) * s * k) (-6) := by
  have wk := wholes_ok hst hf hs hk hn
  have esz : ((st : Int) + 2 * ((f : Int) + s + k) + 1).toNat = szN st f s k := by unfold szN; omega
  have ep : ((f * s * k : Nat) : Int) = (f : Int) * s * k := by rw [Int.natCast_mul, Int.natCast_mul]
  have q1 := wk.d1
  have q2 := wk.d2
  rw [ep] at q1 q2
  refine ⟨figN 0 st f s k, figN 1 st f s k, figN 2 st f s k, ?_, wk.f0, wk.f1, wk.f2, wk.su, q1, q2⟩
  rw [esz, i3]
  exact shF_int lam lens (plN st f s k) _ _ _ i2
theorem drop_12 : d_law.1.2.1.drop 12 = lb12.1 :: d_law.1.2.1.drop 13 := rfl
theorem drop_13 : d_law.1.2.1.drop 13 = lb13.1 :: d_law.1.2.1.drop 14 := rfl
theorem drop_14 : d_law.1.2.1.drop 14 = lb14.1 :: d_law.1.2.1.drop 15 := rfl
theorem drop_15 : d_law.1.2.1.drop 15 = lb15.1 :: d_law.1.2.1.drop 16 := rfl
theorem drop_16 : d_law.1.2.1.drop 16 = lb16.1 :: d_law.1.2.1.drop 17 := rfl
theorem pow_hid {f sN k st n : Nat} {x y z : Int} (su : x + y + z = ((2 : Int) ^ n) ^ st * (1 + ((2 : Int) ^ n) ^ f + ((2 : Int) ^ n) ^ (2 * f)) * (1 + ((2 : Int) ^ n) ^ sN + ((2 : Int) ^ n) ^ (2 * sN)) * (1 + ((2 : Int) ^ n) ^ k + ((2 : Int) ^ n) ^ (2 * k))) :
   x + y + z = ((2 : Int) ^ (n : Int).toNat) ^ (st : Int).toNat * (1 + ((2 : Int) ^ (n : Int).toNat) ^ (f : Int).toNat + ((2 : Int) ^ (n : Int).toNat) ^ (2 * (f : Int)).toNat) * (1 + ((2 : Int) ^ (n : Int).toNat) ^ (sN : Int).toNat + ((2 : Int) ^ (n : Int).toNat) ^ (2 * (sN : Int)).toNat) * (1 + ((2 : Int) ^ (n : Int).toNat) ^ (k : Int).toNat + ((2 : Int) ^ (n : Int).toNat) ^ (2 * (k : Int)).toNat) := by
  rw [Int.toNat_natCast, Int.toNat_natCast, Int.toNat_natCast, Int.toNat_natCast, Int.toNat_natCast, two_nat, two_nat, two_nat]
  exact su
set_option maxRecDepth 100000 in
set_option maxHeartbeats 1000000 in
theorem law_end (w : World) {p : Program} {loose : List Str} {mean : ExcName → Option Value} {mg mb : Str → Option Value} {base g : Heap} {L : Nat} {fa : Addr} {cd : Value} {s : Shared} {E : Value → Shared → Prop} {P : Flow → Shared → Prop}
   (X : (heapK w.params).In g) (T : Top p loose mean mg mb g) (B : Below callerA base [] g) {news : Led} {c1 : Option Value}
   {v1 v2 v3 v4 v5 v6 v7 v8 v10 : Option Value} {QL QP : Addr} {lam : List Lamp} {pls : List (Int × Tok)} {f s' k st n : Int} {tf ts tk' tst tn tb : Tok} (hf : 1 ≤ f ∧ f ≤ 3) (hs : 1 ≤ s' ∧ s' ≤ 3) (hk : 1 ≤ k ∧ k ≤ 3) (hst : 0 ≤ st ∧ st ≤ 3) (hn : 8 ≤ n ∧ n ≤ 16)
   (hL : LampsIn news lam) (mL : (QL, LCg.lst (lam.map fun x => Value.ref x.1)) ∈ news) (mP : (QP, LCg.lst (pls.map fun x => Value.int x.1 x.2)) ∈ news) (m108 : (108, tabObj #[]) ∈ news) (m115 : (115, tabObj #[]) ∈ news)
   (hfin : Flt.Hid (∀ x ∈ lam, (Float64.isNaN x.2.1 = false ∧ Float64.isInf x.2.1 = false) ∧ (Float64.isNaN x.2.2.1 = false ∧ Float64.isInf x.2.2.1 = false) ∧ Float64.isNaN x.2.2.2 = false ∧ Float64.isInf x.2.2.2 = false)) (hP : Flt.Hid (∀ x ∈ pls, 0 ≤ x.1 ∧ x.1 < st + 2 * (f + s' + k) + 1))
   {g0 g1 g2 : List Int} (hsh : shF (List.replicate (st + 2 * (f + s' + k) + 1).toNat 0, List.replicate (st + 2 * (f + s' + k) + 1).toNat 0, List.replicate (st + 2 * (f + s' + k) + 1).toNat 0) lam (pls.map (·.1)) = (g0, g1, g2)) (f0 : FigOk g0 n) (f1 : FigOk g1 n) (f2 : FigOk g2 n)
   (hb : 256 ≤ (2 : Int) ^ n.toNat ∧ (2 : Int) ^ n.toNat ≤ 65536)
   (hsum : Flt.Hid (polyI n.toNat g0 + polyI n.toNat g1 + polyI n.toNat g2 = ((2 : Int) ^ n.toNat) ^ st.toNat * (1 + ((2 : Int) ^ n.toNat) ^ f.toNat + ((2 : Int) ^ n.toNat) ^ (2 * f).toNat) * (1 + ((2 : Int) ^ n.toNat) ^ s'.toNat + ((2 : Int) ^ n.toNat) ^ (2 * s').toNat) * (1 + ((2 : Int) ^ n.toNat) ^ k.toNat + ((2 : Int) ^ n.toNat) ^ (2 * k).toNat)))
   (H1 : Flt.Hid (DivOk (polyI n.toNat g0 - polyI n.toNat g1) (2 ^ n.toNat) (f * s' * k) 3)) (H2 : Flt.Hid (DivOk (polyI n.toNat g1 - polyI n.toNat g2) (2 ^ n.toNat) (f * s' * k) (-6)))
   (S : LawS L g (mapL v1 v2 v3 v4 v5 v6 v7 v8 (some (.ref QP)) v10 (some (.ref QL)) (some (.int (2 ^ n.toNat) tb)) none) c1 (some (.int f tf)) (some (.int s' ts)) (some (.int k tk')) (some (.int st tst)) (some (.int n tn)) news s.heap)
   (post : ∀ h' tk' m', Fr g L h' m' → GrownAt 108 h' → GrownAt 115 h' → P (.ret (.bool true)) { s with heap := h', toks := tk' }) :
   wpAny (model Challenge.rw_qu0064_01.row.prog w) (AW L fa cd) (execs (d_law.1.2.1.drop 14) (envW L fa cd)) P E s := by
  refine exec_step drop_14 (law_wholes w X T B hf hs hk hst hn hL mL mP m108 m115 hfin hP (sh := (g0, g1, g2)) hsh f0 f1 f2 S ?_)
  intro Q ysQ t R h14 tk14 hY hTd hR hQ S14
  dsimp only at hY
  obtain ⟨w0t, w1t, w2t, rfl⟩ := wh_list hY
  refine exec_step drop_15 (law_sum w X T B hf hs hk hst hb hsum S14 ?_)
  intro h15 tk15 S15
  refine exec_step drop_16 (law_last w X T B hf hs hk hb H1 H2 hTd hR hQ S15 ?_)
  intro h16 tk16 m16 F16 G1 G2
  exact post h16 tk16 m16 F16 G1 G2
set_option maxRecDepth 100000 in
set_option maxHeartbeats 1000000 in
theorem law_mid (w : World) {p : Program} {loose : List Str} {mean : ExcName → Option Value} {mg mb : Str → Option Value} {base g : Heap} {L : Nat} {fa : Addr} {cd : Value} {s : Shared} {E : Value → Shared → Prop} {P : Flow → Shared → Prop}
   (X : (heapK w.params).In g) (T : Top p loose mean mg mb g) (B : Below callerA base [] g) {news : Led} {c1 c6 : Option Value}
   {v1 v2 v3 v4 v5 v7 v8 v10 : Option Value} {QL QP : Addr} {ysL ysP : List Value} {d : Int} {td : Tok} {f sN k st : Nat} {tf ts tk' tst : Tok} (hf : 1 ≤ f ∧ f ≤ 3) (hs : 1 ≤ sN ∧ sN ≤ 3) (hk : 1 ≤ k ∧ k ≤ 3) (hst : st ≤ 3)
   (hL : LampsAre 27 ysL news) (mL : (QL, LCg.lst ysL) ∈ news) (hP : PlacesAre st f sN k 27 ysP) (mP : (QP, LCg.lst ysP) ∈ news) (u1 : (108, tabObj #[]) ∈ news) (u2 : (115, tabObj #[]) ∈ news)
   (S : LawS L g (mapL v1 v2 v3 v4 v5 (some (.int d td)) v7 v8 (some (.ref QP)) v10 (some (.ref QL)) none none) c1 (some (.int f tf)) (some (.int sN ts)) (some (.int k tk')) (some (.int st tst)) c6 news s.heap)
   (post : ∀ h' tk' m', Fr g L h' m' → GrownAt 108 h' → GrownAt 115 h' → P (.ret (.bool true)) { s with heap := h', toks := tk' }) :
   wpAny (model Challenge.rw_qu0064_01.row.prog w) (AW L fa cd) (execs (d_law.1.2.1.drop 12) (envW L fa cd)) P E s := by
  have f1 : (1 : Int) ≤ f ∧ (f : Int) ≤ 3 := by omega
  have s1' : (1 : Int) ≤ sN ∧ (sN : Int) ≤ 3 := by omega
  have k1 : (1 : Int) ≤ k ∧ (k : Int) ≤ 3 := by omega
  have st1 : (0 : Int) ≤ st ∧ (st : Int) ≤ 3 := by omega
  refine exec_step drop_12 (law_width w X T B S ?_)
  intro r5 h12 tk12 S12
  obtain ⟨n, en, hn⟩ := eight_on d
  rw [en] at S12
  have n1' : (8 : Int) ≤ n ∧ (n : Int) ≤ 16 := by omega
  refine exec_step drop_13 (law_base w X T B n1' S12 ?_)
  intro r6 h13 tk13 S13
  obtain ⟨lam, rfl, i1, i2⟩ := lamps_lam hL
  obtain ⟨pls, rfl, i3⟩ := places_pls hP
  obtain ⟨g0, g1, g2, hsh, y0, y1, y2, su, q1, q2⟩ := wholes_pack hst hf hs hk hn lam pls i2 i3
  refine law_end w X T B f1 s1' k1 st1 n1' i1 mL mP u1 u2 ⟨fun x hx => ?_⟩ ⟨fun x hx => ?_⟩ hsh y0 y1 y2 (two_pow hn) ⟨pow_hid su⟩ ⟨q1⟩ ⟨q2⟩ S13 post
  · have hx' : x.2 ∈ lam.map (·.2) := List.mem_map_of_mem hx
    rw [i2] at hx'
    obtain ⟨m, _, e⟩ := List.mem_map.mp hx'
    rw [← e]
    exact lamp_fin m
  · have hx' : x.1 ∈ pls.map (·.1) := List.mem_map_of_mem hx
    rw [i3] at hx'
    obtain ⟨m, hm, e⟩ := List.mem_map.mp hx'
    have := place_lt hm
    omega
set_option maxRecDepth 100000 in
set_option maxHeartbeats 1000000 in
theorem law_body (w : World) {p : Program} {loose : List Str} {mean : ExcName → Option Value} {mg mb : Str → Option Value} {base g : Heap} {L : Nat} {fa : Addr} {cd : Value} {s : Shared} {E : Value → Shared → Prop} {P : Flow → Shared → Prop}
   (X : (heapK w.params).In g) (T : Top p loose mean mg mb g) (B : Below callerA base [] g) {c1 c2 c3 c4 c5 c6 : Option Value} {la : Addr} {vs : List Value} {ns : List Int} (hl : g.IsList la vs.toArray) (hi : IntsAre vs ns) (hlen : ns.length ≤ 63)
   (S : LawS L g (mapL (some (.ref la)) none none none none none none none none none none none none) c1 c2 c3 c4 c5 c6 [(108, tabObj #[]), (115, tabObj #[])] s.heap)
   (post : ∀ h' tk' m', Fr g L h' m' → GrownAt 108 h' → GrownAt 115 h' → P (.ret (.bool true)) { s with heap := h', toks := tk' }) :
   wpAny (model Challenge.rw_qu0064_01.row.prog w) (AW L fa cd) (execs d_law.1.2.1 (envW L fa cd)) P E s := by
  have ra := fourth_in (ns := ns) (i := 0) (d := 114) ⟨by decide, by decide⟩
  have rb := fourth_in (ns := ns) (i := 1) (d := 1696) ⟨by decide, by decide⟩
  have rc := fourth_in (ns := ns) (i := 2) (d := 0) ⟨by decide, by decide⟩
  have rd := fourth_in (ns := ns) (i := 3) (d := 1) ⟨by decide, by decide⟩
  refine exec_step (x := lb0.1) rfl (law_drawn w X T B hl hi hlen S ?_)
  intro W0 ys0 h0 tk0 hy S0
  refine exec_step (x := lb1.1) rfl (law_unpack w X T B hy S0 ?_)
  intro s1 s2 s3 s4 h1 tk1 S1
  generalize fourth ns 0 114 = a at ra S1
  generalize fourth ns 1 1696 = b at rb S1
  generalize fourth ns 2 0 = c at rc S1
  generalize fourth ns 3 1 = d at rd S1
  refine exec_step (x := lb2.1) rfl (law_stocks w X T B ra rb rc S1 ?_)
  intro St D0 D1 D2 n0 n1 n2 k9 x0 y0 z0 x1 y1 z1 x2 y2 z2 h2 tk2 S2
  refine exec_step (x := lb3.1) rfl (law_words w X T B (a := a) (b := b) (c := c) S2 ?_)
  intro W ysW h3 tk3 hW S3
  clear S S0 S1 S2 hy
  refine exec_step (x := lb4.1) rfl (law_counts w X T B S3 ?_)
  intro K ysK addK h4 tk4 hC S4
  clear S3
  generalize hl4 : (((K, LCg.lst ysK) : Addr × Obj) :: (addK ++ [(W, LCg.lst ysW), (108, tabObj #[]), (115, tabObj #[])])) = led4 at S4
  have mK : ((K, LCg.lst ysK) : Addr × Obj) ∈ led4 := hl4 ▸ .head _
  have mW : ((W, LCg.lst ysW) : Addr × Obj) ∈ led4 := hl4 ▸ .tail _ (List.mem_append_right _ (.head _))
  have t1 : ((108, tabObj #[]) : Addr × Obj) ∈ led4 := hl4 ▸ .tail _ (List.mem_append_right _ (.tail _ (.head _)))
  have t2 : ((115, tabObj #[]) : Addr × Obj) ∈ led4 := hl4 ▸ .tail _ (List.mem_append_right _ (.tail _ (.tail _ (.head _))))
  have hC4 : CountsAre 27 ysK led4 := hC.mono fun q hq => hl4 ▸ .tail _ (List.mem_append_left _ hq)
  refine exec_step (x := lb5.1) rfl (law_due w X T B hW mW hC4 mK S4 ?_)
  intro h5 tk5 S5
  clear S4 hC hl4
  refine exec_step (x := lb6.1) rfl (law_fsk w X T B S5 ?_)
  intro r1 r2 r3 h6 tk6 S6
  clear S5
  obtain ⟨f, ef, hf⟩ := one_three a
  obtain ⟨k, ek, hk⟩ := one_three c
  obtain ⟨sN, es, hs⟩ := one_three b
  rw [ef, es, ek] at S6
  refine exec_step (x := lb7.1) rfl (law_start w X T B S6 ?_)
  intro r4 h7 tk7 S7
  clear S6
  obtain ⟨st, est, hst⟩ := zero_three d
  rw [est] at S7
  have f1 : (1 : Int) ≤ f ∧ (f : Int) ≤ 3 := by omega
  have s1' : (1 : Int) ≤ sN ∧ (sN : Int) ≤ 3 := by omega
  have k1 : (1 : Int) ≤ k ∧ (k : Int) ≤ 3 := by omega
  have st1 : (0 : Int) ≤ st ∧ (st : Int) ≤ 3 := by omega
  refine exec_step (x := lb8.1) rfl (law_places w X T B f1 s1' k1 st1 hW mW S7 ?_)
  intro QP ysP h8 tk8 hP S8
  clear S7
  refine exec_step (x := lb9.1) rfl (law_told w X T B f1 s1' k1 st1 (hC4.mono fun q hq => .tail _ hq) (.tail _ mK) S8 ?_)
  intro QT ysT h9 tk9 hT S9
  clear S8
  refine exec_step (x := lb10.1) rfl (law_lamps w X T B hW (.tail _ (.tail _ mW)) S9 ?_)
  intro QL ysL addL h10 tk10 hL S10
  clear S9
  generalize hl10 : (((QL, LCg.lst ysL) : Addr × Obj) :: (addL ++ (QT, LCg.lst ysT) :: (QP, LCg.lst ysP) :: led4)) = led at S10
  have mL : ((QL, LCg.lst ysL) : Addr × Obj) ∈ led := hl10 ▸ .head _
  have mT : ((QT, LCg.lst ysT) : Addr × Obj) ∈ led := hl10 ▸ .tail _ (List.mem_append_right _ (.head _))
  have mP : ((QP, LCg.lst ysP) : Addr × Obj) ∈ led := hl10 ▸ .tail _ (List.mem_append_right _ (.tail _ (.head _)))
  have u1 : ((108, tabObj #[]) : Addr × Obj) ∈ led := hl10 ▸ .tail _ (List.mem_append_right _ (.tail _ (.tail _ t1)))
  have u2 : ((115, tabObj #[]) : Addr × Obj) ∈ led := hl10 ▸ .tail _ (List.mem_append_right _ (.tail _ (.tail _ t2)))
  have hL10 : LampsAre 27 ysL led := ⟨hL.1, fun i hi => by obtain ⟨D, a1, a2, a3, n, e, hm⟩ := hL.2 i hi; exact ⟨D, a1, a2, a3, n, e, hl10 ▸ .tail _ (List.mem_append_left _ hm)⟩⟩
  clear hl10 mK mW t1 t2 hC4
  refine exec_step (x := lb11.1) rfl (law_colours w X T B hf hs hk hst hL10 mL hP mP hT mT S10 ?_)
  intro h11 tk11 S11
  clear S10
  exact law_mid w X T B hf hs hk hst hL10 mL hP mP u1 u2 S11 post
end Mine
end
section
open PySem PySem.W PyProof.Rows PySem.Spec PySem.Calls
set_option Elab.async false
set_option maxRecDepth 100000
namespace Mine
theorem fresh_MHead15 : True := by
  w_top off
  trivial
noncomputable abbrev hk : Hook := kmHook heapK heapA (fun _ => by kernel_rfl) [108, 115]
theorem look4 (w : World) (os : OsState) : ([108, 115] : List Addr).map (sF w os).heap.get? = [some (tabObj #[]), some (tabObj #[])] := by
  kernel_rfl
set_option maxHeartbeats 0 in
theorem left2 : LeftO prg qv lz xt (Hook.obs hk) (Hook.val hk) 130000 :=
  LeftO.of_pieces (H₀ := boot_heap) (H₁ := H1) (gs₀ := Array.mk []) (gs₁ := Array.mk []) (d₀ := boot_drawn) (d₁ := drawn0) (k₀ := boot_toks) (k₁ := 2415) (m₀ := 11) (ann := some (.ref 6)) (M := hm)
    (boot_open open_is rfl fence_is) (fun w => by kernel_rfl) (fun w os => run_all w os) (by decide +kernel)
    (fun w => funext fun os => by
      show _ = _
      have e : Hook.obs hk (sF w os) = Hook.val hk w := Prod.ext (look3 w os) (look4 w os)
      rw [look1 w os, look2 w os, e])
theorem map_in (v : Option Value) : (fun y => if y = Str.ofString "script" then v else none) = mapL v none none none none none none none none none none none none := by
  funext y
  by_cases h : y = Str.ofString "script"
  · subst h; rfl
  · rw [if_neg h]
    simp only [mapL, if_neg h, ite_self]
theorem law_in (w : World) {p : Program} {loose : List Str} {mean : ExcName → Option Value} {mg mb : Str → Option Value} {base g : Heap} {L : Nat} {fa : Addr} {cd : Value} {s : Shared} {E : Value → Shared → Prop} {P : Flow → Shared → Prop}
   (X : (heapK w.params).In g) (T : Top p loose mean mg mb g) (B : Below callerA base [] g) {la : Addr} {vs : List Value} {ns : List Int} (hl : g.IsList la vs.toArray) (hi : IntsAre vs ns) (hlen : ¬ ((63 : Nat) : Int) < ns.length)
   {m : Str → Option Value} {o1 o2 o3 o4 o5 o6 : Obj} {c1 c2 c3 c4 c5 c6 : Option Value} (F : Fr g L s.heap m) (hm : m = fun y => if y = Str.ofString "script" then some (.ref la) else none)
   (N : News g L s.heap [(L + 1 + 1 + 1 + 1 + 1 + 1, o6), (L + 1 + 1 + 1 + 1 + 1, o5), (L + 1 + 1 + 1 + 1, o4), (L + 1 + 1 + 1, o3), (L + 1 + 1, o2), (L + 1, o1), (108, tabObj #[]), (115, tabObj #[])])
   (d6 : o6.data = .cell c6) (d5 : o5.data = .cell c5) (d4 : o4.data = .cell c4) (d3 : o3.data = .cell c3) (d2 : o2.data = .cell c2) (d1 : o1.data = .cell c1) (h9 : 108 < L ∧ 115 < L)
   (post : ∀ h' tk' m', Fr g L h' m' → GrownAt 108 h' → GrownAt 115 h' → P (.ret (.bool true)) { s with heap := h', toks := tk' }) :
   wpAny (model Challenge.rw_qu0064_01.row.prog w) (AW L fa cd) (execs d_law.1.2.1 (envW L fa cd)) P E s := by
  rw [hm, map_in] at F
  refine law_body w X T B hl hi (by omega) ⟨F, ⟨o1, o2, o3, o4, o5, o6, N, d1, d2, d3, d4, d5, d6⟩, fun q hq => ?_⟩ post
  simp only [List.mem_cons, List.not_mem_nil, or_false] at hq
  rcases hq with rfl | rfl
  · exact ⟨(by omega : (108 : Nat) ≠ L + 1), (by omega : (108 : Nat) ≠ L + 1 + 1), (by omega : (108 : Nat) ≠ L + 1 + 1 + 1), (by omega : (108 : Nat) ≠ L + 1 + 1 + 1 + 1), (by omega : (108 : Nat) ≠ L + 1 + 1 + 1 + 1 + 1), (by omega : (108 : Nat) ≠ L + 1 + 1 + 1 + 1 + 1 + 1)⟩
  · exact ⟨(by omega : (115 : Nat) ≠ L + 1), (by omega : (115 : Nat) ≠ L + 1 + 1), (by omega : (115 : Nat) ≠ L + 1 + 1 + 1), (by omega : (115 : Nat) ≠ L + 1 + 1 + 1 + 1), (by omega : (115 : Nat) ≠ L + 1 + 1 + 1 + 1 + 1), (by omega : (115 : Nat) ≠ L + 1 + 1 + 1 + 1 + 1 + 1)⟩
theorem road_split (lk : Look) (n : Nat) : ∀ l : List Stmt, noRoadLSs lk l = (noRoadLSs lk (l.take n) && noRoadLSs lk (l.drop n)) := by
  induction n with
  | zero => intro l; rw [List.take_zero, List.drop_zero]; rfl
  | succ n ih =>
    intro l
    cases l with
    | nil => rfl
    | cons a r =>
      show (_ && noRoadLSs lk r) = ((_ && noRoadLSs lk (r.take n)) && noRoadLSs lk (r.drop n))
      rw [ih r, Bool.and_assoc]
theorem filter3 {f : Str → Bool} {a b c : Str} (h1 : f a = false) (h2 : f b = false) (h3 : f c = false) : [a, b, c].filter f = [] := by
  rw [List.filter_cons, h1, if_neg (by decide), List.filter_cons, h2, if_neg (by decide), List.filter_cons, h3, if_neg (by decide)]
  rfl
theorem said_b1 : readsOut Challenge.rw_qu0064_01.row.prog Challenge.rw_qu0064_01.row.prog.main.body (Str.ofString "vars") = false := by
  unfold readsOut
  rw [PySem.W.Fast.te17119622794617984870]
  decide +kernel
theorem said_b2 : readsOut Challenge.rw_qu0064_01.row.prog Challenge.rw_qu0064_01.row.prog.main.body (Str.ofString "dir") = false := by
  unfold readsOut
  rw [PySem.W.Fast.te17119622794617984870]
  decide +kernel
theorem said_b3 : readsOut Challenge.rw_qu0064_01.row.prog Challenge.rw_qu0064_01.row.prog.main.body (Str.ofString "locals") = false := by
  unfold readsOut
  rw [PySem.W.Fast.te17119622794617984870]
  decide +kernel
theorem said_bare : (["vars", "dir", "locals"] : List Str).filter (readsOut Challenge.rw_qu0064_01.row.prog Challenge.rw_qu0064_01.row.prog.main.body) = [] := filter3 said_b1 said_b2 said_b3
theorem said_mods : (!(importedModules Challenge.rw_qu0064_01.row.prog.main.body).all cThrough.contains) = false := by decide +kernel
theorem said_r1 : noRoadLSs { strict := false, foot := none, bare := [] } (Challenge.rw_qu0064_01.row.prog.main.body.take 3) = true := by decide +kernel
theorem said_r2 : noRoadLSs { strict := false, foot := none, bare := [] } ((Challenge.rw_qu0064_01.row.prog.main.body.drop 3).take 1) = true := by decide +kernel
theorem said_r3 : noRoadLSs { strict := false, foot := none, bare := [] } ((Challenge.rw_qu0064_01.row.prog.main.body.drop 3).drop 1) = true := by decide +kernel
theorem said_road : noRoadLSs { strict := !(importedModules Challenge.rw_qu0064_01.row.prog.main.body).all cThrough.contains, foot := none, bare := (["vars", "dir", "locals"] : List Str).filter (readsOut Challenge.rw_qu0064_01.row.prog Challenge.rw_qu0064_01.row.prog.main.body) } Challenge.rw_qu0064_01.row.prog.main.body = true := by
  rw [said_bare, said_mods, road_split _ 3, said_r1, road_split _ 1, said_r2, said_r3]
  rfl
set_option maxHeartbeats 4000000 in
theorem law_said : Challenge.rw_qu0064_01.wellSaid = true := by
  unfold OpenLaw.wellSaid OpenRow.wellSaid OpenRow.partSaid looksOpen
  repeat' with_reducible apply look_both
  all_goals first | with_reducible exact said_road | (rw [PySem.W.Fast.te17119622794617984870]; decide +kernel) | (rw [PySem.W.Fast.te11788848310118352699]; decide +kernel) | (rw [PySem.W.Fast.te12862048085361865435]; decide +kernel) | (rw [PySem.W.Fast.te8377067652309620493]; decide +kernel) | (rw [PySem.W.Fast.te8326940854005059898]; decide +kernel) | (rw [PySem.W.Fast.te18344453789297297638]; decide +kernel) | decide +kernel
set_option maxHeartbeats 4000000 in
theorem holdsT : Challenge.rw_qu0064_01.Holds := by
  w_on
  refine holds_law law_said fun _ => ?_
  refine holds_open (q := qv) (loose := lz) (Xt := xt) (XP := XL qv []) (Yf := Hook.obs hk) (Ya := Hook.val hk) (YP := Hook.says hk) (N := 130000) left2 (Hook.of hk) (Hook.keeps hk) (fun s e => xl_of s (Bool.and_eq_true_iff.mp e).1) XL.keeps (by rfl) (by rfl) (by rfl) (fun s e => recFacts_of (Bool.and_eq_true_iff.mp e).2) (by rfl) (by first | assumption | decide +kernel) (by decide +kernel) ⟨rfl, rfl, rfl, rfl, rfl, by decide +kernel⟩ ?hw ?hc
  (case hw => w_witness2)
  unfold hk
  k_fill
  intro w s₀ s₁ mg mb G Y fa o pm cd doc dV kV ho hd hcd hD hmg hg args vals as hpre hlay hrd hwl hlo
  have KX := km_in_of Y
  km_tabs Y
  have X := (Ground.X G).1
  have V := (Ground.X G).2
  refine Ground.open G ?_
  intro T B D TE TW
  try (refine guard_noD D (by decide +kernel) ?_; clear D)
  km_lay T hmg ho hd cd
  clear hmg
  wrow_args hpre hlay hrd hwl hlo
  first | refine callC_kw (enter_call ?_) | refine enter_call ?_
  w_top on
  kn_posts
  w_call any ho hd hcd hD T F
  clear hd
  kn_ghosts F T
  k_drop
  rename_i d6 d5 d4 d3 d2 d1 X0 X' T' K' F' ch N' l0
  refine law_in w X' T' K' lifted (by assumption) (by assumption) F' rfl N' d6 d5 d4 d3 d2 d1 l0 ?_
  intro h' tk' m' F8 G1 G2
  refine ⟨?_, G1, G2, trivial⟩
  kc_bool
  refine goodW_bool F8 (by assumption) (raisesW_false ?_) ?_
  · wrow_none_raised
  · kc_post
end Mine
end
theorem PySem.Challenge.cw_qu0064_01_holds : PySem.Challenge.rw_qu0064_01.Holds := by
  exact Mine.holdsT
