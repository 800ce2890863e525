import PyProof.Rows.All
import Wide.All
import OpenK.AllK
import Wide.FinOn
import PySem.Challenge.RW_rs0050_02
set_option Elab.async false
set_option genSizeOf false
set_option genInjectivity false

section
open PySem PySem.W PyProof.Rows PySem.Calls
set_option maxRecDepth 100000
set_option maxHeartbeats 8000000
set_option linter.unusedVariables false
namespace Mine
def nthS : List Stmt → Nat → Stmt
  | a :: _, 0 => a
  | _ :: r, n + 1 => nthS r n
  | [], _ => .Pass ⟨0, 0, 0, 0⟩
def fBody : Stmt → List Stmt
  | .FunctionDef _ _ b _ _ _ _ _ _ _ => b
  | _ => []
def cBody : Stmt → List Stmt
  | .ClassDef _ _ _ b _ _ _ _ _ _ _ => b
  | _ => []
def hDef : Stmt → DefRec
  | .FunctionDef n ps b _ _ _ sc _ _ p => ⟨n, ps, b, sc, p⟩
  | _ => ⟨Str.empty, ⟨[], [], none, [], [], none, []⟩, [], ⟨.function, [], false, false, []⟩, ⟨0, 0, 0, 0⟩⟩
noncomputable def hNthO : List Obj → Nat → Obj
  | a :: _, 0 => a
  | _ :: r, n + 1 => hNthO r n
  | [], _ => ⟨.none, none, .plain, #[]⟩
noncomputable def hNthB : List (List Obj) → Nat → List Obj
  | a :: _, 0 => a
  | _ :: r, n + 1 => hNthB r n
  | [], _ => []
noncomputable def hPick (k : NameKind) : List (Str × NameKind) → List Str
  | [] => []
  | (x, j) :: r => if j = k then x :: hPick k r else hPick k r
noncomputable def hToks : List Str → Tok → List Value
  | [], _ => []
  | x :: r, t => .str x t :: hToks r (t + 1)
noncomputable abbrev hTup (vs : List Value) : Obj := ⟨.type "tuple", none, .seq vs.toArray, #[]⟩
noncomputable def hFile : Str := Str.ofString "/claim/cut.py"
noncomputable def hCod (n q : Str) (ln argc : Nat) (a b : Addr) (x y : Value) (l : Addr) (t u : Tok) : Obj :=
  ⟨.type "code", none, .fields #[.str n t, .str q (t + 1), .str hFile (t + 2), .int ln 0, .int argc 0, .int 0 0, .int 0 0, .int 3 0, .ref a, .bool true, .int 181 0, .ref b, .none, x, y, .ref l, .int u 0, .int ln 0, .str hFile (u + 1)], #[]⟩
noncomputable def hFn (d : DefRec) (q : Str) (cl : List (Str × Addr)) (df : Value) (m : Value) (c : Addr) (ct : Value) : Obj :=
  ⟨.type "function", none, .func ⟨d.name, q, d.params, .stmts d.body, d.scope, 3, cl, df, .none, .none, m, none, .ref c, ct, 0⟩, #[]⟩
noncomputable def hBlk (d : DefRec) (q : Str) (m : Value) (a : Addr) (t : Tok) (cl : List (Str × Addr)) (df ct : Value) : List Obj :=
  let f := hPick .free d.scope.names
  let n := hPick .local d.scope.names
  let c := hPick .cell d.scope.names
  let u := t + 3 + f.length + n.length + c.length
  [hTup (hToks f (t + 3)), hTup (hToks n (t + 3 + f.length)), hTup (hToks c (t + 3 + f.length + n.length)), hCod d.name q d.pos.line d.params.args.length a (a + 1) (.ref (a + 2)) (.ref (a + 3)) (a + 4) t u, hFn d q cl df m (a + 5) ct]
noncomputable def hBlkF (d : DefRec) (m : Value) (a : Addr) (t : Tok) : List Obj :=
  [hTup [], hCod d.name d.name d.pos.line d.params.args.length a (a + 1) .none .none (a + 2) t (t + 3), hFn d d.name [] .none m (a + 3) .none]
noncomputable abbrev hDE (P : Params) (k : Str) (t : Tok) (v : Value) : DictEntry := ⟨PyData.keyHash P k, .str k t, v⟩
noncomputable abbrev hDict (es : List DictEntry) (n : Nat) : Obj := ⟨.type "dict", none, .dict es.toArray n, #[]⟩
abbrev hPwB : List Stmt := PySem.Challenge.pw_rs0050_02.main.body
noncomputable def hRob : Value := .str (Str.ofString "cpy313.urllib.robotparser") 194
noncomputable def hHdr : Value := .str (Str.ofString "cpy313.email.header") 267
noncomputable def hLaw : Value := .str (Str.ofString "law_rs0050_02") 365
noncomputable def hGs (x : Str) (t : Tok) (c : Addr) (g s : String) (b : Bool) : Obj := ⟨.type "getset_descriptor", none, .fields #[.str x t, .ref c, .builtin g, if b then .builtin s else .none], #[]⟩
noncomputable def hCls (x : Str) (hBs : List Value) (c ns : Addr) (m : List Value) (s0 : Option Value) (t t2 : Tok) (nw : String) : Obj :=
  ⟨.type "type", none, .cls ⟨x, hBs, .ref c :: m, ns, x, true, [], [], false, none, false⟩, #[s0, none, some (.str x t), some (.str x t2), some (.builtin nw), some (.bool true)]⟩
def hE (i : Nat) : DefRec := hDef (nthS (cBody (nthS hPwB 2)) i)
def hA (i : Nat) : DefRec := hDef (nthS (cBody (nthS hPwB 6)) i)
def hT (i : Nat) : DefRec := hDef (nthS hPwB i)

noncomputable def hD3 (P : Params) : Obj := hDict [hDE P (Str.ofString "__name__") 165 (.str (Str.ofString "law_rs0050_02") 365), hDE P (Str.ofString "__doc__") 166 (.none), hDE P (Str.ofString "__package__") 167 (.none), hDE P (Str.ofString "__loader__") 168 (.builtin "__main__.__loader__#opaque"), hDE P (Str.ofString "__spec__") 169 (.none), hDE P (Str.ofString "__annotations__") 170 (.ref 6), hDE P (Str.ofString "__builtins__") 171 (.ref 4), hDE P (Str.ofString "__file__") 173 (.str (Str.ofString "/claim/cut.py") 172), hDE P (Str.ofString "__cached__") 174 (.none), hDE P (Str.ofString "_wall") 193 (.ref 21), hDE P (Str.ofString "Entry") 257 (.ref 59), hDE P (Str.ofString "merge_entries") 266 (.ref 70), hDE P (Str.ofString "EMPTYSTRING") 270 (.str (Str.ofString "") 269), hDE P (Str.ofString "_Accumulator") 364 (.ref 148), hDE P (Str.ofString "_law_cells") 372 (.ref 157), hDE P (Str.ofString "_law_rule") 382 (.ref 164), hDE P (Str.ofString "_law_book") 388 (.ref 169), hDE P (Str.ofString "_law_kept") 394 (.ref 174), hDE P (Str.ofString "_law_least") 400 (.ref 179), hDE P (Str.ofString "law") 406 (.ref 184)] 20
noncomputable def hD58 (P : Params) : Obj := hDict [hDE P (Str.ofString "__module__") 203 (.str (Str.ofString "cpy313.urllib.robotparser") 194), hDE P (Str.ofString "__firstlineno__") 207 (.int 5 206), hDE P (Str.ofString "__init__") 214 (.ref 35), hDE P (Str.ofString "__str__") 224 (.ref 42), hDE P (Str.ofString "applies_to") 233 (.ref 49), hDE P (Str.ofString "allowance") 245 (.ref 56), hDE P (Str.ofString "__static_attributes__") 250 (.ref 57), hDE P (Str.ofString "__dict__") 252 (.ref 60), hDE P (Str.ofString "__weakref__") 254 (.ref 61), hDE P (Str.ofString "__doc__") 255 (.none)] 4
noncomputable def hD147 (P : Params) : Obj := hDict [hDE P (Str.ofString "__module__") 278 (.str (Str.ofString "cpy313.email.header") 267), hDE P (Str.ofString "__firstlineno__") 282 (.int 62 281), hDE P (Str.ofString "__init__") 292 (.ref 87), hDE P (Str.ofString "push") 301 (.ref 94), hDE P (Str.ofString "pop_from") 311 (.ref 102), hDE P (Str.ofString "pop") 318 (.ref 109), hDE P (Str.ofString "__len__") 325 (.ref 116), hDE P (Str.ofString "__str__") 332 (.ref 123), hDE P (Str.ofString "reset") 340 (.ref 131), hDE P (Str.ofString "is_onlyws") 347 (.ref 138), hDE P (Str.ofString "part_count") 354 (.ref 145), hDE P (Str.ofString "__static_attributes__") 356 (.ref 146), hDE P (Str.ofString "__dict__") 359 (.ref 149), hDE P (Str.ofString "__weakref__") 361 (.ref 150), hDE P (Str.ofString "__doc__") 362 (.none)] 5
noncomputable def hB0 (P : Params) : List Obj := [⟨.none, none, .dict #[] 0, #[]⟩, hD3 P, ⟨.type "module", some 0, .plain, #[]⟩]
noncomputable def hB1 (P : Params) : List Obj := hBlk (hT 0) (hT 0).name (.str (Str.ofString "__main__") 164) 15 187 [] (.none) (.none)
noncomputable def hB2 (P : Params) : List Obj := hBlk (hE 0) (Str.ofString "Entry.__init__") hRob 29 208 [] (.none) (.none)
noncomputable def hB3 (P : Params) : List Obj := hBlk (hE 1) (Str.ofString "Entry.__str__") hRob 36 215 [] (.none) (.none)
noncomputable def hB4 (P : Params) : List Obj := hBlk (hE 2) (Str.ofString "Entry.applies_to") hRob 43 225 [] (.none) (.none)
noncomputable def hB5 (P : Params) : List Obj := hBlk (hE 3) (Str.ofString "Entry.allowance") hRob 50 234 [] (.none) (.none)
noncomputable def hB6 (P : Params) : List Obj := [hTup (hToks [Str.ofString "delay", Str.ofString "req_rate", Str.ofString "rulelines", Str.ofString "useragents"] 246), hD58 P, hCls (Str.ofString "Entry") [.type "object"] 59 58 [.type "object"] none 196 204 "object.__new__", hGs (Str.ofString "__dict__") 251 59 "function.__dict__" "function.__dict__#set" true, hGs (Str.ofString "__weakref__") 253 59 "ExceptionGroup.__weakref__" "" false]
noncomputable def hB7 (P : Params) : List Obj := hBlk (hT 3) (hT 3).name hRob 64 258 [] (.none) (.none)
noncomputable def hB8 (P : Params) : List Obj := [hTup [.type "list"], ⟨.type "cell", none, .cell (some (.ref 148)), #[]⟩, hTup [.int 0 283], hTup [.ref 74]]
noncomputable def hB9 (P : Params) : List Obj := hBlk (hA 0) (Str.ofString "_Accumulator.__init__") hHdr 81 284 [(Str.ofString "__class__", 74)] (.ref 79) (.ref 80)
noncomputable def hB10 (P : Params) : List Obj := hBlk (hA 1) (Str.ofString "_Accumulator.push") hHdr 88 293 [] (.none) (.none)
noncomputable def hB11 (P : Params) : List Obj := [hTup [.int 0 302]]
noncomputable def hB12 (P : Params) : List Obj := hBlk (hA 2) (Str.ofString "_Accumulator.pop_from") hHdr 96 303 [] (.ref 95) (.none)
noncomputable def hB13 (P : Params) : List Obj := hBlk (hA 3) (Str.ofString "_Accumulator.pop") hHdr 103 312 [] (.none) (.none)
noncomputable def hB14 (P : Params) : List Obj := hBlk (hA 4) (Str.ofString "_Accumulator.__len__") hHdr 110 319 [] (.none) (.none)
noncomputable def hB15 (P : Params) : List Obj := hBlk (hA 5) (Str.ofString "_Accumulator.__str__") hHdr 117 326 [] (.none) (.none)
noncomputable def hB16 (P : Params) : List Obj := [hTup [.none]]
noncomputable def hB17 (P : Params) : List Obj := hBlk (hA 6) (Str.ofString "_Accumulator.reset") hHdr 125 333 [] (.ref 124) (.none)
noncomputable def hB18 (P : Params) : List Obj := hBlk (hA 7) (Str.ofString "_Accumulator.is_onlyws") hHdr 132 341 [] (.none) (.none)
noncomputable def hB19 (P : Params) : List Obj := hBlk (hA 8) (Str.ofString "_Accumulator.part_count") hHdr 139 348 [] (.none) (.none)
noncomputable def hB20 (P : Params) : List Obj := [hTup [.str (Str.ofString "_initial_size") 355], hD147 P, hCls (Str.ofString "_Accumulator") [.type "list"] 148 147 [.type "list", .type "object"] (some (.ref 71)) 271 279 "list.__new__", hGs (Str.ofString "__dict__") 358 148 "function.__dict__" "function.__dict__#set" true, hGs (Str.ofString "__weakref__") 360 148 "ExceptionGroup.__weakref__" "" false]
noncomputable def hB21 (P : Params) : List Obj := hBlkF (hT 8) hLaw 153 367
noncomputable def hB22 (P : Params) : List Obj := hBlk (hT 9) (hT 9).name hLaw 158 373 [] (.none) (.none)
noncomputable def hB23 (P : Params) : List Obj := hBlkF (hT 10) hLaw 165 383
noncomputable def hB24 (P : Params) : List Obj := hBlkF (hT 11) hLaw 170 389
noncomputable def hB25 (P : Params) : List Obj := hBlkF (hT 12) hLaw 175 395
noncomputable def hB26 (P : Params) : List Obj := hBlkF (hT 13) hLaw 180 401
noncomputable def hBs (P : Params) : List (List Obj) := [hB0 P, hB1 P, hB2 P, hB3 P, hB4 P, hB5 P, hB6 P, hB7 P, hB8 P, hB9 P, hB10 P, hB11 P, hB12 P, hB13 P, hB14 P, hB15 P, hB16 P, hB17 P, hB18 P, hB19 P, hB20 P, hB21 P, hB22 P, hB23 P, hB24 P, hB25 P, hB26 P]
noncomputable def hOb (P : Params) (b i : Nat) : Obj := hNthO (hNthB (hBs P) b) i
noncomputable def hK (P : Params) : Frag := (nat_lit 2, hOb P 0 0) :: (nat_lit 3, hOb P 0 1) :: (nat_lit 4, hOb P 0 2) :: (nat_lit 15, hOb P 1 0) :: (nat_lit 17, hOb P 1 1) :: (nat_lit 18, hOb P 1 2) :: (nat_lit 20, hOb P 1 3) :: (nat_lit 21, hOb P 1 4) :: (nat_lit 29, hOb P 2 0) :: (nat_lit 31, hOb P 2 1) :: (nat_lit 32, hOb P 2 2) :: (nat_lit 34, hOb P 2 3) :: (nat_lit 35, hOb P 2 4) :: (nat_lit 36, hOb P 3 0) :: (nat_lit 38, hOb P 3 1) :: (nat_lit 39, hOb P 3 2) :: (nat_lit 41, hOb P 3 3) :: (nat_lit 42, hOb P 3 4) :: (nat_lit 43, hOb P 4 0) :: (nat_lit 45, hOb P 4 1) :: (nat_lit 46, hOb P 4 2) :: (nat_lit 48, hOb P 4 3) :: (nat_lit 49, hOb P 4 4) :: (nat_lit 50, hOb P 5 0) :: (nat_lit 52, hOb P 5 1) :: (nat_lit 53, hOb P 5 2) :: (nat_lit 55, hOb P 5 3) :: (nat_lit 56, hOb P 5 4) :: (nat_lit 57, hOb P 6 0) :: (nat_lit 58, hOb P 6 1) :: (nat_lit 59, hOb P 6 2) :: (nat_lit 60, hOb P 6 3) :: (nat_lit 61, hOb P 6 4) :: (nat_lit 64, hOb P 7 0) :: (nat_lit 66, hOb P 7 1) :: (nat_lit 67, hOb P 7 2) :: (nat_lit 69, hOb P 7 3) :: (nat_lit 70, hOb P 7 4) :: (nat_lit 71, hOb P 8 0) :: (nat_lit 74, hOb P 8 1) :: (nat_lit 79, hOb P 8 2) :: (nat_lit 80, hOb P 8 3) :: (nat_lit 81, hOb P 9 0) :: (nat_lit 83, hOb P 9 1) :: (nat_lit 84, hOb P 9 2) :: (nat_lit 86, hOb P 9 3) :: (nat_lit 87, hOb P 9 4) :: (nat_lit 88, hOb P 10 0) :: (nat_lit 90, hOb P 10 1) :: (nat_lit 91, hOb P 10 2) :: (nat_lit 93, hOb P 10 3) :: (nat_lit 94, hOb P 10 4) :: (nat_lit 95, hOb P 11 0) :: (nat_lit 96, hOb P 12 0) :: (nat_lit 98, hOb P 12 1) :: (nat_lit 99, hOb P 12 2) :: (nat_lit 101, hOb P 12 3) :: (nat_lit 102, hOb P 12 4) :: (nat_lit 103, hOb P 13 0) :: (nat_lit 105, hOb P 13 1) :: (nat_lit 106, hOb P 13 2) :: (nat_lit 108, hOb P 13 3) :: (nat_lit 109, hOb P 13 4) :: (nat_lit 110, hOb P 14 0) :: (nat_lit 112, hOb P 14 1) :: (nat_lit 113, hOb P 14 2) :: (nat_lit 115, hOb P 14 3) :: (nat_lit 116, hOb P 14 4) :: (nat_lit 117, hOb P 15 0) :: (nat_lit 119, hOb P 15 1) :: (nat_lit 120, hOb P 15 2) :: (nat_lit 122, hOb P 15 3) :: (nat_lit 123, hOb P 15 4) :: (nat_lit 124, hOb P 16 0) :: (nat_lit 125, hOb P 17 0) :: (nat_lit 127, hOb P 17 1) :: (nat_lit 128, hOb P 17 2) :: (nat_lit 130, hOb P 17 3) :: (nat_lit 131, hOb P 17 4) :: (nat_lit 132, hOb P 18 0) :: (nat_lit 134, hOb P 18 1) :: (nat_lit 135, hOb P 18 2) :: (nat_lit 137, hOb P 18 3) :: (nat_lit 138, hOb P 18 4) :: (nat_lit 139, hOb P 19 0) :: (nat_lit 141, hOb P 19 1) :: (nat_lit 142, hOb P 19 2) :: (nat_lit 144, hOb P 19 3) :: (nat_lit 145, hOb P 19 4) :: (nat_lit 146, hOb P 20 0) :: (nat_lit 147, hOb P 20 1) :: (nat_lit 148, hOb P 20 2) :: (nat_lit 149, hOb P 20 3) :: (nat_lit 150, hOb P 20 4) :: (nat_lit 153, hOb P 21 0) :: (nat_lit 156, hOb P 21 1) :: (nat_lit 157, hOb P 21 2) :: (nat_lit 158, hOb P 22 0) :: (nat_lit 160, hOb P 22 1) :: (nat_lit 161, hOb P 22 2) :: (nat_lit 163, hOb P 22 3) :: (nat_lit 164, hOb P 22 4) :: (nat_lit 165, hOb P 23 0) :: (nat_lit 168, hOb P 23 1) :: (nat_lit 169, hOb P 23 2) :: (nat_lit 170, hOb P 24 0) :: (nat_lit 173, hOb P 24 1) :: (nat_lit 174, hOb P 24 2) :: (nat_lit 175, hOb P 25 0) :: (nat_lit 178, hOb P 25 1) :: (nat_lit 179, hOb P 25 2) :: (nat_lit 180, hOb P 26 0) :: (nat_lit 183, hOb P 26 1) :: (nat_lit 184, hOb P 26 2) :: []
noncomputable def hAs : List Addr := 2 :: 3 :: 4 :: 15 :: 17 :: 18 :: 20 :: 21 :: 29 :: 31 :: 32 :: 34 :: 35 :: 36 :: 38 :: 39 :: 41 :: 42 :: 43 :: 45 :: 46 :: 48 :: 49 :: 50 :: 52 :: 53 :: 55 :: 56 :: 57 :: 58 :: 59 :: 60 :: 61 :: 64 :: 66 :: 67 :: 69 :: 70 :: 71 :: 74 :: 79 :: 80 :: 81 :: 83 :: 84 :: 86 :: 87 :: 88 :: 90 :: 91 :: 93 :: 94 :: 95 :: 96 :: 98 :: 99 :: 101 :: 102 :: 103 :: 105 :: 106 :: 108 :: 109 :: 110 :: 112 :: 113 :: 115 :: 116 :: 117 :: 119 :: 120 :: 122 :: 123 :: 124 :: 125 :: 127 :: 128 :: 130 :: 131 :: 132 :: 134 :: 135 :: 137 :: 138 :: 139 :: 141 :: 142 :: 144 :: 145 :: 146 :: 147 :: 148 :: 149 :: 150 :: 153 :: 156 :: 157 :: 158 :: 160 :: 161 :: 163 :: 164 :: 165 :: 168 :: 169 :: 170 :: 173 :: 174 :: 175 :: 178 :: 179 :: 180 :: 183 :: 184 :: []
theorem hAs_eq (P : Params) : hAs = (hK P).map (·.1) := by kernel_rfl
noncomputable abbrev tabE : Obj := ⟨.none, none, .fields #[], #[]⟩
noncomputable abbrev HK : Hook :=
  ⟨List (Option Obj) × List (Option Obj), fun s => (hAs.map s.heap.get?, [111, 118, 159].map s.heap.get?), fun w => ((hK w.params).map fun p => some p.2, [some tabE, some tabE, some tabE]),
    fun w h => InK hK w h ∧ h.get? 111 = some tabE ∧ h.get? 118 = some tabE ∧ h.get? 159 = some tabE,
    fun w s h => ⟨InK.of hAs_eq w s (congrArg Prod.fst h), by
      have h2 : [s.heap.get? 111, s.heap.get? 118, s.heap.get? 159] = [some tabE, some tabE, some tabE] := congrArg Prod.snd h
      injection h2 with h2 h3
      injection h3 with h3 h4
      injection h4 with h4 h5
      exact ⟨h2, h3, h4⟩⟩,
    fun w h h' x k => ⟨InK.keeps w h h' x.1 k, k _ _ x.2.1, k _ _ x.2.2.1, k _ _ x.2.2.2⟩⟩
noncomputable abbrev hRw : OpenRow := PySem.Challenge.rw_rs0050_02.row
noncomputable abbrev hQ : Program := view hRw.prog [13]
noncomputable abbrev hLo : List Str := [Str.ofString "_wall", Str.ofString "Entry", Str.ofString "merge_entries", Str.ofString "EMPTYSTRING", Str.ofString "_Accumulator", Str.ofString "_law_cells", Str.ofString "_law_rule", Str.ofString "_law_book", Str.ofString "_law_kept", Str.ofString "_law_least"]
theorem hLeft : LeftO hRw.prog hQ hLo (fun s => xlAt hQ [] s && recOk hRw.toRowW.records s) HK.obs HK.val 2296 := by
  intro w
  kernel_rfl
theorem hHead (walk : WalkO hQ hLo (XL hQ []) HK.says hRw.toRowW (hT 13) [] fun f vs => call f vs) : PySem.Challenge.rw_rs0050_02.Holds := by
  w_on
  refine PySem.W.holds_law (by kernel_rfl) fun said => ?_
  exact holds_open (q := hQ) (loose := hLo) (Xt := fun s => xlAt hQ [] s && recOk hRw.toRowW.records s) (XP := XL hQ []) (Yf := HK.obs) (Ya := HK.val) (YP := HK.says) (N := 2296) hLeft HK.of HK.keeps
    (fun s e => xl_of s (Bool.and_eq_true_iff.mp e).1) XL.keeps (by kernel_rfl) (by kernel_rfl) (by kernel_rfl) (fun s e => recFacts_of (Bool.and_eq_true_iff.mp e).2) (by rfl) (by decide +kernel) (by decide +kernel) ⟨rfl, rfl, rfl, rfl, rfl, by decide +kernel⟩ (by w_witness2) walk
end Mine

end

section
open PySem PySem.W PyProof.Rows PySem.Calls
namespace Mine
theorem no {α : Type} {a : α} {P : Prop} (h : (none : Option α) = some a) : P := Option.noConfusion rfl (heq_of_eq h)
theorem nob {P : Prop} (h : false = true) : P := Bool.noConfusion h
theorem so {α : Type} {a b : α} (h : some a = some b) : a = b := Option.some.inj h
theorem bnd {α β : Type} {x : Option α} {f : α → Option β} {b : β} (h : x.bind f = some b) : ∃ a, x = some a ∧ f a = some b := Option.bind_eq_some_iff.mp h
theorem mpd {α β : Type} {x : Option α} {f : α → β} {b : β} (h : x.map f = some b) : ∃ a, x = some a ∧ f a = b := Option.map_eq_some_iff.mp h
theorem to_bnd {α β : Type} {x : Option α} {f : α → Option β} {a : α} {q : Option β} (h : x = some a) (h2 : f a = q) : x.bind f = q := by subst h; exact h2
theorem to_mpd {α β : Type} {x : Option α} {f : α → β} {a : α} (h : x = some a) : x.map f = some (f a) := by subst h; rfl
theorem bnd_at {α β : Type} {x : Option α} {f : α → Option β} {a : α} {b : β} (h : x = some a) (h2 : x.bind f = some b) : f a = some b := by subst h; exact h2
noncomputable def gd {α : Type} (b : Bool) (x : Option α) : Option α := bif b then x else none
theorem gd_some {α : Type} {b : Bool} {x : Option α} {a : α} (h : gd b x = some a) : b = true ∧ x = some a := by
  cases b with
  | true => exact ⟨rfl, h⟩
  | false => exact no h
theorem to_gd {α : Type} {b : Bool} {x q : Option α} (hb : b = true) (h : x = q) : gd b x = q := by subst hb; exact h
theorem and_1 {a b : Bool} (h : (a && b) = true) : a = true := (Bool.and_eq_true_iff.mp h).1
theorem and_2 {a b : Bool} (h : (a && b) = true) : b = true := (Bool.and_eq_true_iff.mp h).2
theorem to_and {a b : Bool} (h : a = true) (h2 : b = true) : (a && b) = true := by subst h; exact h2
theorem dec {p : Prop} [Decidable p] (h : decide p = true) : p := of_decide_eq_true h
theorem to_dec {p : Prop} [Decidable p] (h : p) : decide p = true := decide_eq_true h
theorem not_t {b : Bool} (h : (!b) = true) : b = false := by cases b with | false => rfl | true => exact nob h
theorem to_not {b : Bool} (h : b = false) : (!b) = true := by subst h; rfl
theorem ifs {α : Type} {p : Prop} [Decidable p] {x : Option α} {a : α} (h : (if p then x else none) = some a) : p ∧ x = some a := by
  by_cases hp : p
  · rw [if_pos hp] at h; exact ⟨hp, h⟩
  · rw [if_neg hp] at h; exact no h
theorem gl_nil {α : Type} {P : α → Prop} : ∀ p ∈ ([] : List α), P p := fun _ h => nomatch h
theorem gl_cons {α : Type} {P : α → Prop} {a : α} {l : List α} (h : P a) (hl : ∀ p ∈ l, P p) : ∀ p ∈ a :: l, P p := fun p hp => by
  rcases List.mem_cons.mp hp with rfl | hp
  · exact h
  · exact hl p hp
theorem nmc {α : Type} {a b : α} {l : List α} (h : ¬ a = b) (hl : a ∉ l) : a ∉ b :: l := fun m => (List.mem_cons.mp m).elim h hl
theorem nm0 {α : Type} {a : α} : a ∉ ([] : List α) := nofun
theorem nm1 {α : Type} {a b : α} (h : ¬ a = b) : a ∉ [b] := nmc h nm0
theorem nm2 {α : Type} {a b c : α} (h : ¬ a = b) (h2 : ¬ a = c) : a ∉ [b, c] := nmc h (nm1 h2)
theorem nm3 {α : Type} {a b c d : α} (h : ¬ a = b) (h2 : ¬ a = c) (h3 : ¬ a = d) : a ∉ [b, c, d] := nmc h (nm2 h2 h3)
theorem pw1 {α : Type} {a : α} : [a].Pairwise (· ≠ ·) := .cons nofun .nil
theorem pw2 {α : Type} {a b : α} (h : ¬ a = b) : [a, b].Pairwise (· ≠ ·) := .cons (gl_cons h gl_nil) pw1
theorem m0 {α : Type} {a : α} {l : List α} : a ∈ a :: l := .head _
theorem m1 {α : Type} {a b : α} {l : List α} : a ∈ b :: a :: l := .tail _ (.head _)
theorem m2 {α : Type} {a b c : α} {l : List α} : a ∈ b :: c :: a :: l := .tail _ m1
theorem four {p : Nat} (h : p < 4) : p = 0 ∨ p = 1 ∨ p = 2 ∨ p = 3 := by omega
theorem up_to {a b c : Nat} (h : a ≤ b) (hb : Nat.ble b c = true) : a ≤ c := Nat.le_trans h (Nat.le_of_ble_eq_true hb)
theorem up_to1 {a b c d : Nat} (h : a ≤ b) (hb : Nat.ble (b + d) c = true) : a + d ≤ c := Nat.le_trans (Nat.add_le_add_right h d) (Nat.le_of_ble_eq_true hb)
theorem bndE {α β : Type} {P : Prop} {x : Option α} {f : α → Option β} {b : β} (h : x.bind f = some b) (k : ∀ a, x = some a → f a = some b → P) : P := Exists.elim (bnd h) fun a q => k a q.1 q.2
theorem gdE {α : Type} {P : Prop} {b : Bool} {x : Option α} {a : α} (h : gd b x = some a) (k : b = true → x = some a → P) : P := k (gd_some h).1 (gd_some h).2
theorem ifsE {α : Type} {P p : Prop} {_ : Decidable p} {x : Option α} {a : α} (h : (if p then x else none) = some a) (k : p → x = some a → P) : P := k (ifs h).1 (ifs h).2
end Mine

end

section
open PySem PySem.W PyProof.Rows PySem.Calls
set_option maxRecDepth 100000
namespace Mine

theorem ints8 {vs : List Value} {ns : List Int} (h : IntsAre vs ns) (hl : ns.length = 8) : ∃ (c0 c1 c2 c3 c4 c5 c6 c7 : Int) (t0 t1 t2 t3 t4 t5 t6 t7 : Tok),
   vs = [.int c0 t0, .int c1 t1, .int c2 t2, .int c3 t3, .int c4 t4, .int c5 t5, .int c6 t6, .int c7 t7] ∧ ns = [c0, c1, c2, c3, c4, c5, c6, c7] := by
  cases h with | nil => cases hl | cons c0 t0 h =>
  cases h with | nil => cases hl | cons c1 t1 h =>
  cases h with | nil => cases hl | cons c2 t2 h =>
  cases h with | nil => cases hl | cons c3 t3 h =>
  cases h with | nil => cases hl | cons c4 t4 h =>
  cases h with | nil => cases hl | cons c5 t5 h =>
  cases h with | nil => cases hl | cons c6 t6 h =>
  cases h with | nil => cases hl | cons c7 t7 h =>
  cases h with
  | nil => exact ⟨_, _, _, _, _, _, _, _, _, _, _, _, _, _, _, _, rfl, rfl⟩
  | cons => simp at hl

theorem News.swap {h₀ h : Heap} {L : Addr} {a b : List (Addr × Obj)} (N : News h₀ L h (a ++ b)) : News h₀ L h (b ++ a) :=
  fun p hp => N p ((List.mem_append.mp hp).elim (fun h => List.mem_append.mpr (.inr h)) fun h => List.mem_append.mpr (.inl h))
noncomputable def PairEnd (h₀ : Heap) (L : Addr) (xi xc : Str) (m : Str → Option Value) (I : List (Addr × Obj) → Prop) (own : List (Addr × Obj)) (adr : List Addr) (s₁ : Shared) (Q : Flow → Shared → Prop) (f : Flow) (s₂ : Shared) : Prop :=
  match f with
  | .ret v => Q (.ret v) s₂
  | .brk => Q .next s₂
  | _ => ∃ h' tk m' news', s₂ = { s₁ with heap := h', toks := tk } ∧ Fr h₀ L h' m' ∧ News h₀ L h' (news' ++ own) ∧ news'.map (·.1) = adr ∧ I news' ∧ ∀ z, z ≠ xc → z ≠ xi → m' z = m z

theorem enum_inv {α : Type} {prog : Program} {w : World} {A : Around} {E : Value → Shared → Prop} {h₀ : Heap} {env : Env} {L : Addr} {K : ItemKind α} {as : List α} {xv : Value} {s : Shared} {m : Str → Option Value} {news : List (Addr × Obj)}
    (S : PairSrcL prog w A E h₀ L K as xv s m news) {xi xc : Str} {body : List Stmt} {Q : Flow → Shared → Prop} (hL : env.locals = L) (I : Nat → List (Addr × Obj) → Prop) (h0 : I 0 news)
    (step : ∀ i a t v news₁ h tk own, as[i]? = some a → K.is a v → I i news₁ → news₁.map (·.1) = news.map (·.1) → OwnOff own (news.map (·.1)) →
      Fr h₀ L h (fun y => if y = xc then some v else if y = xi then some (.int i t) else m y) → News h₀ L h (news₁ ++ own) →
      wpAny (model prog w) A (execs body env) (PairEnd h₀ L xi xc m (I (i + 1)) own (news.map (·.1)) { s with heap := h, toks := tk } Q) E { s with heap := h, toks := tk })
    (done : ∀ (u v : Option Value) h' tk news', Fr h₀ L h' (fun y => if y = xc then u else if y = xi then v else m y) → News h₀ L h' news' → news'.map (·.1) = news.map (·.1) → I as.length news' → Q .next { s with heap := h', toks := tk }) :
    wpAny (model prog w) A (pyIter xv) (fun it s₂ => PairAt3 prog w A h₀ env xi xc body Q E it s₂) E s := by
  subst hL
  refine S env rfl xi xc body Q (fun i m₁ news₁ => I i news₁ ∧ ∀ z, z ≠ xc → z ≠ xi → m₁ z = m z) ⟨h0, fun _ _ _ => rfl⟩ ?_ ?_
  · rintro i a t v m₁ news₁ s₁ own ⟨h, tk, rfl⟩ ha hv ⟨hI, hm⟩ hadr hoff F N
    have e : (fun y => if y = xc then some v else if y = xi then some (Value.int i t) else m₁ y) = fun y => if y = xc then some v else if y = xi then some (Value.int i t) else m y := by
      funext y
      by_cases h1 : y = xc
      · simp [h1]
      · by_cases h2 : y = xi
        · simp only [if_neg h1, if_pos h2]
        · simp only [if_neg h1, if_neg h2]; exact hm y h1 h2
    rw [e] at F
    refine wpAny_mono (step i a t v news₁ h tk own ha hv hI hadr (fun p hp b hb => by obtain ⟨q, hq, rfl⟩ := List.mem_map.mp hb; exact hoff p hp q hq) F (News.swap N)) (fun f s₂ p => ?_) fun _ _ x => x
    cases f with
    | ret v => exact p
    | brk => exact p
    | next =>
      obtain ⟨h', tk', m', news', rfl, F', N', ha', hI', hm'⟩ := p
      exact ⟨rfl, h', tk', m', news', rfl, F', News.swap N', ha'.trans hadr.symm, hI', hm'⟩
    | cont =>
      obtain ⟨h', tk', m', news', rfl, F', N', ha', hI', hm'⟩ := p
      exact ⟨rfl, h', tk', m', news', rfl, F', News.swap N', ha'.trans hadr.symm, hI', hm'⟩
  · rintro h' tk m' news' F N hadr ⟨hI, hm⟩
    refine done (m' xc) (m' xi) h' tk news' ?_ N hadr hI
    have e : (fun y => if y = xc then m' xc else if y = xi then m' xi else m y) = m' := by
      funext y
      by_cases h1 : y = xc
      · simp [h1]
      · by_cases h2 : y = xi
        · simp only [if_neg h1, if_pos h2]; rw [h2]
        · simp only [if_neg h1, if_neg h2]; exact (hm y h1 h2).symm
    rw [e]; exact F
end Mine
namespace Mine
theorem allLt_ne {d : Addr} {l : List (Addr × Obj)} (h : AllLt d l) : ∀ p ∈ l, p.1 ≠ d := by
  induction l with
  | nil => intro p hp; cases hp
  | cons q r ih =>
    intro p hp
    rcases List.mem_cons.mp hp with rfl | hp
    · exact Nat.ne_of_lt h.1
    · exact ih h.2 p hp
theorem ne_append {d : Addr} {a b : List (Addr × Obj)} (h1 : ∀ p ∈ a, p.1 ≠ d) (h2 : ∀ p ∈ b, p.1 ≠ d) : ∀ p ∈ a ++ b, p.1 ≠ d := fun p hp => (List.mem_append.mp hp).elim (h1 p) (h2 p)
end Mine

end

section
open PySem PySem.W PyProof.Rows PySem.Calls
set_option maxRecDepth 100000
namespace Mine

noncomputable abbrev topA (dp un : Nat) (gd : Option (List Code)) (outer : List Env) : Around := { handled := none, depth := dp, frames := some outer, guards := gd, units := un }

structure Gr (K : Frag) (A : Around) (base : Heap) (outer : List Env) (loose : List Str) (mean : ExcName → Option Value) (mg mb : Str → Option Value) (g : Heap) (s : Shared) : Prop where
  X : K.In g
  T : Top topProg loose mean mg mb g
  k : ∀ b o, g.get? b = some o → s.heap.get? b = some o
  sz : g.objs.size ≤ s.heap.objs.size

section
variable {prog : Program} {w : World} {A A₀ : Around} {s : Shared} {K : Frag} {base g h₀ : Heap} {outer : List Env} {L : Addr} {m mg mb : Str → Option Value} {muts rest : List (Addr × Obj)} {loose : List Str} {mean : ExcName → Option Value} {env : Env}

theorem enter_raw {K' : Frag} {R : Result → Shared → Prop} {name qual : Str} {params : Arguments} {body : List Stmt} {scope : Scope} {cl : List (Str × Addr)} {dV kV doc pm cdv ct oc : Value} {an od : Option Addr} {osl : Array (Option Value)} {f : Addr} {args : Args} {binds : List (Str × Value)}
    (G : Gr K A base outer loose mean mg mb g s) (X1 : K'.In g) (hm : ∀ p ∈ muts, s.heap.get? p.1 = some p.2 ∧ g.get? p.1 = none)
    (ho : K'.lookup f = some ⟨oc, od, .func (fnX name qual params body scope cl dV kV doc pm an cdv ct), osl⟩) (hcd : codeIn K' cdv qual = true) (hroom : A.depth < recursionLimit)
    (hbind : BindsTo s (fnX name qual params body scope cl dV kV doc pm an cdv ct) args binds) (hloc : ∀ y ∈ binds, scope.names.lookup y.1 = some .local)
    (h : ∀ L' h₁, Fr g L' h₁ (fun y => binds.reverse.lookup y) → News g L' h₁ muts → (∀ p ∈ muts, p.1 < L') → K'.In g → Top topProg loose mean mg mb g →
      wpAny (model prog w) (A.deeper (envX qual scope L' f cdv cl)) (execs body (envX qual scope L' f cdv cl))
        (fun fl s' => R (.ok (.ret (match fl with | .ret v => v | _ => .none))) s')
        (fun e s' => wpAny (model prog w) (A.deeper (envX qual scope L' f cdv cl)) (leaving (envX qual scope L' f cdv cl) e) (fun _ s'' => R (.error e) s'') (fun e' s'' => R (.error e') s'') s')
        { s with heap := h₁, toks := s.toks + binds.length })
    (hcell : ∀ x ∈ scope.names, x.2 ≠ .cell) (hco : scope.isCoroutine = false) (hgen : scope.isGenerator = false) (hk : scope.kind = .function) : codeAny (model prog w) A (.call (.ref f) args) R s := by
  refine codeAny_call_def (fd := fnX name qual params body scope cl dV kV doc pm an cdv ct) (body := body) (binds := binds) hroom (G.k _ _ (X1 _ _ ho)) rfl (G.T.nolimit.keeps G.k) ((codeRec_of X1 hcd).keeps G.k) rfl hbind hcell hloc (fun h₁ hns hk₁ => ?_) hco hgen hk
  exact h s.heap.objs.size h₁ ⟨hns, fun b o e => hk₁ b o (G.k b o e), G.sz⟩ (fun p hp => ⟨hk₁ _ _ (hm p hp).1, Nat.ne_of_lt (Heap.lt_size (hm p hp).1), (hm p hp).2⟩) (fun p hp => Heap.lt_size (hm p hp).1) X1 G.T

end
end Mine

end

section
open PySem PySem.W PyProof.Rows PySem.Calls
set_option maxRecDepth 100000
namespace Mine
section
variable {prog : Program} {w : World} {A A₀ : Around} {s : Shared} {K : Frag} {base g h₀ : Heap} {outer : List Env} {L : Addr} {m mg mb : Str → Option Value} {muts rest : List (Addr × Obj)} {loose : List Str} {mean : ExcName → Option Value} {env : Env}
theorem enter_rawAt {K' : Frag} {R : Result → Shared → Prop} {name qual : Str} {params : Arguments} {body : List Stmt} {scope : Scope} {cl : List (Str × Addr)} {dV kV doc pm cdv ct oc : Value} {an od : Option Addr} {osl : Array (Option Value)} {f : Addr} {args : Args} {binds : List (Str × Value)}
    (G : Gr K A base outer loose mean mg mb g s) (X1 : K'.In g) (hm : ∀ p ∈ muts, s.heap.get? p.1 = some p.2 ∧ g.get? p.1 = none)
    (ho : K'.lookup f = some ⟨oc, od, .func (fnX name qual params body scope cl dV kV doc pm an cdv ct), osl⟩) (hcd : codeIn K' cdv qual = true) (hroom : A.depth < recursionLimit)
    (hbind : BindsTo s (fnX name qual params body scope cl dV kV doc pm an cdv ct) args binds) (hloc : ∀ y ∈ binds, scope.names.lookup y.1 = some .local)
    (h : ∀ L' h₁, Fr g L' h₁ (fun y => binds.reverse.lookup y) → News g L' h₁ muts → (∀ p ∈ muts, p.1 < L') → K'.In g → Top topProg loose mean mg mb g →
      _root_.PySem.wpAt (model prog w) (A.deeper (envX qual scope L' f cdv cl)) (.func body (envX qual scope L' f cdv cl)) (execs body (envX qual scope L' f cdv cl))
        (fun fl s' => R (.ok (.ret (match fl with | .ret v => v | _ => .none))) s')
        (fun e s' => wpAny (model prog w) (A.deeper (envX qual scope L' f cdv cl)) (leaving (envX qual scope L' f cdv cl) e) (fun _ s'' => R (.error e) s'') (fun e' s'' => R (.error e') s'') s')
        { s with heap := h₁, toks := s.toks + binds.length })
    (hcell : ∀ x ∈ scope.names, x.2 ≠ .cell) (hco : scope.isCoroutine = false) (hgen : scope.isGenerator = false) (hk : scope.kind = .function) : codeAny (model prog w) A (.call (.ref f) args) R s := by
  refine ks_codeAny_call_defAt (fd := fnX name qual params body scope cl dV kV doc pm an cdv ct) (body := body) (binds := binds) hroom (G.k _ _ (X1 _ _ ho)) rfl (G.T.nolimit.keeps G.k) ((codeRec_of X1 hcd).keeps G.k) rfl hbind hcell hloc (fun h₁ hns hk₁ => ?_) hco hgen hk
  exact h s.heap.objs.size h₁ ⟨hns, fun b o e => hk₁ b o (G.k b o e), G.sz⟩ (fun p hp => ⟨hk₁ _ _ (hm p hp).1, Nat.ne_of_lt (Heap.lt_size (hm p hp).1), (hm p hp).2⟩) (fun p hp => Heap.lt_size (hm p hp).1) X1 G.T
end
end Mine

end

section
open PySem PySem.W PyProof.Rows PySem.Calls
set_option maxRecDepth 100000
set_option linter.unusedSimpArgs false
set_option linter.unusedVariables false
namespace Mine

noncomputable abbrev denZ : Code → Sem Fin := PySem.W.ZFast.zw11892475500146522536 PySem.W.ZFast.tableZ
theorem denZ_eq : denZ = denote table := by
  show PySem.W.ZFast.zw11892475500146522536 PySem.W.ZFast.tableZ = _
  rw [← PySem.W.ZFast.ze11892475500146522536, ← PySem.W.ZFast.tableZ_eq]

noncomputable def callQ (a : Addr) (fd : FuncData) (args : Args) : Sem Fin :=
  (match fd.code with
    | .none => (pure fd.qualname : Sem Str)
    | c => PySem.W.ZFast.zw6609576154772507232 c 1 >>= fun v => match v with
      | .str q _ => pure q
      | _ => pure fd.qualname) >>= fun compiled =>
  PySem.W.ZFast.zw9782568553167038054 fd args >>= fun binds =>
  PySem.W.ZFast.zw11113344188204177931 fd.scope fd.globals fd.closure binds (compiled ++ Str.ofString ".<locals>.") (some a) fd.code none fd.builtins >>= fun env =>
  pure (.again (match fd.body with | .stmts b => .func b env | .expr e => .expr e env))


noncomputable def wpC {α : Type} (M : Model) (A : Around) (co : Option Code) (t : Sem α) (Q : α → Shared → Prop) (E : Value → Shared → Prop) (s : Shared) : Prop :=
  ∀ Γ p, (∀ c, co = some c → Γ.code = c) → Γ.In A → Sem.wp M Γ t (fun a _ s' => Q a s') (fun e _ s' => E e s') p s

theorem callQ_use {prog : Program} {w : World} {A : Around} {co : Option Code} {a : Addr} {fd : FuncData} {args : Args} {s : Shared} {Q : Fin → Shared → Prop} {E : Value → Shared → Prop} (hg : fd.scope.isGenerator = false) (hc : fd.scope.isCoroutine = false) (hd : A.depth < recursionLimit)
    (h : wpC (model prog w) A co (callQ a fd args) (fun fin s' => s'.heap.NoLimit ∧ Q fin s') E s) : wpC (model prog w) A co (callFunction a fd args) Q E s := by
  unfold callQ at h
  rw [← PySem.W.ZFast.ze6609576154772507232, ← PySem.W.ZFast.ze9782568553167038054, ← PySem.W.ZFast.ze11113344188204177931] at h
  intro Γ p hco hΓ
  have h1 := h Γ p hco hΓ
  rw [Sem.wp_bind'] at h1
  have key : ∀ (env : Env) (p' : Pos) (s' : Shared), Sem.wp (model prog w) Γ (pure (Fin.again (match fd.body with | .stmts b => Code.func b env | .expr e => Code.expr e env)) : Sem Fin) (fun fin _ s' => s'.heap.NoLimit ∧ Q fin s') (fun e _ s' => E e s') p' s' →
      Sem.wp (model prog w) Γ (enterFrame >>= fun _ => again (match fd.body with | .stmts b => Code.func b env | .expr e => Code.expr e env)) (fun fin _ s' => Q fin s') (fun e _ s' => E e s') p' s' := by
    intro env p' s' hh
    have hh' : s'.heap.NoLimit ∧ Q _ s' := hh
    rw [Sem.wp_bind']
    exact wpAny_enterFrame (M := model prog w) (A := A) (E := E) (Q := fun _ s'' => Q _ s'') hh'.1 hd hh'.2 Γ p' hΓ
  have step : ∀ (q : Str) (p' : Pos) (s' : Shared), Sem.wp (model prog w) Γ (bindArgs fd args >>= fun binds => newFunctionEnv fd.scope fd.globals fd.closure binds (q ++ Str.ofString ".<locals>.") (some a) fd.code none fd.builtins >>= fun env => pure (Fin.again (match fd.body with | .stmts b => Code.func b env | .expr e => Code.expr e env))) (fun fin _ s' => s'.heap.NoLimit ∧ Q fin s') (fun e _ s' => E e s') p' s' →
      Sem.wp (model prog w) Γ (bindArgs fd args >>= fun binds => newFunctionEnv fd.scope fd.globals fd.closure binds (q ++ Str.ofString ".<locals>.") (some a) fd.code none fd.builtins >>= fun env => enterFrame >>= fun _ => again (match fd.body with | .stmts b => Code.func b env | .expr e => Code.expr e env)) (fun fin _ s' => Q fin s') (fun e _ s' => E e s') p' s' := by
    intro q p' s' hh
    rw [Sem.wp_bind'] at hh ⊢
    refine Sem.wp_mono _ Γ _ (fun b p1 s1 h1 => ?_) (fun _ _ _ x => x) p' s' hh
    rw [Sem.wp_bind'] at h1 ⊢
    exact Sem.wp_mono _ Γ _ (fun env p2 s2 h2 => key env p2 s2 h2) (fun _ _ _ x => x) p1 s1 h1
  have e0 : callFunction a fd args = ((match fd.code with
    | .none => (pure fd.qualname : Sem Str)
    | c => field c 1 >>= fun v => match v with
      | .str q _ => pure q
      | _ => pure fd.qualname) >>= fun compiled => bindArgs fd args >>= fun binds => newFunctionEnv fd.scope fd.globals fd.closure binds (compiled ++ Str.ofString ".<locals>.") (some a) fd.code none fd.builtins >>= fun env => enterFrame >>= fun _ => again (match fd.body with | .stmts b => Code.func b env | .expr e => Code.expr e env)) := by
    unfold callFunction
    simp only [hg, hc]
    cases fd.code <;> first | rfl | (simp only [bind_assoc]; congr 1; funext v; cases v <;> rfl)
  rw [e0, Sem.wp_bind']
  exact Sem.wp_mono _ Γ _ (fun q p1 s1 h1 => step q p1 s1 h1) (fun _ _ _ x => x) p s h1


inductive Dir where
  | k
  | l (j : Nat)

structure RSt where
  dirs : List Dir
  led : List (Addr × Obj)
  al : Nat
  tk : Nat
  eqs : List (Addr × Addr)
  stk : Nat → Pos × List (Code × Pos)

noncomputable abbrev RC (Om α : Type) := Except Value α → RSt → Option Om
noncomputable def okMk (hd : Option Value) : Bool := match hd with
  | none => true
  | some v => !decide (v = byPass)

section
variable (K : Frag) (S : Setting) (n0 t0 : Nat) {Om : Type}

noncomputable def dirAt : List Dir → Option (Nat × List Dir)
  | [] => none
  | d :: ds => (match d with
    | .k => none
    | .l j => some (j, ds))
noncomputable def dirObj (a : Addr) (dirs : List Dir) (led : List (Addr × Obj)) (eqs : List (Addr × Addr)) : Option (Obj × List Dir × List (Addr × Addr)) := match dirs with
  | d :: ds => (match d with
    | .k => (K.lookup a).map fun o => (o, ds, eqs)
    | .l j => led[j]?.map fun p => (p.2, ds, (a, p.1) :: eqs))
  | [] => none

noncomputable def treeOf (den : Code → Sem Fin) (A : Around) (c : Code) (a : Addr) (args : Args) (dirs : List Dir) (eqs : List (Addr × Addr)) (p : Obj × List Dir × List (Addr × Addr)) : Sem Fin × List Dir × List (Addr × Addr) := match p.1.data with
  | .func fd => bif !fd.scope.isGenerator && (!fd.scope.isCoroutine && Nat.blt (A.under c).depth recursionLimit) then (callQ a fd args, p.2) else (den c, dirs, eqs)
  | _ => (den c, dirs, eqs)
noncomputable def codeTree (den : Code → Sem Fin) (A : Around) (c : Code) (dirs : List Dir) (led : List (Addr × Obj)) (eqs : List (Addr × Addr)) : Sem Fin × List Dir × List (Addr × Addr) := match c with
  | .call f args => (match f with
    | .ref a => (match dirObj K a dirs led eqs with
      | some p => treeOf den A c a args dirs eqs p
      | none => (den c, dirs, eqs))
    | _ => (den c, dirs, eqs))
  | _ => (den c, dirs, eqs)

noncomputable def goOn (k : Result → RSt → Option Om) (again : Code → RSt → Option Om) (r : Except Value Fin) (st : RSt) : Option Om := match r with
  | .error e => k (.error e) st
  | .ok f => (match f with
    | .done f => k (.ok f) st
    | .again c => gd c.quiet (again c st))
noncomputable def codeR (den : Code → Sem Fin) (run : Around → Option Code → Sem Fin → RSt → RC Om Fin → Option Om) (A : Around) : Nat → Code → RSt → (Result → RSt → Option Om) → Option Om
  | 0, _, _, _ => none
  | n + 1, c, st, k => (fun t : Sem Fin × List Dir × List (Addr × Addr) => run (A.under c) (some c) t.1 ⟨t.2.1, st.led, st.al, st.tk, t.2.2, st.stk⟩ (goOn k fun c' st' => codeR den run A n c' st' k)) (codeTree K den A c st.dirs st.led st.eqs)

noncomputable def runT (den : Code → Sem Fin) : Nat → (α : Type) → Around → Option Code → Sem α → RSt → RC Om α → Option Om
  | 0, _, _, _, _, _, _ => none
  | n + 1, α, A, co, t, ⟨dirs, led, al, tk, eqs, stk⟩, k => match t with
    | .pure a => k (.ok a) ⟨dirs, led, al, tk, eqs, stk⟩
    | .raise e => k (.error e) ⟨dirs, led, al, tk, eqs, stk⟩
    | .rule _ c => runT den n α A co (c ()) ⟨dirs, led, al, tk, eqs, stk⟩ k
    | .at _ c => runT den n α A co (c ()) ⟨dirs, led, al, tk, eqs, stk⟩ k
    | .point _ c => runT den n α A co (c ()) ⟨dirs, led, al, tk, eqs, stk⟩ k
    | .ask c => runT den n α A co (c S) ⟨dirs, led, al, tk, eqs, stk⟩ k
    | .load a _ c => (dirObj K a dirs led eqs).bind fun p => runT den n α A co (c p.1) ⟨p.2.1, led, al, tk, p.2.2, stk⟩ k
    | .loadIfAlive a c => (dirObj K a dirs led eqs).bind fun p => runT den n α A co (c (some p.1)) ⟨p.2.1, led, al, tk, p.2.2, stk⟩ k
    | .alloc o c => gd (!o.isFreed) (runT den n α A co (c (n0 + al)) ⟨dirs, led ++ [(n0 + al, o)], al + 1, tk, eqs, stk⟩ k)
    | .update a _ f c => (dirAt dirs).bind fun d => led[d.1]?.bind fun p => gd (!(f p.2).isFreed) (runT den n α A co (c ()) ⟨d.2, led.set d.1 (p.1, f p.2), al, tk, (a, p.1) :: eqs, stk⟩ k)
    | .fresh c => runT den n α A co (c (t0 + tk)) ⟨dirs, led, al, tk + 1, eqs, stk⟩ k
    | .handled own c => gd (!own) (runT den n α A co (c A.handled) ⟨dirs, led, al, tk, eqs, stk⟩ k)
    | .stack c => co.bind fun cc => runT den n α A (some cc) (c ((cc, (stk 0).1) :: (stk 0).2)) ⟨dirs, led, al, tk, eqs, fun j => stk (j + 1)⟩ k
    | .call c hd _ _ c' => gd (okMk hd) (codeR K den (fun A' co' t' st' k' => runT den n Fin A' co' t' st' k') (A.mark hd) 64 c ⟨dirs, led, al, tk, eqs, stk⟩ fun r st' => runT den n α A co (c' r) st' k)
    | _ => none
end

structure Hp (g : Heap) (led : List (Addr × Obj)) (h : Heap) : Prop where
  keep : ∀ b o, g.get? b = some o → h.get? b = some o
  own : ∀ p ∈ led, h.get? p.1 = some p.2 ∧ g.get? p.1 = none
  dist : (led.map (·.1)).Pairwise (· ≠ ·)
  sz : g.objs.size ≤ h.objs.size

theorem Hp.alloc {g h : Heap} {led : List (Addr × Obj)} (D : Hp g led h) {o : Obj} (hf : o.isFreed = false) : Hp g (led ++ [(h.objs.size, o)]) (h.push o) := by
  refine ⟨fun b o' e => Heap.get?_push_of_some _ (D.keep b o' e), fun p hp => ?_, ?_, Nat.le_trans D.sz (by rw [Heap.size_push]; exact Nat.le_succ _)⟩
  · rcases List.mem_append.mp hp with hp | hp
    · exact ⟨Heap.get?_push_of_some _ (D.own p hp).1, (D.own p hp).2⟩
    · rw [List.mem_singleton.mp hp]
      refine ⟨Heap.get?_push_size _ hf, ?_⟩
      cases q : g.get? h.objs.size with
      | none => rfl
      | some o' => exact absurd (Heap.lt_size (D.keep _ _ q)) (Nat.lt_irrefl _)
  · rw [List.map_append, List.pairwise_append]
    refine ⟨D.dist, List.pairwise_singleton _ _, fun a ha b hb => ?_⟩
    obtain ⟨p, hp, rfl⟩ := List.mem_map.mp ha
    rw [List.map_singleton, List.mem_singleton] at hb
    subst hb
    exact Nat.ne_of_lt (Heap.lt_size (D.own p hp).1)

theorem Hp.update {g h : Heap} {led : List (Addr × Obj)} (D : Hp g led h) {j : Nat} {p : Addr × Obj} (hj : led[j]? = some p) {f : Obj → Obj} (hf : (f p.2).isFreed = false) : Hp g (led.set j (p.1, f p.2)) (h.update p.1 f) := by
  have hs : Heap.SameBut p.1 h (h.update p.1 f) := Heap.SameBut.update ..
  have hp := D.own p (List.mem_of_getElem? hj)
  obtain ⟨hl, he⟩ := List.getElem?_eq_some_iff.mp hj
  have hmap : (led.set j (p.1, f p.2)).map (·.1) = led.map (·.1) := by
    rw [List.map_set]
    apply List.ext_getElem?
    intro i
    rw [List.getElem?_set]
    by_cases hi : j = i
    · subst hi; simp [hl, he]
    · simp [hi]
  refine ⟨fun b o e => (hs.2 b fun q => ?_).trans (D.keep b o e), fun q hq => ?_, hmap ▸ D.dist, Nat.le_trans D.sz (Nat.le_of_eq hs.1.symm)⟩
  · rw [q, hp.2] at e; cases e
  · obtain ⟨i, hi⟩ := List.getElem?_of_mem hq
    rw [List.getElem?_set] at hi
    by_cases hji : j = i
    · subst hji
      simp only [if_pos rfl, hl, if_true] at hi
      cases hi
      exact ⟨by first | exact Heap.get?_update_self f hp.1 hf | exact Heap.get?_update_self _ hp.1 hf, hp.2⟩
    · rw [if_neg hji] at hi
      have hq' := D.own q (List.mem_of_getElem? hi)
      refine ⟨(hs.2 q.1 fun e => ?_).trans hq'.1, hq'.2⟩
      have hd := D.dist
      rw [List.pairwise_iff_getElem] at hd
      obtain ⟨hil, hie⟩ := List.getElem?_eq_some_iff.mp hi
      rcases Nat.lt_or_gt_of_ne hji with lt | lt
      · exact hd j i (by simpa using hl) (by simpa using hil) lt (by simp [he, hie, e])
      · exact hd i j (by simpa using hil) (by simpa using hl) lt (by simp [he, hie, e])

section
variable {prog : Program} {w : World} {K : Frag} {S : Setting} {g : Heap} {n0 t0 : Nat} {Om : Type}

theorem dirObj_eqs {a : Addr} {dirs : List Dir} {led : List (Addr × Obj)} {eqs : List (Addr × Addr)} {p : Obj × List Dir × List (Addr × Addr)} (e : dirObj K a dirs led eqs = some p) : ∀ x ∈ eqs, x ∈ p.2.2 := by
  cases dirs with
  | nil => exact no e
  | cons d ds =>
    cases d with
    | k => obtain ⟨o, _, rfl⟩ := mpd e; exact fun _ h => h
    | l j => obtain ⟨o, _, rfl⟩ := mpd e; exact fun _ h => .tail _ h
theorem dirObj_get (hX : K.In g) {a : Addr} {dirs : List Dir} {led : List (Addr × Obj)} {eqs : List (Addr × Addr)} {p : Obj × List Dir × List (Addr × Addr)} (e : dirObj K a dirs led eqs = some p) (hv : ∀ x ∈ p.2.2, x.1 = x.2) {h : Heap} (D : Hp g led h) : h.get? a = some p.1 := by
  cases dirs with
  | nil => exact no e
  | cons d ds =>
    cases d with
    | k => obtain ⟨o, ho, rfl⟩ := mpd e; exact D.keep _ _ (hX _ _ ho)
    | l j =>
      obtain ⟨q, hj, rfl⟩ := mpd e
      have ha : a = q.1 := hv _ (.head _)
      subst ha
      exact (D.own _ (List.mem_of_getElem? hj)).1
theorem treeOf_eqs {den : Code → Sem Fin} {A : Around} {c : Code} {a : Addr} {args : Args} {dirs : List Dir} {eqs : List (Addr × Addr)} {p : Obj × List Dir × List (Addr × Addr)} {x : Addr × Addr} (h1 : x ∈ eqs) (h2 : x ∈ p.2.2) : x ∈ (treeOf den A c a args dirs eqs p).2.2 := by
  obtain ⟨⟨_, _, dt, _⟩, q⟩ := p
  cases dt with
  | func fd =>
    show x ∈ (bif !fd.scope.isGenerator && (!fd.scope.isCoroutine && Nat.blt (A.under c).depth recursionLimit) then (callQ a fd args, q) else (den c, dirs, eqs)).2.2
    cases !fd.scope.isGenerator && (!fd.scope.isCoroutine && Nat.blt (A.under c).depth recursionLimit) with
    | true => exact h2
    | false => exact h1
  | _ => exact h1
theorem codeTree_eqs {den : Code → Sem Fin} {A : Around} {c : Code} {dirs : List Dir} {led : List (Addr × Obj)} {eqs : List (Addr × Addr)} : ∀ x ∈ eqs, x ∈ (codeTree K den A c dirs led eqs).2.2 := by
  intro x hx
  cases c with
  | call f args =>
    cases f with
    | ref a =>
      show x ∈ (match dirObj K a dirs led eqs with
        | some p => treeOf den A (.call (.ref a) args) a args dirs eqs p
        | none => (den (.call (.ref a) args), dirs, eqs)).2.2
      cases hp : dirObj K a dirs led eqs with
      | none => exact hx
      | some p => exact treeOf_eqs hx (dirObj_eqs hp x hx)
    | _ => exact hx
  | _ => exact hx

theorem codeR_eqs {den : Code → Sem Fin} {run : Around → Option Code → Sem Fin → RSt → RC Om Fin → Option Om} {P : Addr × Addr → Prop}
    (hrun : ∀ A co t st k ω, run A co t st k = some ω → (∀ r st', k r st' = some ω → ∀ e ∈ st'.eqs, P e) → ∀ e ∈ st.eqs, P e) (A : Around) :
    ∀ n c st k ω, codeR K den run A n c st k = some ω → (∀ r st', k r st' = some ω → ∀ e ∈ st'.eqs, P e) → ∀ e ∈ st.eqs, P e := by
  intro n
  induction n with
  | zero => intro c st k ω e; exact no e
  | succ n ih =>
    intro c st k ω e hk x hx
    refine hrun _ _ _ _ _ _ e (fun r st' e' => ?_) x (codeTree_eqs x hx)
    cases r with
    | error e => exact hk _ _ e'
    | ok fin =>
      cases fin with
      | done f => exact hk _ _ e'
      | again c' => exact ih _ _ _ _ (gd_some e').2 hk

theorem runT_eqs {den : Code → Sem Fin} {P : Addr × Addr → Prop} : ∀ n α A co (t : Sem α) st (k : RC Om α) ω, runT K S n0 t0 den n α A co t st k = some ω → (∀ r st', k r st' = some ω → ∀ e ∈ st'.eqs, P e) → ∀ e ∈ st.eqs, P e := by
  intro n
  induction n with
  | zero => intro α A co t st k ω e; exact no e
  | succ n ih =>
    intro α A co t st k ω e hk x hx
    cases t with
    | pure a => exact hk _ _ e x hx
    | raise y => exact hk _ _ e x hx
    | rule tag c => exact ih _ _ _ _ _ _ _ e hk x hx
    | «at» p c => exact ih _ _ _ _ _ _ _ e hk x hx
    | point l c => exact ih _ _ _ _ _ _ _ e hk x hx
    | ask c => exact ih _ _ _ _ _ _ _ e hk x hx
    | load a q c => obtain ⟨p, hp, e⟩ := bnd e; exact ih _ _ _ _ _ _ _ e hk x (dirObj_eqs hp x hx)
    | loadIfAlive a c => obtain ⟨p, hp, e⟩ := bnd e; exact ih _ _ _ _ _ _ _ e hk x (dirObj_eqs hp x hx)
    | alloc o c => exact ih _ _ _ _ _ _ _ (gd_some e).2 hk x hx
    | update a q f c =>
      obtain ⟨d, _, e⟩ := bnd e
      obtain ⟨p, _, e⟩ := bnd e
      exact ih _ _ _ _ _ _ _ (gd_some e).2 hk x (.tail _ hx)
    | fresh c => exact ih _ _ _ _ _ _ _ e hk x hx
    | handled own c => exact ih _ _ _ _ _ _ _ (gd_some e).2 hk x hx
    | stack c => obtain ⟨cc, _, e⟩ := bnd e; exact ih _ _ _ _ _ _ _ e hk x hx
    | call c hd gd l c' => exact codeR_eqs (fun A co t st k ω => ih Fin A co t st k ω) _ _ _ _ _ _ (gd_some e).2 (fun r st' e' => ih _ _ _ _ _ _ _ e' hk) x hx
    | _ => exact no e

noncomputable def Ends {α : Type} (g : Heap) (n0 t0 : Nat) (s : Shared) (k : RC Om α) (ω : Om) (Q : α → Shared → Prop) (E : Value → Shared → Prop) : Prop :=
  ∀ r dirs led al tk eqs h, (∀ stk, k r ⟨dirs, led, al, tk, eqs, stk⟩ = some ω) → Hp g led h → h.objs.size = n0 + al → match r with
    | .ok a => Q a { s with heap := h, toks := t0 + tk }
    | .error e => E e { s with heap := h, toks := t0 + tk }
noncomputable def Val {α : Type} (k : RC Om α) (ω : Om) : Prop := ∀ r st, k r st = some ω → ∀ e ∈ st.eqs, e.1 = e.2
noncomputable def SoundT (prog : Program) (w : World) (g : Heap) (n0 t0 : Nat) {α : Type} (run : RSt → RC Om α → Option Om) (A : Around) (co : Option Code) (t : Sem α) : Prop :=
  ∀ dirs led al tk eqs k ω, (∀ stk, run ⟨dirs, led, al, tk, eqs, stk⟩ k = some ω) → Val k ω → ∀ (s : Shared) (h : Heap) (Q : α → Shared → Prop) (E : Value → Shared → Prop), Hp g led h → h.objs.size = n0 + al → Ends g n0 t0 s k ω Q E →
    wpC (model prog w) A co t Q E { s with heap := h, toks := t0 + tk }

theorem codeTree_sound (hX : K.In g) (hl : g.NoLimit) {A : Around} {c : Code} {dirs : List Dir} {led : List (Addr × Obj)} {eqs : List (Addr × Addr)} (hv : ∀ x ∈ (codeTree K (denote table) A c dirs led eqs).2.2, x.1 = x.2) {s : Shared} (D : Hp g led s.heap) {Q : Fin → Shared → Prop} {E : Value → Shared → Prop}
    (h : wpC (model prog w) (A.under c) (some c) (codeTree K (denote table) A c dirs led eqs).1 (fun fin s' => s'.heap.NoLimit ∧ Q fin s') E s) : wpC (model prog w) (A.under c) (some c) (denote table c) Q E s := by
  have weak : ∀ {t : Sem Fin}, wpC (model prog w) (A.under c) (some c) t (fun fin s' => s'.heap.NoLimit ∧ Q fin s') E s → wpC (model prog w) (A.under c) (some c) t Q E s := fun h Γ p hc hΓ =>
    Sem.wp_mono _ Γ _ (fun _ _ _ x => x.2) (fun _ _ _ x => x) p s (h Γ p hc hΓ)
  cases c with
  | call f args =>
    cases f with
    | ref a =>
      cases ho : dirObj K a dirs led eqs with
      | none =>
        have h' : wpC (model prog w) (A.under (.call (.ref a) args)) (some (.call (.ref a) args)) (match dirObj K a dirs led eqs with
          | some p => treeOf (denote table) A (.call (.ref a) args) a args dirs eqs p
          | none => (denote table (.call (.ref a) args), dirs, eqs)).1 (fun fin s' => s'.heap.NoLimit ∧ Q fin s') E s := h
        rw [ho] at h'; exact weak h'
      | some p =>
        have h' : wpC (model prog w) (A.under (.call (.ref a) args)) (some (.call (.ref a) args)) (match dirObj K a dirs led eqs with
          | some p => treeOf (denote table) A (.call (.ref a) args) a args dirs eqs p
          | none => (denote table (.call (.ref a) args), dirs, eqs)).1 (fun fin s' => s'.heap.NoLimit ∧ Q fin s') E s := h
        have hv' : ∀ x ∈ (match dirObj K a dirs led eqs with
          | some p => treeOf (denote table) A (.call (.ref a) args) a args dirs eqs p
          | none => (denote table (.call (.ref a) args), dirs, eqs)).2.2, x.1 = x.2 := hv
        rw [ho] at h' hv'
        clear h hv
        obtain ⟨⟨ocl, odi, dt, osl⟩, q⟩ := p
        cases dt with
        | func fd =>
          have h1 : wpC (model prog w) (A.under (.call (.ref a) args)) (some (.call (.ref a) args)) (bif !fd.scope.isGenerator && (!fd.scope.isCoroutine && Nat.blt (A.under (.call (.ref a) args)).depth recursionLimit) then (callQ a fd args, q) else (denote table (.call (.ref a) args), dirs, eqs)).1 (fun fin s' => s'.heap.NoLimit ∧ Q fin s') E s := h'
          have hv1 : ∀ x ∈ (bif !fd.scope.isGenerator && (!fd.scope.isCoroutine && Nat.blt (A.under (.call (.ref a) args)).depth recursionLimit) then (callQ a fd args, q) else (denote table (.call (.ref a) args), dirs, eqs)).2.2, x.1 = x.2 := hv'
          clear h' hv'
          cases hb : !fd.scope.isGenerator && (!fd.scope.isCoroutine && Nat.blt (A.under (.call (.ref a) args)).depth recursionLimit) with
          | false => rw [hb] at h1; exact weak h1
          | true =>
            rw [hb] at h1 hv1
            have hg := not_t (and_1 hb)
            have hc := not_t (and_1 (and_2 hb))
            have hob := dirObj_get hX ho hv1 D
            have z := callQ_use hg hc (Nat.le_of_ble_eq_true (and_2 (and_2 hb))) h1
            show wpC _ _ _ (callAny (.ref a) args) _ _ _
            unfold callAny
            intro Γ p hco hΓ
            have y := z Γ p hco hΓ
            show Sem.wp _ Γ (load a >>= _) _ _ p s
            rw [Sem.wp_bind', Sem.wp_load_of _ _ _ _ _ hob]
            exact y
        | _ => exact weak h'
    | _ => exact weak h
  | _ => exact weak h

noncomputable def stk0 : Nat → Pos × List (Code × Pos) := fun _ => (default, [])
theorem codeR_sound (hX : K.In g) (hl : g.NoLimit) {den : Code → Sem Fin} (hden : den = denote table) {run : Around → Option Code → Sem Fin → RSt → RC Om Fin → Option Om}
    (heqs : ∀ {P : Addr × Addr → Prop} A co t st k ω, run A co t st k = some ω → (∀ r st', k r st' = some ω → ∀ e ∈ st'.eqs, P e) → ∀ e ∈ st.eqs, P e)
    (hrun : ∀ A co t, SoundT prog w g n0 t0 (run A co t) A co t) (A : Around) :
    ∀ n c dirs led al tk eqs k ω, (∀ stk, codeR K den run A n c ⟨dirs, led, al, tk, eqs, stk⟩ k = some ω) → (∀ r st, k r st = some ω → ∀ e ∈ st.eqs, e.1 = e.2) → ∀ (s : Shared) (h : Heap) (R : Result → Shared → Prop), Hp g led h → h.objs.size = n0 + al →
      (∀ r dirs led al tk eqs h, (∀ stk, k r ⟨dirs, led, al, tk, eqs, stk⟩ = some ω) → Hp g led h → h.objs.size = n0 + al → R r { s with heap := h, toks := t0 + tk }) →
      codeAny (model prog w) A c R { s with heap := h, toks := t0 + tk } := by
  subst hden
  intro n
  induction n with
  | zero => intro c dirs led al tk eqs k ω e; exact no (e stk0)
  | succ n ih =>
    intro c dirs led al tk eqs k ω e hv s h R D hsz hR
    have e2 : ∀ stk, run (A.under c) (some c) (codeTree K (denote table) A c dirs led eqs).1 ⟨(codeTree K (denote table) A c dirs led eqs).2.1, led, al, tk, (codeTree K (denote table) A c dirs led eqs).2.2, stk⟩ (goOn k fun c' st' => codeR K (denote table) run A n c' st' k) = some ω := e
    have hv2 : ∀ (r : Except Value Fin) (st' : RSt), goOn k (fun c' st' => codeR K (denote table) run A n c' st' k) r st' = some ω → ∀ x ∈ st'.eqs, x.1 = x.2 := by
      intro r st' e'
      cases r with
      | error e => exact hv _ _ e'
      | ok fin =>
        cases fin with
        | done f => exact hv _ _ e'
        | again c' => exact codeR_eqs heqs A n _ _ _ _ (gd_some e').2 hv
    have hvt := heqs _ _ _ _ _ _ (e2 stk0) hv2
    have key := hrun (A.under c) (some c) (codeTree K (denote table) A c dirs led eqs).1 _ led al tk _ _ ω e2 hv2 s h
      (fun fin s' => s'.heap.NoLimit ∧ match fin with | .done f => R (.ok f) s' | .again c' => c'.quiet = true ∧ codeAny (model prog w) A c' R s') (fun x s' => R (.error x) s') D hsz ?_
    · refine codeAny_of_own fun Γ p hc hΓ => ?_
      exact codeTree_sound (s := { s with heap := h, toks := t0 + tk }) hX hl hvt D key Γ p (fun c' e => by cases e; exact hc) (hc ▸ hΓ.in)
    · intro r dirs' led' al' tk' eqs' h' e' D' hsz'
      cases r with
      | error x => exact hR _ _ _ _ _ _ _ e' D' hsz'
      | ok fin =>
        cases fin with
        | done f => exact ⟨hl.keeps D'.keep, hR _ _ _ _ _ _ _ e' D' hsz'⟩
        | again c' =>
          exact ⟨hl.keeps D'.keep, (gd_some (e' stk0)).1, ih _ _ _ _ _ _ _ _ (fun stk => (gd_some (e' stk)).2) hv s h' R D' hsz' hR⟩

theorem runT_sound (hX : K.In g) (hl : g.NoLimit) {den : Code → Sem Fin} (hden : den = denote table) : ∀ n α A co (t : Sem α), SoundT prog w g n0 t0 (fun st (k : RC Om α) => runT K ⟨prog, w.params⟩ n0 t0 den n α A co t st k) A co t := by
  intro n
  induction n with
  | zero => intro α A co t dirs led al tk eqs k ω e; exact no (e stk0)
  | succ n ih =>
    intro α A co t dirs led al tk eqs k ω e hv s h Q E D hsz hE
    cases t with
    | pure a => exact fun Γ p hc hΓ => hE (.ok a) _ _ _ _ _ h e D hsz
    | raise x => exact fun Γ p hc hΓ => hE (.error x) _ _ _ _ _ h e D hsz
    | rule tag c => exact fun Γ p hc hΓ => ih _ _ _ _ _ _ _ _ _ k ω e hv s h Q E D hsz hE Γ p hc hΓ
    | «at» q c => exact fun Γ p hc hΓ => ih _ _ _ _ _ _ _ _ _ k ω e hv s h Q E D hsz hE Γ q hc hΓ
    | point l c => exact fun Γ p hc hΓ => ih _ _ _ _ _ _ _ _ _ k ω e hv s h Q E D hsz hE Γ p hc hΓ
    | ask c => exact fun Γ p hc hΓ => ih _ _ _ _ _ _ _ _ _ k ω e hv s h Q E D hsz hE Γ p hc hΓ
    | load a q c =>
      obtain ⟨p, hp, e0⟩ := bnd (e stk0)
      have e1 := fun stk => bnd_at hp (e stk)
      have z := ih _ _ _ _ _ _ _ _ _ k ω e1 hv s h Q E D hsz hE
      have ho := dirObj_get hX hp (runT_eqs _ _ _ _ _ _ _ _ e0 hv) D
      intro Γ p' hc hΓ
      show Sem.wp _ Γ (loadPart a q >>= c) _ _ p' _
      rw [Sem.wp_bind', Sem.wp_loadPart_of _ _ _ _ _ q ho]
      exact z Γ p' hc hΓ
    | loadIfAlive a c =>
      obtain ⟨p, hp, e0⟩ := bnd (e stk0)
      have e1 := fun stk => bnd_at hp (e stk)
      have z := ih _ _ _ _ _ _ _ _ _ k ω e1 hv s h Q E D hsz hE
      have ho := dirObj_get hX hp (runT_eqs _ _ _ _ _ _ _ _ e0 hv) D
      intro Γ p' hc hΓ
      have y := z Γ p' hc hΓ
      show Sem.wp _ Γ (c (h.get? a)) _ _ p' _
      rw [ho]
      exact y
    | alloc o c =>
      have D' := D.alloc (not_t (gd_some (e stk0)).1)
      rw [hsz] at D'
      have z := ih _ _ _ _ _ _ _ _ _ k ω (fun stk => (gd_some (e stk)).2) hv s (h.push o) Q E D' (by rw [Heap.size_push, hsz]; rfl) hE
      intro Γ p hc hΓ
      show Sem.wp _ Γ (c h.objs.size) _ _ p _
      rw [hsz]
      exact z Γ p hc hΓ
    | update a q f c =>
      obtain ⟨d, hd, e0⟩ := bnd (e stk0)
      obtain ⟨p, hj, e0⟩ := bnd e0
      obtain ⟨hf, e0⟩ := gd_some e0
      have ha : a = p.1 := runT_eqs _ _ _ _ _ _ _ _ e0 hv _ (List.mem_cons_self ..)
      subst ha
      have e1 := fun stk => bnd_at hd (e stk)
      have e2 := fun stk => bnd_at hj (e1 stk)
      have e3 := fun stk => (gd_some (e2 stk)).2
      have z := ih _ _ _ _ _ _ _ _ _ k ω e3 hv s _ Q E (D.update hj (not_t hf)) ((Heap.SameBut.update ..).1.trans hsz) hE
      intro Γ p' hc hΓ
      show Sem.wp _ Γ (updatePart _ q f >>= c) _ _ p' _
      rw [Sem.wp_bind', Sem.wp_cmd_updatePart]
      exact ⟨by rw [(D.own _ (List.mem_of_getElem? hj)).1]; rfl, z Γ p' hc hΓ⟩
    | fresh c => exact fun Γ p hc hΓ => ih _ _ _ _ _ _ _ _ _ k ω e hv s h Q E D hsz hE Γ p hc hΓ
    | handled own c =>
      have ho := not_t (gd_some (e stk0)).1
      subst ho
      have z := ih _ _ _ _ _ _ _ _ _ k ω e hv s h Q E D hsz hE
      intro Γ p hc hΓ
      show Sem.wp _ Γ (handled >>= c) _ _ p _
      rw [Sem.wp_bind', Sem.wp_cmd_handled, hΓ.1]
      exact z Γ p hc hΓ
    | stack c =>
      obtain ⟨cc, hcc', _⟩ := bnd (e stk0)
      subst hcc'
      intro Γ p hc hΓ
      have hcc := hc cc rfl
      have z := ih α A (some cc) (c ((cc, p) :: Γ.below)) dirs led al tk eqs k ω (fun stk => e (@Nat.rec (fun _ => Pos × List (Code × Pos)) (p, Γ.below) fun j _ => stk j)) hv s h Q E D hsz hE Γ p hc hΓ
      show Sem.wp _ Γ (c ((Γ.code, p) :: Γ.below)) _ _ p _
      rw [hcc]
      exact z
    | call c hd gd l c' =>
      have hnb : hd ≠ some byPass := by
        intro q
        subst q
        exact nob ((show okMk (some byPass) = false by decide).symm.trans (gd_some (e stk0)).1)
      intro Γ p hc hΓ
      have z := codeR_sound (prog := prog) (w := w) (g := g) (n0 := n0) (t0 := t0) hX hl hden (run := fun A' co' t' st' k' => runT K ⟨prog, w.params⟩ n0 t0 den n Fin A' co' t' st' k')
        (fun A co t st k ω => runT_eqs n Fin A co t st k ω) (fun A co t => ih Fin A co t) (A.mark hd) 64 c dirs led al tk eqs _ ω (fun stk => (gd_some (e stk)).2)
        (fun r st e' => runT_eqs n α A co _ _ _ _ e' hv) s h (fun r s' => wpC (model prog w) A co (c' r) Q E s') D hsz
        (fun r dirs led al tk eqs h' e' D' hsz' => ih _ _ _ _ _ _ _ _ _ k ω e' hv s h' Q E D' hsz' hE)
      exact wpCode_mono (fun _ _ q => q Γ p hc hΓ) (z _ p rfl (hΓ.enter c hd p hnb))
    | _ => exact no (e stk0)
end
end Mine

end

section
open PySem PySem.W PyProof.Rows PySem.Calls
set_option maxRecDepth 100000
namespace Mine
noncomputable abbrev st0 (dirs : List Dir) (led : List (Addr × Obj)) (stk : Nat → Pos × List (Code × Pos)) : RSt := ⟨dirs, led, 0, 0, [], stk⟩

theorem run_use {prog : Program} {w : World} {K : Frag} {g : Heap} {α Om : Type} {A : Around} {t : Sem α} {dirs : List Dir} {led : List (Addr × Obj)} {s : Shared} {Q : α → Shared → Prop} {E : Value → Shared → Prop} {n : Nat} {ω : Om}
    (hX : K.In g) (hl : g.NoLimit) (D : Hp g led s.heap) (proj : Except Value α → RSt → Option Om)
    (H : ∀ stk, runT K ⟨prog, w.params⟩ s.heap.objs.size s.toks denZ n α A none t (st0 dirs led stk) proj = some ω)
    (hv : ∀ r st', proj r st' = some ω → ∀ e ∈ st'.eqs, e.1 = e.2)
    (hQ : ∀ r st', proj r st' = some ω → ∀ h', Hp g st'.led h' → h'.objs.size = s.heap.objs.size + st'.al → match r with
      | .ok a => Q a { s with heap := h', toks := s.toks + st'.tk }
      | .error e => E e { s with heap := h', toks := s.toks + st'.tk }) :
    wpAny (model prog w) A t Q E s := by
  have z := runT_sound (prog := prog) (w := w) (n0 := s.heap.objs.size) (t0 := s.toks) hX hl denZ_eq n α A none t dirs led 0 0 [] proj ω H hv s s.heap Q E D rfl
    (fun r dirs' led' al' tk' eqs' h' e D' hsz' => hQ r ⟨dirs', led', al', tk', eqs', fun _ => (default, [])⟩ (e _) h' D' hsz')
  intro Γ p hΓ
  have y := z Γ p (fun c e => by cases e) hΓ
  simpa using y

noncomputable abbrev A0 : Around := { handled := none, depth := 500, frames := none, guards := none, units := 1000 }
noncomputable def Roomy (A : Around) : Prop := A.handled = none ∧ A.depth ≤ 500 ∧ A.units ≤ 1000
theorem wpAny_roomy {M : Model} {α : Type} {A : Around} {t : Sem α} {Q : α → Shared → Prop} {E : Value → Shared → Prop} {s : Shared} (hA : Roomy A) (h : wpAny M A0 t Q E s) : wpAny M A t Q E s :=
  fun Γ p hΓ => h Γ p ⟨hΓ.1.trans hA.1, Nat.le_trans hΓ.2.1 hA.2.1, fun _ e => (nomatch e), fun _ e => (nomatch e), Nat.le_trans hΓ.2.2.2.2 hA.2.2⟩
theorem eqs_of_maps {l : List (Addr × Addr)} (h : l.map (·.1) = l.map (·.2)) : ∀ e ∈ l, e.1 = e.2 := List.map_inj_left.mp h

theorem runK {prog : Program} {w : World} {K : Frag} {h₀ : Heap} {L : Addr} {m : Str → Option Value} {news led : List (Addr × Obj)} {α Om : Type} {A : Around} {t : Sem α} {dirs : List Dir} {s : Shared} {Q : α → Shared → Prop} {E : Value → Shared → Prop} {n : Nat} {ω : Om}
    (hA : Roomy A) (F : Fr h₀ L s.heap m) (N : News h₀ L s.heap news) (X : K.In h₀) (hl : h₀.NoLimit) (hsub : ∀ p ∈ led, p ∈ news) (hdist : (led.map (·.1)).Pairwise (· ≠ ·))
    (proj : Except Value α → RSt → Option Om)
    (H : ∀ stk, runT K ⟨prog, w.params⟩ s.heap.objs.size s.toks denZ n α A0 none t (st0 dirs led stk) proj = some ω)
    (hv : ∀ r st', proj r st' = some ω → st'.eqs.map (·.1) = st'.eqs.map (·.2))
    (hQ : ∀ r st', proj r st' = some ω → ∀ h', Fr h₀ L h' m → (∀ news', (∀ p ∈ news', p ∈ st'.led ∨ (p ∈ news ∧ p.1 ∉ led.map (·.1))) → News h₀ L h' news') → h'.objs.size = s.heap.objs.size + st'.al → match r with
      | .ok a => Q a { s with heap := h', toks := s.toks + st'.tk }
      | .error e => E e { s with heap := h', toks := s.toks + st'.tk }) :
    wpAny (model prog w) A t Q E s := by
  have nm : ∀ b o, h₀.get? b = some o → b ∉ led.map (·.1) := fun b o e q => by
    obtain ⟨p, hp, rfl⟩ := List.mem_map.mp q
    rw [(N p (hsub p hp)).2.2] at e; cases e
  have nL : L ∉ led.map (·.1) := fun q => by
    obtain ⟨p, hp, e⟩ := List.mem_map.mp q
    exact (N p (hsub p hp)).2.1 e
  have st : ∀ b o, h₀.get? b = some o → (hideAll s.heap (led.map (·.1))).get? b = some o := fun b o e => hideAll_get _ (F.keep b o e) (nm b o e)
  obtain ⟨oL, es, ep, hL, hLd, hLk, hLf⟩ := F.ns
  have hLg := hideAll_get (led.map (·.1)) hL nL
  refine wpAny_roomy hA (run_use (X.keeps st) (hl.keeps st) ⟨fun b o e => of_hideAll _ e, fun p hp => ⟨(N p (hsub p hp)).1, hideAll_none _ (List.mem_map_of_mem hp)⟩, hdist, Nat.le_of_eq (hideAll_size _ _)⟩ proj H (fun r st' e => eqs_of_maps (hv r st' e)) fun r st' e h' D hsz => ?_)
  refine hQ r st' e h' ⟨⟨oL, es, ep, D.keep _ _ hLg, hLd, hLk, hLf⟩, fun b o e => D.keep _ _ (st b o e), F.above⟩ (fun news' hn p hp => ?_) hsz
  rcases hn p hp with h1 | ⟨h1, h2⟩
  · refine ⟨(D.own p h1).1, fun q => ?_, ?_⟩
    · have := (D.own p h1).2; rw [q, hLg] at this; cases this
    · cases q : h₀.get? p.1 with
      | none => rfl
      | some o => have := (D.own p h1).2; rw [st _ _ q] at this; cases this
  · exact ⟨D.keep _ _ (hideAll_get _ (N p h1).1 h2), (N p h1).2⟩
end Mine

end

section
open PySem PySem.W PyProof.Rows PySem.Calls
set_option maxRecDepth 100000
namespace Mine
noncomputable abbrev Ans (α : Type) := Except Value α × List (Addr × Obj) × Nat × Nat × List Addr × List Addr
noncomputable def prI {α : Type} (is : List Nat) (r : Except Value α) (st : RSt) : Option (Ans α) := some (r, is.filterMap (fun i => st.led[i]?), st.al, st.tk, st.eqs.map (·.1), st.eqs.map (·.2))

theorem runI {prog : Program} {w : World} {K : Frag} {h₀ : Heap} {L : Addr} {m : Str → Option Value} {news led : List (Addr × Obj)} {led' : Nat → Nat → List (Addr × Obj)} {α : Type} {A : Around} {t : Sem α} {dirs : List Dir} {s : Shared} {Q : α → Shared → Prop} {E : Value → Shared → Prop} {n : Nat} {is : List Nat} {a : Nat → Nat → α} {al tk : Nat} {e : Nat → Nat → List Addr}
    (hA : Roomy A) (F : Fr h₀ L s.heap m) (N : News h₀ L s.heap news) (X : K.In h₀) (hl : h₀.NoLimit) (hsub : ∀ p ∈ led, p ∈ news) (hdist : (led.map (·.1)).Pairwise (· ≠ ·))
    (H : ∀ n0 t0 stk, runT K ⟨prog, w.params⟩ n0 t0 denZ n α A0 none t (st0 dirs led stk) (prI is) = some (.ok (a n0 t0), led' n0 t0, al, tk, e n0 t0, e n0 t0))
    (hQ : ∀ (n0 : Nat) h', Fr h₀ L h' m → (∀ p ∈ news, Nat.lt p.1 n0) → Nat.lt L n0 → (∀ news', (∀ p ∈ news', p ∈ led' n0 s.toks ∨ (p ∈ news ∧ p.1 ∉ led.map (·.1))) → News h₀ L h' news') → h'.objs.size = n0 + al → Q (a n0 s.toks) { s with heap := h', toks := s.toks + tk }) :
    wpAny (model prog w) A t Q E s := by
  refine runK hA F N X hl hsub hdist (prI is) (H _ _) (fun r st' h => ?_) (fun r st' h h' F' N' hs => ?_)
  · simp only [prI, Option.some.injEq, Prod.mk.injEq] at h
    rw [h.2.2.2.2.1, h.2.2.2.2.2]
  · simp only [prI, Option.some.injEq, Prod.mk.injEq] at h
    obtain ⟨rfl, h2, h3, h4, _⟩ := h
    rw [h4]
    obtain ⟨oL, es, ep, hL, _⟩ := F.ns
    refine hQ s.heap.objs.size h' F' (fun p hp => Heap.lt_size (N p hp).1) (Heap.lt_size hL) (fun news' hn => N' news' fun p hp => ?_) (by rw [hs, h3])
    rcases hn p hp with q | q
    · rw [← h2] at q
      obtain ⟨i, hi, hp⟩ := List.mem_filterMap.mp q
      exact .inl (List.mem_of_getElem? hp)
    · exact .inr q
theorem sub_nil {news : List (Addr × Obj)} : ∀ p ∈ ([] : List (Addr × Obj)), p ∈ news := fun _ h => nomatch h
theorem sub_cons {a : Addr × Obj} {l news : List (Addr × Obj)} (h : a ∈ news) (hl : ∀ p ∈ l, p ∈ news) : ∀ p ∈ a :: l, p ∈ news := fun p hp => by
  rcases List.mem_cons.mp hp with rfl | hp
  · exact h
  · exact hl p hp
theorem al_nil {P : Addr × Obj → Prop} : ∀ p ∈ ([] : List (Addr × Obj)), P p := fun _ h => nomatch h
theorem al_cons {P : Addr × Obj → Prop} {a : Addr × Obj} {l : List (Addr × Obj)} (h : P a) (hl : ∀ p ∈ l, P p) : ∀ p ∈ a :: l, P p := fun p hp => by
  rcases List.mem_cons.mp hp with rfl | hp
  · exact h
  · exact hl p hp
theorem runS {prog : Program} {w : World} {K : Frag} {led' : Nat → Nat → List (Addr × Obj)} {α : Type} {A : Around} {t : Sem α} {dirs : List Dir} {s : Shared} {Q : α → Shared → Prop} {E : Value → Shared → Prop} {n : Nat} {is : List Nat} {a : Nat → Nat → α} {al tk : Nat} {e : Nat → Nat → List Addr}
    (hA : Roomy A) (X : K.In s.heap) (hl : s.heap.NoLimit)
    (H : ∀ n0 t0 stk, runT K ⟨prog, w.params⟩ n0 t0 denZ n α A0 none t (st0 dirs [] stk) (prI is) = some (.ok (a n0 t0), led' n0 t0, al, tk, e n0 t0, e n0 t0))
    (hQ : ∀ h', (∀ b o, s.heap.get? b = some o → h'.get? b = some o) → (∀ p ∈ led' s.heap.objs.size s.toks, h'.get? p.1 = some p.2 ∧ s.heap.get? p.1 = none) → h'.objs.size = s.heap.objs.size + al → Q (a s.heap.objs.size s.toks) { s with heap := h', toks := s.toks + tk }) :
    wpAny (model prog w) A t Q E s := by
  refine wpAny_roomy hA (run_use X hl ⟨fun b o e => e, al_nil, List.Pairwise.nil, Nat.le_refl _⟩ (prI is) (H _ _) (fun r st' h => eqs_of_maps ?_) fun r st' h h' D hs => ?_)
  · simp only [prI, Option.some.injEq, Prod.mk.injEq] at h
    rw [h.2.2.2.2.1, h.2.2.2.2.2]
  · simp only [prI, Option.some.injEq, Prod.mk.injEq] at h
    obtain ⟨rfl, h2, h3, h4, _⟩ := h
    rw [h4]
    refine hQ h' D.keep (fun p hp => ?_) (by rw [hs, h3])
    rw [← h2] at hp
    obtain ⟨i, hi, hp⟩ := List.mem_filterMap.mp hp
    exact D.own p (List.mem_of_getElem? hp)
end Mine

end

section
open PySem PySem.W PyProof.Rows PySem.Calls
set_option maxRecDepth 100000
namespace Mine
theorem runG {prog : Program} {w : World} {K : Frag} {g : Heap} {led : List (Addr × Obj)} {led' : Nat → Nat → List (Addr × Obj)} {α : Type} {A : Around} {t : Sem α} {dirs : List Dir} {s : Shared} {Q : α → Shared → Prop} {E : Value → Shared → Prop} {n : Nat} {is : List Nat} {a : Nat → Nat → α} {al tk : Nat} {e : Nat → Nat → List Addr}
    (hA : Roomy A) (X : K.In g) (hl : g.NoLimit) (hk : ∀ b o, g.get? b = some o → s.heap.get? b = some o) (hled : ∀ p ∈ led, s.heap.get? p.1 = some p.2 ∧ g.get? p.1 = none) (hdist : (led.map (·.1)).Pairwise (· ≠ ·))
    (H : ∀ n0 t0 stk, runT K ⟨prog, w.params⟩ n0 t0 denZ n α A0 none t (st0 dirs led stk) (prI is) = some (.ok (a n0 t0), led' n0 t0, al, tk, e n0 t0, e n0 t0))
    (hQ : ∀ h', (∀ b o, b ∉ led.map (·.1) → s.heap.get? b = some o → h'.get? b = some o) → (∀ p ∈ led' s.heap.objs.size s.toks, h'.get? p.1 = some p.2 ∧ (p.1 ∈ led.map (·.1) ∨ s.heap.get? p.1 = none)) → h'.objs.size = s.heap.objs.size + al → Q (a s.heap.objs.size s.toks) { s with heap := h', toks := s.toks + tk }) :
    wpAny (model prog w) A t Q E s := by
  have st : ∀ b o, g.get? b = some o → (hideAll s.heap (led.map (·.1))).get? b = some o := fun b o e => hideAll_get _ (hk b o e) fun q => by
    obtain ⟨p, hp, rfl⟩ := List.mem_map.mp q
    rw [(hled p hp).2] at e; cases e
  refine wpAny_roomy hA (run_use (X.keeps st) (hl.keeps st) ⟨fun b o e => of_hideAll _ e, fun p hp => ⟨(hled p hp).1, hideAll_none _ (List.mem_map_of_mem hp)⟩, hdist, Nat.le_of_eq (hideAll_size _ _)⟩ (prI is) (H _ _) (fun r st' h => eqs_of_maps ?_) fun r st' h h' D hs => ?_)
  · simp only [prI, Option.some.injEq, Prod.mk.injEq] at h
    rw [h.2.2.2.2.1, h.2.2.2.2.2]
  · simp only [prI, Option.some.injEq, Prod.mk.injEq] at h
    obtain ⟨rfl, h2, h3, h4, _⟩ := h
    rw [h4]
    refine hQ h' (fun b o hb e => D.keep _ _ (hideAll_get _ e hb)) (fun p hp => ?_) (by rw [hs, h3])
    rw [← h2] at hp
    obtain ⟨i, hi, hp⟩ := List.mem_filterMap.mp hp
    have z := D.own p (List.mem_of_getElem? hp)
    refine ⟨z.1, ?_⟩
    by_cases hm : p.1 ∈ led.map (·.1)
    · exact .inl hm
    · refine .inr ?_
      cases q : s.heap.get? p.1 with
      | none => rfl
      | some o => have := hideAll_get _ q hm; rw [z.2] at this; cases this
theorem runRd {prog : Program} {w : World} {K : Frag} {g : Heap} {led : List (Addr × Obj)} {α : Type} {A : Around} {t : Sem α} {dirs : List Dir} {s : Shared} {Q : α → Shared → Prop} {E : Value → Shared → Prop} {n : Nat} {is : List Nat} {a : Nat → Nat → α} {al tk : Nat} {e : Nat → Nat → List Addr}
    (hA : Roomy A) (X : K.In g) (hl : g.NoLimit) (hk : ∀ b o, g.get? b = some o → s.heap.get? b = some o) (hled : ∀ p ∈ led, s.heap.get? p.1 = some p.2 ∧ g.get? p.1 = none) (hdist : (led.map (·.1)).Pairwise (· ≠ ·))
    (H : ∀ n0 t0 stk, runT K ⟨prog, w.params⟩ n0 t0 denZ n α A0 none t (st0 dirs led stk) (prI is) = some (.ok (a n0 t0), led, al, tk, e n0 t0, e n0 t0))
    (hQ : ∀ h', (∀ b o, s.heap.get? b = some o → h'.get? b = some o) → h'.objs.size = s.heap.objs.size + al → Q (a s.heap.objs.size s.toks) { s with heap := h', toks := s.toks + tk }) :
    wpAny (model prog w) A t Q E s := by
  refine runG (led' := fun _ _ => led) hA X hl hk hled hdist H fun h' k1 k2 hs => hQ h' (fun b o e => ?_) hs
  by_cases hm : b ∈ led.map (·.1)
  · obtain ⟨p, hp, rfl⟩ := List.mem_map.mp hm
    rw [(hled p hp).1] at e
    cases e
    exact (k2 p hp).1
  · exact k1 b o hm e
theorem wpAny_top {M : Model} {α : Type} {A : Around} {t : Sem α} {Q : α → Shared → Prop} {E : Value → Shared → Prop} {s : Shared} (hA : A.handled = none) (h : ∀ gd outer, wpAny M (topA A.depth A.units gd outer) t Q E s) : wpAny M A t Q E s :=
  fun Γ p hΓ => h none (Γ.code.envs ++ envsOf Γ.below) Γ p ⟨hΓ.1.trans hA, hΓ.2.1, fun l e => Option.some.inj e, fun _ e => (nomatch e), hΓ.2.2.2.2⟩
end Mine

end

section
open PySem PySem.W PyProof.Rows PySem.Calls
set_option maxRecDepth 100000
namespace Mine
noncomputable def prX {α β : Type} (f : Except Value α → List (Addr × Obj) → Option β) (r : Except Value α) (st : RSt) : Option (β × Nat × Nat × List Addr × List Addr) := (f r st.led).map fun b => (b, st.al, st.tk, st.eqs.map (·.1), st.eqs.map (·.2))
theorem runX {prog : Program} {w : World} {K : Frag} {g : Heap} {led : List (Addr × Obj)} {α β : Type} {A : Around} {t : Sem α} {dirs : List Dir} {s : Shared} {Q : α → Shared → Prop} {E : Value → Shared → Prop} {n : Nat} {f : Except Value α → List (Addr × Obj) → Option β} {a : Nat → Nat → β} {al tk : Nat} {e : Nat → Nat → List Addr}
    (hA : Roomy A) (X : K.In g) (hl : g.NoLimit) (hk : ∀ b o, g.get? b = some o → s.heap.get? b = some o) (hled : ∀ p ∈ led, s.heap.get? p.1 = some p.2 ∧ g.get? p.1 = none) (hdist : (led.map (·.1)).Pairwise (· ≠ ·))
    (H : ∀ n0 t0 stk, runT K ⟨prog, w.params⟩ n0 t0 denZ n α A0 none t (st0 dirs led stk) (prX f) = some (a n0 t0, al, tk, e n0 t0, e n0 t0))
    (hQ : ∀ h' r led', f r led' = some (a s.heap.objs.size s.toks) → (∀ b o, b ∉ led.map (·.1) → s.heap.get? b = some o → h'.get? b = some o) → (∀ p ∈ led', h'.get? p.1 = some p.2 ∧ (p.1 ∈ led.map (·.1) ∨ s.heap.get? p.1 = none)) → h'.objs.size = s.heap.objs.size + al → match r with
      | .ok v => Q v { s with heap := h', toks := s.toks + tk }
      | .error e => E e { s with heap := h', toks := s.toks + tk }) :
    wpAny (model prog w) A t Q E s := by
  have st : ∀ b o, g.get? b = some o → (hideAll s.heap (led.map (·.1))).get? b = some o := fun b o e => hideAll_get _ (hk b o e) fun q => by
    obtain ⟨p, hp, rfl⟩ := List.mem_map.mp q
    rw [(hled p hp).2] at e; cases e
  refine wpAny_roomy hA (run_use (X.keeps st) (hl.keeps st) ⟨fun b o e => of_hideAll _ e, fun p hp => ⟨(hled p hp).1, hideAll_none _ (List.mem_map_of_mem hp)⟩, hdist, Nat.le_of_eq (hideAll_size _ _)⟩ (prX f) (H _ _) (fun r st' h => eqs_of_maps ?_) fun r st' h h' D hs => ?_)
  · obtain ⟨b, _, e⟩ := Option.map_eq_some_iff.mp h
    simp only [Prod.mk.injEq] at e
    rw [e.2.2.2.1, e.2.2.2.2]
  · obtain ⟨b, h1, e⟩ := Option.map_eq_some_iff.mp h
    simp only [Prod.mk.injEq] at e
    obtain ⟨rfl, h3, h4, _⟩ := e
    rw [h4]
    refine hQ h' r st'.led h1 (fun b o hb e => D.keep _ _ (hideAll_get _ e hb)) (fun p hp => ?_) (by rw [hs, h3])
    have z := D.own p hp
    refine ⟨z.1, ?_⟩
    by_cases hm : p.1 ∈ led.map (·.1)
    · exact .inl hm
    · refine .inr ?_
      cases q : s.heap.get? p.1 with
      | none => rfl
      | some o => have := hideAll_get _ q hm; rw [z.2] at this; cases this
end Mine

end

section
open PySem PySem.W PyProof.Rows PySem.Calls
set_option maxRecDepth 100000
namespace Mine
theorem runRn {prog : Program} {w : World} {K : Frag} {g : Heap} {led : List (Addr × Obj)} {news : Nat → Nat → List (Addr × Obj)} {α : Type} {A : Around} {t : Sem α} {dirs : List Dir} {s : Shared} {Q : α → Shared → Prop} {E : Value → Shared → Prop} {n : Nat} {is : List Nat} {a : Nat → Nat → α} {al tk : Nat} {e : Nat → Nat → List Addr}
    (hA : Roomy A) (X : K.In g) (hl : g.NoLimit) (hk : ∀ b o, g.get? b = some o → s.heap.get? b = some o) (hled : ∀ p ∈ led, s.heap.get? p.1 = some p.2 ∧ g.get? p.1 = none) (hdist : (led.map (·.1)).Pairwise (· ≠ ·))
    (H : ∀ n0 t0 stk, runT K ⟨prog, w.params⟩ n0 t0 denZ n α A0 none t (st0 dirs led stk) (prI is) = some (.ok (a n0 t0), led ++ news n0 t0, al, tk, e n0 t0, e n0 t0))
    (hn : ∀ n0 t0, ∀ p ∈ news n0 t0, n0 ≤ p.1)
    (hQ : ∀ h', (∀ b o, s.heap.get? b = some o → h'.get? b = some o) → (∀ p ∈ news s.heap.objs.size s.toks, h'.get? p.1 = some p.2 ∧ s.heap.get? p.1 = none) → h'.objs.size = s.heap.objs.size + al → Q (a s.heap.objs.size s.toks) { s with heap := h', toks := s.toks + tk }) :
    wpAny (model prog w) A t Q E s := by
  refine runG (led' := fun n0 t0 => led ++ news n0 t0) hA X hl hk hled hdist H fun h' k1 k2 hs => hQ h' (fun b o e => ?_) (fun p hp => ⟨(k2 p (List.mem_append_right _ hp)).1, ?_⟩) hs
  · by_cases hm : b ∈ led.map (·.1)
    · obtain ⟨p, hp, rfl⟩ := List.mem_map.mp hm
      rw [(hled p hp).1] at e
      cases e
      exact (k2 p (List.mem_append_left _ hp)).1
    · exact k1 b o hm e
  · cases q : s.heap.get? p.1 with
    | none => rfl
    | some o => exact absurd (Nat.lt_of_lt_of_le (Heap.lt_size q) (hn _ _ p hp)) (Nat.lt_irrefl _)
end Mine

end

section
open PySem PySem.W PyProof.Rows PySem.Calls
namespace Mine
noncomputable def K2 (P : Params) : Frag := Mine.hK P
noncomputable abbrev accO (d : Addr) (its : Array Value) (n : Nat) : Obj := ⟨.ref 148, some d, .seq its n, #[]⟩
noncomputable abbrev sizD (w : World) (m : Int) (t t2 : Tok) : Obj := dictOf [⟨PyData.keyHash w.params "_initial_size", .str "_initial_size" t, .int m t2⟩] 1
noncomputable abbrev S2 (w : World) : Setting := ⟨PySem.Challenge.rw_rs0050_02.row.prog, w.params⟩
end Mine

end

section
open PySem PySem.W PyProof.Rows PySem.Calls
set_option maxRecDepth 100000
namespace Mine
theorem K1_of_K2 {P : Params} {h : Heap} (X : (K2 P).In h) : (Mine.hK P).In h := X
end Mine

end

section
open PySem PySem.W PyProof.Rows PySem.Calls
set_option maxRecDepth 100000
namespace Mine
noncomputable abbrev tup2 (a b : Value) : Obj := { cls := .type "tuple", data := .seq #[a, b] 0 }
end Mine

end

section
open PySem PySem.W PyProof.Rows PySem.Calls
set_option maxRecDepth 100000
namespace Mine
theorem setsize_run (w : World) (stk : Nat → Pos × List (Code × Pos)) (n0 t0 : Nat) (x d : Addr) (m : Int) (t : Tok) :
   runT (K2 w.params) (S2 w) n0 t0 denZ 2000 Unit A0 none (PySem.W.ZFast.zw4178937747021576048 (.ref x) (Str.ofString "_initial_size") (.int m t))
     (st0 [.l 0, .k, .k, .k, .l 0, .k, .l 0, .k, .l 0, .k, .k, .k, .l 0, .k, .l 1, .l 1, .l 1] [(x, accO d #[] 0), (d, dictOf [] 0)] stk)
     (fun r st => some (r, st.led, st.al, st.tk, st.eqs.map (·.1), st.eqs.map (·.2)))
   = some (.ok (), [(x, accO d #[] 0), (d, dictOf [⟨PySem.W.ZFast.zw12210062019545310541 (w.params.strHash (Str.ofString "_initial_size").cps), .str "_initial_size" (t0 + 1), .int m t⟩] 1)], 0, 2, [d, d, d, x, x, x, x, x], [d, d, d, x, x, x, x, x]) := by
  kernel_rfl

theorem setsize_K {prog : Program} {w : World} {h₀ : Heap} {L x d : Addr} {m : Str → Option Value} {rest : List (Addr × Obj)} {A : Around} {s : Shared} {Q : Unit → Shared → Prop} {E : Value → Shared → Prop} {i : Int} {t : Tok}
    (hp : prog = PySem.Challenge.rw_rs0050_02.row.prog) (hA : Roomy A) (F : Fr h₀ L s.heap m) (N : News h₀ L s.heap ((x, accO d #[] 0) :: (d, dictOf [] 0) :: rest)) (X : (K2 w.params).In h₀) (hl : h₀.NoLimit) (hne : x ≠ d)
    (hr : ∀ p ∈ rest, p.1 ≠ x ∧ p.1 ≠ d)
    (hQ : ∀ h' tk, Fr h₀ L h' m → News h₀ L h' ((x, accO d #[] 0) :: (d, sizD w i tk t) :: rest) → s.heap.objs.size ≤ h'.objs.size → Q () { s with heap := h', toks := s.toks + 2 }) :
    wpAny (model prog w) A (setAttr (.ref x) (Str.ofString "_initial_size") (.int i t)) Q E s := by
  subst hp
  rw [show setAttr = _ from PySem.W.ZFast.ze4178937747021576048]
  refine runK (n := 2000) (led := [(x, accO d #[] 0), (d, dictOf [] 0)]) hA F N X hl (fun p hp => ?_) (by simp [hne]) _ (fun stk => setsize_run w stk _ _ x d i t) (fun r st' e => ?_) (fun r st' e h' F' N' hs => ?_)
  · rcases List.mem_cons.mp hp with rfl | hp
    · exact .head _
    · rw [List.mem_singleton.mp hp]; exact .tail _ (.head _)
  · simp only [Option.some.injEq, Prod.mk.injEq] at e
    rw [e.2.2.2.2.1, e.2.2.2.2.2]
  · simp only [Option.some.injEq, Prod.mk.injEq] at e
    obtain ⟨rfl, e2, e3, e4, _⟩ := e
    rw [e4]
    refine hQ h' (s.toks + 1) F' (N' ((x, accO d #[] 0) :: (d, sizD w i (s.toks + 1) t) :: rest) (fun p hp => ?_)) (by omega)
    rw [e2]
    rw [← show reduceHash = _ from PySem.W.ZFast.ze12210062019545310541]
    rcases List.mem_cons.mp hp with rfl | hp
    · exact .inl (.head _)
    · rcases List.mem_cons.mp hp with rfl | hp
      · exact .inl (.tail _ (.head _))
      · refine .inr ⟨.tail _ (.tail _ hp), ?_⟩
        simp [hr p hp]
end Mine

end

section
open PySem PySem.W PyProof.Rows PySem.Calls
set_option maxRecDepth 100000
namespace Mine
noncomputable abbrev mwO (x : Addr) : Obj := { cls := .type "method-wrapper", data := .fields #[.builtin "list.__init__", .ref x] }
theorem superm_run (w : World) (stk : Nat → Pos × List (Code × Pos)) (n0 t0 : Nat) (y d so : Addr) (pl : Sem Bool) :
   runT (K2 w.params) (S2 w) n0 t0 denZ 2000 (Value × List Value) A0 none (PySem.W.ZFast.zw6042679816869820781 (.ref so) (Str.ofString "__init__") pl)
     (st0 [.l 0, .l 0, .l 0, .l 0, .l 0, .l 0, .k, .k, .l 1, .k] [(so, ks_superObj 148 (y+185) 148), (y+185, accO d #[] 0)] stk) (prI [1, 2])
   = some (.ok (.ref n0, []), [(y+185, accO d #[] 0), (n0, mwO (y+185))], 1, 1, [y+185, so, so, so, so, so, so], [y+185, so, so, so, so, so, so]) := by
  kernel_rfl
theorem linit_run (w : World) (stk : Nat → Pos × List (Code × Pos)) (n0 t0 : Nat) (x d q : Addr) (pos : Pos) (env : Env) :
   runT (K2 w.params) (S2 w) n0 t0 denZ 2000 Value A0 none (callWith pos (.ref q) [] (backTo pos (starEach [] env)) [])
     (st0 [.l 0, .l 0, .l 1, .l 1, .l 1, .l 1] [(q, mwO x), (x, accO d #[] 0)] stk) (prI [1])
   = some (.ok .none, [(x, accO d #[] 0)], 0, 0, [x, x, x, x, q, q], [x, x, x, x, q, q]) := by
  kernel_rfl
theorem ne_gt {a b : Nat} (h : b < a) : ¬ a = b := Nat.ne_of_gt h
theorem ne_lt {a b : Nat} (h : a < b) : ¬ a = b := Nat.ne_of_lt h
end Mine

end

section
open PySem PySem.W PyProof.Rows PySem.Calls
set_option maxRecDepth 100000
namespace Mine
theorem anew_run (w : World) (stk : Nat → Pos × List (Code × Pos)) (n0 t0 : Nat) (i : Int) (t : Tok) :
   runT (K2 w.params) (S2 w) n0 t0 denZ 2000 Value A0 none (call (.builtin "list.__new__") [.ref 148, .int i t])
     (st0 [.k, .k, .k, .k, .k, .k, .k, .k, .k, .k] [] stk) (prI [0, 1])
   = some (.ok (.ref (n0 + 1)), [(n0, dictOf [] 0), (n0 + 1, accO n0 #[] 0)], 2, 0, [], []) := by
  kernel_rfl
theorem amade_run (w : World) (stk : Nat → Pos × List (Code × Pos)) (n0 t0 : Nat) :
   runT (K2 w.params) (S2 w) n0 t0 denZ 2000 (Option String) A0 none (Bind.madeBy (.ref 148)) (st0 [.k, .k] [] stk) (prI [])
   = some (.ok (some "list.__new__"), [], 0, 0, [], []) := by
  kernel_rfl
theorem a148 {P : Params} {h : Heap} (X : (K2 P).In h) : ∃ oc od cd sl, h.get? 148 = some ⟨oc, od, .cls cd, sl⟩ ∧ cd.mro = [.ref 148, .type "list", .type "object"] := by
  have e : (clsIn (K2 P) 148).map (·.mro) = some [.ref 148, .type "list", .type "object"] := by kernel_rfl
  obtain ⟨cd, hc, hm⟩ := Option.map_eq_some_iff.mp e
  unfold clsIn at hc
  split at hc
  · rename_i c d cd' sl ho
    cases hc
    exact ⟨_, _, _, _, X _ _ ho, hm⟩
  · cases hc
theorem under_tc {dp un : Nat} {gd : Option (List Code)} {outer : List Env} {C : Addr} {vals : List Value} : (topA dp un gd outer).under (.builtin "type.__call__" ⟨.ref C :: vals, []⟩) = topA (dp + 1) (un + 1) (pushGuards (Code.guards (.builtin "type.__call__" ⟨.ref C :: vals, []⟩)) gd) outer := rfl
theorem a184 {P : Params} {h : Heap} (X : (K2 P).In h) : 184 < h.objs.size := by
  have e : ((K2 P).lookup 184).isSome = true := by kernel_rfl
  obtain ⟨o, ho⟩ := Option.isSome_iff_exists.mp e
  exact Heap.lt_size (X _ _ ho)
end Mine

end

section
open PySem PySem.W PyProof.Rows PySem.Calls
set_option maxRecDepth 100000
namespace Mine
end Mine

end

section
open PySem PySem.W PyProof.Rows PySem.Calls
set_option maxRecDepth 100000
namespace Mine
noncomputable abbrev slO (v : Value) : Obj := { cls := .type "slice", data := .fields #[v, .none, .none] }
theorem slice_run_0_1 (w : World) (stk : Nat → Pos × List (Code × Pos)) (n0 t0 : Nat) (x d sl : Addr) (t : Tok) (v0 : Value) (ep : Nat) (p1 p2 p3 : Pos) :
   runT (K2 w.params) (S2 w) n0 t0 denZ 2000 Value A0 none (subscriptTail (.Name (Str.ofString "self") p1) (.Slice (some (.Name (Str.ofString "i") p2)) none none p3) (.ref x) (.ref sl))
     (st0 [.l 0, .k, .k, .k, .l 0, .k, .l 0, .k, .k, .k, .l 0, .k, .l 1, .l 1, .l 1, .l 1, .l 1, .l 0] [(x, accO d [v0].toArray ep), (sl, slO (.int 0 t))] stk) (prI [0, 1, 2])
   = some (.ok (.ref n0), [(x, accO d [v0].toArray ep), (sl, slO (.int 0 t)), (n0, W.listOf [v0].toArray 0)], 1, 0, [x, sl, sl, sl, sl, sl, x, x, x, x], [x, sl, sl, sl, sl, sl, x, x, x, x]) := by
  kernel_rfl
theorem slice_run_0_2 (w : World) (stk : Nat → Pos × List (Code × Pos)) (n0 t0 : Nat) (x d sl : Addr) (t : Tok) (v0 v1 : Value) (ep : Nat) (p1 p2 p3 : Pos) :
   runT (K2 w.params) (S2 w) n0 t0 denZ 2000 Value A0 none (subscriptTail (.Name (Str.ofString "self") p1) (.Slice (some (.Name (Str.ofString "i") p2)) none none p3) (.ref x) (.ref sl))
     (st0 [.l 0, .k, .k, .k, .l 0, .k, .l 0, .k, .k, .k, .l 0, .k, .l 1, .l 1, .l 1, .l 1, .l 1, .l 0] [(x, accO d [v0, v1].toArray ep), (sl, slO (.int 0 t))] stk) (prI [0, 1, 2])
   = some (.ok (.ref n0), [(x, accO d [v0, v1].toArray ep), (sl, slO (.int 0 t)), (n0, W.listOf [v0, v1].toArray 0)], 1, 0, [x, sl, sl, sl, sl, sl, x, x, x, x], [x, sl, sl, sl, sl, sl, x, x, x, x]) := by
  kernel_rfl
theorem slice_run_1_2 (w : World) (stk : Nat → Pos × List (Code × Pos)) (n0 t0 : Nat) (x d sl : Addr) (t : Tok) (v0 v1 : Value) (ep : Nat) (p1 p2 p3 : Pos) :
   runT (K2 w.params) (S2 w) n0 t0 denZ 2000 Value A0 none (subscriptTail (.Name (Str.ofString "self") p1) (.Slice (some (.Name (Str.ofString "i") p2)) none none p3) (.ref x) (.ref sl))
     (st0 [.l 0, .k, .k, .k, .l 0, .k, .l 0, .k, .k, .k, .l 0, .k, .l 1, .l 1, .l 1, .l 1, .l 1, .l 0] [(x, accO d [v0, v1].toArray ep), (sl, slO (.int 1 t))] stk) (prI [0, 1, 2])
   = some (.ok (.ref n0), [(x, accO d [v0, v1].toArray ep), (sl, slO (.int 1 t)), (n0, W.listOf [v1].toArray 0)], 1, 0, [x, sl, sl, sl, sl, sl, x, x, x, x], [x, sl, sl, sl, sl, sl, x, x, x, x]) := by
  kernel_rfl
theorem slice_run_0_3 (w : World) (stk : Nat → Pos × List (Code × Pos)) (n0 t0 : Nat) (x d sl : Addr) (t : Tok) (v0 v1 v2 : Value) (ep : Nat) (p1 p2 p3 : Pos) :
   runT (K2 w.params) (S2 w) n0 t0 denZ 2000 Value A0 none (subscriptTail (.Name (Str.ofString "self") p1) (.Slice (some (.Name (Str.ofString "i") p2)) none none p3) (.ref x) (.ref sl))
     (st0 [.l 0, .k, .k, .k, .l 0, .k, .l 0, .k, .k, .k, .l 0, .k, .l 1, .l 1, .l 1, .l 1, .l 1, .l 0] [(x, accO d [v0, v1, v2].toArray ep), (sl, slO (.int 0 t))] stk) (prI [0, 1, 2])
   = some (.ok (.ref n0), [(x, accO d [v0, v1, v2].toArray ep), (sl, slO (.int 0 t)), (n0, W.listOf [v0, v1, v2].toArray 0)], 1, 0, [x, sl, sl, sl, sl, sl, x, x, x, x], [x, sl, sl, sl, sl, sl, x, x, x, x]) := by
  kernel_rfl
theorem slice_run_1_3 (w : World) (stk : Nat → Pos × List (Code × Pos)) (n0 t0 : Nat) (x d sl : Addr) (t : Tok) (v0 v1 v2 : Value) (ep : Nat) (p1 p2 p3 : Pos) :
   runT (K2 w.params) (S2 w) n0 t0 denZ 2000 Value A0 none (subscriptTail (.Name (Str.ofString "self") p1) (.Slice (some (.Name (Str.ofString "i") p2)) none none p3) (.ref x) (.ref sl))
     (st0 [.l 0, .k, .k, .k, .l 0, .k, .l 0, .k, .k, .k, .l 0, .k, .l 1, .l 1, .l 1, .l 1, .l 1, .l 0] [(x, accO d [v0, v1, v2].toArray ep), (sl, slO (.int 1 t))] stk) (prI [0, 1, 2])
   = some (.ok (.ref n0), [(x, accO d [v0, v1, v2].toArray ep), (sl, slO (.int 1 t)), (n0, W.listOf [v1, v2].toArray 0)], 1, 0, [x, sl, sl, sl, sl, sl, x, x, x, x], [x, sl, sl, sl, sl, sl, x, x, x, x]) := by
  kernel_rfl
theorem slice_run_2_3 (w : World) (stk : Nat → Pos × List (Code × Pos)) (n0 t0 : Nat) (x d sl : Addr) (t : Tok) (v0 v1 v2 : Value) (ep : Nat) (p1 p2 p3 : Pos) :
   runT (K2 w.params) (S2 w) n0 t0 denZ 2000 Value A0 none (subscriptTail (.Name (Str.ofString "self") p1) (.Slice (some (.Name (Str.ofString "i") p2)) none none p3) (.ref x) (.ref sl))
     (st0 [.l 0, .k, .k, .k, .l 0, .k, .l 0, .k, .k, .k, .l 0, .k, .l 1, .l 1, .l 1, .l 1, .l 1, .l 0] [(x, accO d [v0, v1, v2].toArray ep), (sl, slO (.int 2 t))] stk) (prI [0, 1, 2])
   = some (.ok (.ref n0), [(x, accO d [v0, v1, v2].toArray ep), (sl, slO (.int 2 t)), (n0, W.listOf [v2].toArray 0)], 1, 0, [x, sl, sl, sl, sl, sl, x, x, x, x], [x, sl, sl, sl, sl, sl, x, x, x, x]) := by
  kernel_rfl

theorem slice_run (w : World) (stk : Nat → Pos × List (Code × Pos)) (n0 t0 : Nat) (x d sl : Addr) (t : Tok) (vs : List Value) (k : Nat) (hk : k < vs.length) (hn : vs.length ≤ 3) (ep : Nat) (p1 p2 p3 : Pos) :
   runT (K2 w.params) (S2 w) n0 t0 denZ 2000 Value A0 none (subscriptTail (.Name (Str.ofString "self") p1) (.Slice (some (.Name (Str.ofString "i") p2)) none none p3) (.ref x) (.ref sl))
     (st0 [.l 0, .k, .k, .k, .l 0, .k, .l 0, .k, .k, .k, .l 0, .k, .l 1, .l 1, .l 1, .l 1, .l 1, .l 0] [(x, accO d vs.toArray ep), (sl, slO (.int k t))] stk) (prI [0, 1, 2])
   = some (.ok (.ref n0), [(x, accO d vs.toArray ep), (sl, slO (.int k t)), (n0, W.listOf (vs.drop k).toArray 0)], 1, 0, [x, sl, sl, sl, sl, sl, x, x, x, x], [x, sl, sl, sl, sl, sl, x, x, x, x]) := by
  rcases vs with _ | ⟨v0, _ | ⟨v1, _ | ⟨v2, _ | ⟨v3, r⟩⟩⟩⟩
  · simp at hk
  · obtain rfl : k = 0 := by simp at hk; omega
    exact slice_run_0_1 w stk n0 t0 x d sl t v0 ep p1 p2 p3
  · rcases (show k = 0 ∨ k = 1 by simp at hk; omega) with rfl | rfl
    · exact slice_run_0_2 w stk n0 t0 x d sl t v0 v1 ep p1 p2 p3
    · exact slice_run_1_2 w stk n0 t0 x d sl t v0 v1 ep p1 p2 p3
  · rcases (show k = 0 ∨ k = 1 ∨ k = 2 by simp at hk; omega) with rfl | rfl | rfl
    · exact slice_run_0_3 w stk n0 t0 x d sl t v0 v1 v2 ep p1 p2 p3
    · exact slice_run_1_3 w stk n0 t0 x d sl t v0 v1 v2 ep p1 p2 p3
    · exact slice_run_2_3 w stk n0 t0 x d sl t v0 v1 v2 ep p1 p2 p3
  · simp at hn
theorem setchk_run (w : World) (stk : Nat → Pos × List (Code × Pos)) (n0 t0 : Nat) (x d sl v : Addr) (its : List Value) (ep : Nat) :
   runT (K2 w.params) (S2 w) n0 t0 denZ 2000 Unit A0 none (checkBuiltinCall "list.__setitem__" ⟨[.ref x, .ref sl, .ref v], []⟩)
     (st0 [.l 0, .k] [(x, accO d its.toArray ep)] stk) (prI [0])
   = some (.ok (), [(x, accO d its.toArray ep)], 0, 0, [x], [x]) := by
  kernel_rfl
theorem setsub_run (w : World) (stk : Nat → Pos × List (Code × Pos)) (n0 t0 : Nat) (sl : Addr) (i : Int) (t : Tok) :
   runT (K2 w.params) (S2 w) n0 t0 denZ 2000 (Option Int) A0 none (PySem.Builtin.List.listSubscript? (.ref sl))
     (st0 [.l 0] [(sl, slO (.int i t))] stk) (prI [0])
   = some (.ok none, [(sl, slO (.int i t))], 0, 0, [sl], [sl]) := by
  kernel_rfl
theorem setpart_run (w : World) (stk : Nat → Pos × List (Code × Pos)) (n0 t0 : Nat) (sl : Addr) (i : Int) (t : Tok) :
   runT (K2 w.params) (S2 w) n0 t0 denZ 2000 (Value × Value × Value) A0 none (PySem.Builtin.List.listSliceParts (.ref sl))
     (st0 [.l 0, .l 0, .l 0] [(sl, slO (.int i t))] stk) (prI [0])
   = some (.ok (.int i 0, .none, .none), [(sl, slO (.int i t))], 0, 0, [sl, sl, sl], [sl, sl, sl]) := by
  kernel_rfl
theorem setall_run (w : World) (stk : Nat → Pos × List (Code × Pos)) (n0 t0 : Nat) (v : Addr) (m : String) :
   runT (K2 w.params) (S2 w) n0 t0 denZ 2000 (Array Value) A0 none (PySem.Builtin.List.listAllItems (.ref v) m)
     (st0 [.l 0, .l 0] [(v, W.listOf #[] 0)] stk) (prI [0])
   = some (.ok #[], [(v, W.listOf #[] 0)], 0, 0, [v, v], [v, v]) := by
  kernel_rfl
end Mine

end

section
open PySem PySem.W PyProof.Rows PySem.Calls
set_option maxRecDepth 100000
namespace Mine
theorem seqkey_run (w : World) (stk : Nat → Pos × List (Code × Pos)) (n0 t0 : Nat) (x d sl : Addr) (t : Tok) (i : Int) (its : List Value) (ep : Nat) :
   runT (K2 w.params) (S2 w) n0 t0 denZ 2000 Value A0 none (sequenceKey (.ref x) (.ref sl) "__setitem__")
     (st0 [.l 0, .k] [(x, accO d its.toArray ep), (sl, slO (.int i t))] stk) (prI [0, 1])
   = some (.ok (.ref sl), [(x, accO d its.toArray ep), (sl, slO (.int i t))], 0, 0, [x], [x]) := by
  kernel_rfl
theorem setidx_kn : ∀ n ≤ 3, ∀ k < n, (k = 0 ∧ n = 1) ∨ (k = 0 ∧ n = 2) ∨ (k = 1 ∧ n = 2) ∨ (k = 0 ∧ n = 3) ∨ (k = 1 ∧ n = 3) ∨ (k = 2 ∧ n = 3) := by decide
theorem setidx_run (w : World) (stk : Nat → Pos × List (Code × Pos)) (n0 t0 : Nat) {k n : Nat} (hk : k < n) (hn : n ≤ 3) :
   runT (K2 w.params) (S2 w) n0 t0 denZ 2000 (Int × Int × Int) A0 none (sliceIndices (.int k 0) .none .none n)
     (st0 [] [] stk) (prI [])
   = some (.ok ((k : Int), (n : Int), 1), [], 0, 0, [], []) := by
  obtain ⟨rfl, rfl⟩ | ⟨rfl, rfl⟩ | ⟨rfl, rfl⟩ | ⟨rfl, rfl⟩ | ⟨rfl, rfl⟩ | ⟨rfl, rfl⟩ := setidx_kn n hn k hk
  all_goals kernel_rfl
theorem setslice_ok {w : World} {A : Around} {s : Shared} {g : Heap} {x d sl v : Addr} {vs : List Value} {k ep : Nat} {ti : Tok} {Q : Unit → Shared → Prop} {E : Value → Shared → Prop}
    (hA : Roomy A) (hA1 : Roomy A.in1) (hA2 : ∀ c, Roomy (A.under (.builtin "list.__setitem__" c))) (X : (K2 w.params).In g) (hl : g.NoLimit) (hg : ∀ b o, g.get? b = some o → s.heap.get? b = some o)
    (hx : s.heap.get? x = some (accO d vs.toArray ep) ∧ g.get? x = none) (hsl : s.heap.get? sl = some (slO (.int k ti)) ∧ g.get? sl = none) (hv : s.heap.get? v = some (W.listOf #[] 0) ∧ g.get? v = none)
    (hxsl : ¬ x = sl) (hxv : ¬ x = v) (hk : k < vs.length) (hn : vs.length ≤ 3)
    (hQ : ∀ h', (∀ b o, b ≠ x → s.heap.get? b = some o → h'.get? b = some o) → h'.get? x = some (accO d (vs.take k).toArray (ep + 1)) → h'.objs.size = s.heap.objs.size → Q () { s with heap := h' }) :
    wpAny (model PySem.Challenge.rw_rs0050_02.row.prog w) A (setItem (.ref x) (.ref sl) (.ref v)) Q E s := by
  unfold setItem
  refine wpAny_holding (wpAny_bind ?_)
  refine runRd (n := 2000) hA X hl hg (al_cons hx (al_cons hsl al_nil)) (pw2 hxsl) (fun n0 t0 stk => seqkey_run w stk n0 t0 x d sl ti k vs ep) fun h1 k1 hs1 => ?_
  refine wpAny_bind ?_
  have g1 : ∀ b o, g.get? b = some o → h1.get? b = some o := fun b o e => k1 _ _ (hg b o e)
  have X1 : (K2 w.params).In h1 := X.keeps g1
  have x1 := k1 _ _ hx.1
  have sl1 := k1 _ _ hsl.1
  have v1 := k1 _ _ hv.1
  have t1 : Looks (model PySem.Challenge.rw_rs0050_02.row.prog w) h1 (typeOf (.ref x)) (.ref 148) := (Looks.ld x1).andThen .now
  have t2 : Looks (model PySem.Challenge.rw_rs0050_02.row.prog w) h1 (typeLookup (.ref 148) "__setitem__") (some (.builtin "list.__setitem__")) := looks_findIn X1 (by kernel_rfl)
  have t3 : Looks (model PySem.Challenge.rw_rs0050_02.row.prog w) h1 (specialOf (.ref x) "__setitem__") (some (.builtin "list.__setitem__")) := t1.andThen t2
  unfold callSpecial?
  refine wpAny_bind (Looks.here (s := { s with heap := h1, toks := s.toks + 0 }) t3 ?_)
  dsimp only
  refine wpAny_holding (wpAny_bind (wpAny_of_eq (F.slot_list_setitem.bind _) ?_))
  dsimp only
  refine wpAny_bind (wpAny_call (codeAny_call_builtin_at (Code.quiet_builtin _ (by decide +kernel)) F.entry_list_setitem ?_))
  refine runRd (n := 2000) hA1 X hl g1 (al_cons ⟨x1, hx.2⟩ al_nil) pw1 (fun n0 t0 stk => setchk_run w stk n0 t0 x d sl v vs ep) fun h2 k2 hs2 => ?_
  have g2 : ∀ b o, g.get? b = some o → h2.get? b = some o := fun b o e => k2 _ _ (g1 b o e)
  unfold Builtin.«list.__setitem__»
  refine wpAny_bind (wpAny_of_eq (a := (.ref x, [.ref sl, .ref v])) rfl ?_)
  dsimp only
  have hB := hA2 ⟨[Value.ref x] ++ [Value.ref sl, Value.ref v], []⟩
  refine wpAny_bind ?_
  refine runRd (n := 2000) hB X hl g2 (al_cons ⟨k2 _ _ sl1, hsl.2⟩ al_nil) pw1 (fun n0 t0 stk => setsub_run w stk n0 t0 sl k ti) fun h3 k3 hs3 => ?_
  dsimp only
  have g3 : ∀ b o, g.get? b = some o → h3.get? b = some o := fun b o e => k3 _ _ (g2 b o e)
  have sl3 := k3 _ _ (k2 _ _ sl1)
  have t4 : Looks (model PySem.Challenge.rw_rs0050_02.row.prog w) h3 (typeOf (.ref sl)) (.type "slice") := (Looks.ld sl3).andThen .now
  refine wpAny_bind (Looks.here (s := { s with heap := h3, toks := s.toks + 0 + 0 + 0 }) t4 ?_)
  rw [if_neg (by decide)]
  refine wpAny_bind ?_
  refine runRd (n := 2000) hB X hl g3 (al_cons ⟨sl3, hsl.2⟩ al_nil) pw1 (fun n0 t0 stk => setpart_run w stk n0 t0 sl k ti) fun h4 k4 hs4 => ?_
  dsimp only
  have g4 : ∀ b o, g.get? b = some o → h4.get? b = some o := fun b o e => k4 _ _ (g3 b o e)
  have hsame : Builtin.List.listSameRef (.ref x) (.ref v) = false := by
    show (x == v) = false
    simpa using hxv
  rw [if_neg (by rw [hsame]; simp)]
  have v4 := k4 _ _ (k3 _ _ (k2 _ _ v1))
  refine wpAny_bind ?_
  refine runRd (n := 2000) hB X hl g4 (al_cons ⟨v4, hv.2⟩ al_nil) pw1 (fun n0 t0 stk => setall_run w stk n0 t0 v _) fun h5 k5 hs5 => ?_
  have x5 := k5 _ _ (k4 _ _ (k3 _ _ (k2 _ _ x1)))
  have g5 : ∀ b o, g.get? b = some o → h5.get? b = some o := fun b o e => k5 _ _ (g4 b o e)
  refine wpAny_bind (wpAny_listItems x5 rfl ?_)
  refine wpAny_bind ?_
  refine runRd (n := 2000) hB X hl g5 al_nil .nil (fun n0 t0 stk => setidx_run w stk n0 t0 (n := vs.toArray.size) (by simpa using hk) (by simpa using hn)) fun h6 k6 hs6 => ?_
  have x6 := k6 _ _ x5
  dsimp only
  rw [if_pos (by decide)]
  refine wpAny_bind (wpAny_rule ?_)
  rw [if_neg (by simp [Builtin.List.listTooLong, sizeLine]; omega)]
  have hf : (vs.toArray.extract 0 (k : Int).toNat ++ #[] ++ vs.toArray.extract (max (k : Int) (vs.toArray.size : Int)).toNat vs.toArray.size) = (vs.take k).toArray := by
    have e1 : (max (k : Int) (vs.toArray.size : Int)).toNat = vs.toArray.size := by simp; omega
    rw [e1]
    simp
  refine wpAny_bind (wpAny_updateSeq x6 rfl ?_ (by simp [sizeLine]; omega) (by rw [hf]; simp [sizeLine]; omega))
  refine wpAny_bind (wpAny_letGo ?_)
  refine wpAny_pure (show wpAny _ _ _ _ _ _ from wpAny_pure (wpAny_pure ?_))
  have k06 : ∀ b o, s.heap.get? b = some o → h6.get? b = some o := fun b o e => k6 _ _ (k5 _ _ (k4 _ _ (k3 _ _ (k2 _ _ (k1 _ _ e)))))
  have hs6' : h6.objs.size = s.heap.objs.size := hs6.trans (hs5.trans (hs4.trans (hs3.trans (hs2.trans hs1))))
  refine hQ _ (fun b o hb e => (Heap.get?_update_ne _ _ _ _ hb).trans (k06 b o e)) ?_ ((Heap.size_update _ _ _).trans hs6')
  refine (Heap.get?_update_self _ x6 rfl).trans ?_
  refine congrArg some ?_
  show (⟨.ref 148, some d, .seq (vs.toArray.extract 0 (k : Int).toNat ++ #[] ++ vs.toArray.extract (max (k : Int) (vs.toArray.size : Int)).toNat vs.toArray.size) (if ((vs.toArray.extract 0 (k : Int).toNat ++ #[] ++ vs.toArray.extract (max (k : Int) (vs.toArray.size : Int)).toNat vs.toArray.size).size == vs.toArray.size) = true then ep else ep + 1), #[]⟩ : Obj) = _
  rw [hf, if_neg (by simp; omega)]
end Mine

end

section
open PySem PySem.W PyProof.Rows PySem.Calls
set_option maxRecDepth 100000
namespace Mine
noncomputable abbrev litO (x : Addr) (j : Int) : Obj := { cls := .type "list_iterator", data := .fields #[.ref x, .int j 0] }
noncomputable abbrev litE (j : Int) : Obj := { cls := .type "list_iterator", data := .fields #[.none, .int j 0] }
theorem nx_some (prog : Program) (w : World) (stk : Nat → Pos × List (Code × Pos)) (n0 t0 dp un : Nat) (fr : Option (List Env)) (gd : Option (List Code)) (x d I : Addr) {its : List Value} {j : Nat} {v : Value} (ep : Nat) (hlen : its.length ≤ 3) (hv : its[j]? = some v) :
   runT [] ⟨prog, w.params⟩ n0 t0 denZ 2000 (Option Value) ⟨none, dp, fr, gd, un⟩ none (PySem.W.ZFast.zw9404975358583537561 (.ref I))
     (st0 [.l 0, .l 0, .l 0, .l 0, .l 1, .l 0, .l 0] [(I, litO x j), (x, accO d its.toArray ep)] stk) (prI [0, 1])
   = some (.ok (some v), [(I, litO x (j + 1 : Nat)), (x, accO d its.toArray ep)], 0, 0, [I, I, x, I, I, I, I], [I, I, x, I, I, I, I]) := by
  rcases its with _ | ⟨v0, _ | ⟨v1, _ | ⟨v2, _ | ⟨v3, r⟩⟩⟩⟩
  · exact no hv
  · rcases j with _ | j
    · cases hv; kernel_rfl
    · exact no hv
  · rcases j with _ | _ | j
    · cases hv; kernel_rfl
    · cases hv; kernel_rfl
    · exact no hv
  · rcases j with _ | _ | _ | j
    · cases hv; kernel_rfl
    · cases hv; kernel_rfl
    · cases hv; kernel_rfl
    · exact no hv
  · exact absurd hlen (Nat.not_le_of_gt (Nat.le_add_left 4 _))
theorem nx_none (prog : Program) (w : World) (stk : Nat → Pos × List (Code × Pos)) (n0 t0 dp un : Nat) (fr : Option (List Env)) (gd : Option (List Code)) (x d I : Addr) {its : List Value} (ep : Nat) (hlen : its.length ≤ 3) :
   runT [] ⟨prog, w.params⟩ n0 t0 denZ 2000 (Option Value) ⟨none, dp, fr, gd, un⟩ none (PySem.W.ZFast.zw9404975358583537561 (.ref I))
     (st0 [.l 0, .l 0, .l 0, .l 0, .l 1, .l 0, .l 0, .l 3] [(I, litO x its.length), (x, accO d its.toArray ep)] stk) (prI [0, 1])
   = some (.ok none, [(I, litE its.length), (x, accO d its.toArray ep)], 2, 0, [n0 + 1, I, I, x, I, I, I, I], [n0 + 1, I, I, x, I, I, I, I]) := by
  rcases its with _ | ⟨v0, _ | ⟨v1, _ | ⟨v2, _ | ⟨v3, r⟩⟩⟩⟩
  · kernel_rfl
  · kernel_rfl
  · kernel_rfl
  · kernel_rfl
  · exact absurd hlen (Nat.not_le_of_gt (Nat.le_add_left 4 _))

theorem runU {prog : Program} {w : World} {led : List (Addr × Obj)} {led' : Nat → Nat → List (Addr × Obj)} {α : Type} {A : Around} {t : Sem α} {dirs : List Dir} {s : Shared} {Q : α → Shared → Prop} {E : Value → Shared → Prop} {n : Nat} {is : List Nat} {a : Nat → Nat → α} {al tk : Nat} {e : Nat → Nat → List Addr}
    (hl : s.heap.NoLimit) (hst : cStatics ∉ led.map (·.1)) (hled : ∀ p ∈ led, s.heap.get? p.1 = some p.2) (hdist : (led.map (·.1)).Pairwise (· ≠ ·))
    (H : ∀ n0 t0 stk, runT [] ⟨prog, w.params⟩ n0 t0 denZ n α A none t (st0 dirs led stk) (prI is) = some (.ok (a n0 t0), led' n0 t0, al, tk, e n0 t0, e n0 t0))
    (hQ : ∀ h', (∀ b o, b ∉ led.map (·.1) → s.heap.get? b = some o → h'.get? b = some o) → (∀ p ∈ led' s.heap.objs.size s.toks, h'.get? p.1 = some p.2) → Q (a s.heap.objs.size s.toks) { s with heap := h', toks := s.toks + tk }) :
    wpAny (model prog w) A t Q E s := by
  have hl' : (hideAll s.heap (led.map (·.1))).NoLimit := by
    obtain ⟨mc, hn, hm⟩ := hl
    exact ⟨mc, hn.at' fun o ho => hideAll_get _ ho hst, hm⟩
  refine run_use (K := []) (fun a o h => nomatch h) hl' ⟨fun b o e => of_hideAll _ e, fun p hp => ⟨hled p hp, hideAll_none _ (List.mem_map_of_mem hp)⟩, hdist, Nat.le_of_eq (hideAll_size _ _)⟩ (prI is) (H _ _) (fun r st' h => eqs_of_maps ?_) fun r st' h h' D hs => ?_
  · simp only [prI, Option.some.injEq, Prod.mk.injEq] at h
    rw [h.2.2.2.2.1, h.2.2.2.2.2]
  · simp only [prI, Option.some.injEq, Prod.mk.injEq] at h
    obtain ⟨rfl, h2, h3, h4, _⟩ := h
    rw [h4]
    refine hQ h' (fun b o hb e => D.keep _ _ (hideAll_get _ e hb)) fun p hp => ?_
    rw [← h2] at hp
    obtain ⟨i, hi, hp⟩ := List.mem_filterMap.mp hp
    exact (D.own p (List.mem_of_getElem? hp)).1

theorem nx_item {prog : Program} {w : World} {A : Around} {s : Shared} {x d I : Addr} {its : List Value} {ep j : Nat} {Q : Option Value → Shared → Prop} {E : Value → Shared → Prop} {v : Value}
    (hh : A.handled = none) (hl : s.heap.NoLimit) (h1 : s.heap.get? I = some (litO x j)) (h2 : s.heap.get? x = some (accO d its.toArray ep)) (hIx : I ≠ x) (hc : cStatics ≠ I ∧ cStatics ≠ x) (hlen : its.length ≤ 3) (hv : its[j]? = some v)
    (hQ : ∀ h', (∀ b o, b ≠ I → s.heap.get? b = some o → h'.get? b = some o) → h'.get? I = some (litO x (j + 1 : Nat)) → Q (some v) { s with heap := h' }) : wpAny (model prog w) A (pyNext (.ref I)) Q E s := by
  obtain ⟨hd, dp, fr, gd, un⟩ := A
  obtain rfl : hd = none := hh
  rw [PySem.W.ZFast.ze9404975358583537561]
  have hst : cStatics ∉ ([(I, litO x j), (x, accO d its.toArray ep)] : List (Addr × Obj)).map (·.1) := nm2 hc.1 hc.2
  have hled : ∀ p ∈ ([(I, litO x j), (x, accO d its.toArray ep)] : List (Addr × Obj)), s.heap.get? p.1 = some p.2 := al_cons h1 (al_cons h2 al_nil)
  have hdist : (([(I, litO x j), (x, accO d its.toArray ep)] : List (Addr × Obj)).map (·.1)).Pairwise (· ≠ ·) := pw2 hIx
  have fin : ∀ h', (∀ b o, b ∉ ([(I, litO x j), (x, accO d its.toArray ep)] : List (Addr × Obj)).map (·.1) → s.heap.get? b = some o → h'.get? b = some o) → (∀ p ∈ ([(I, litO x (j + 1 : Nat)), (x, accO d its.toArray ep)] : List (Addr × Obj)), h'.get? p.1 = some p.2) → Q (some v) { s with heap := h' } := fun h' hk hp =>
    hQ h' (fun b o hb e => if q : b = x then by subst q; rw [h2] at e; cases e; exact hp _ (.tail _ (.head _)) else hk b o (nm2 hb q) e) (hp _ (.head _))
  exact runU (n := 2000) hl hst hled hdist (fun n0 t0 stk => nx_some prog w stk n0 t0 dp un fr gd x d I ep hlen hv) fin

theorem nx_end {prog : Program} {w : World} {A : Around} {s : Shared} {x d I : Addr} {its : List Value} {ep : Nat} {Q : Option Value → Shared → Prop} {E : Value → Shared → Prop}
    (hh : A.handled = none) (hl : s.heap.NoLimit) (h1 : s.heap.get? I = some (litO x its.length)) (h2 : s.heap.get? x = some (accO d its.toArray ep)) (hIx : I ≠ x) (hc : cStatics ≠ I ∧ cStatics ≠ x) (hlen : its.length ≤ 3)
    (hQ : ∀ h', (∀ b o, b ≠ I → s.heap.get? b = some o → h'.get? b = some o) → Q none { s with heap := h' }) : wpAny (model prog w) A (pyNext (.ref I)) Q E s := by
  obtain ⟨hd, dp, fr, gd, un⟩ := A
  obtain rfl : hd = none := hh
  rw [PySem.W.ZFast.ze9404975358583537561]
  have hst : cStatics ∉ ([(I, litO x its.length), (x, accO d its.toArray ep)] : List (Addr × Obj)).map (·.1) := nm2 hc.1 hc.2
  have hled : ∀ p ∈ ([(I, litO x its.length), (x, accO d its.toArray ep)] : List (Addr × Obj)), s.heap.get? p.1 = some p.2 := al_cons h1 (al_cons h2 al_nil)
  have hdist : (([(I, litO x its.length), (x, accO d its.toArray ep)] : List (Addr × Obj)).map (·.1)).Pairwise (· ≠ ·) := pw2 hIx
  have fin : ∀ h', (∀ b o, b ∉ ([(I, litO x its.length), (x, accO d its.toArray ep)] : List (Addr × Obj)).map (·.1) → s.heap.get? b = some o → h'.get? b = some o) → (∀ p ∈ ([(I, litE its.length), (x, accO d its.toArray ep)] : List (Addr × Obj)), h'.get? p.1 = some p.2) → Q none { s with heap := h' } := fun h' hk hp =>
    hQ h' (fun b o hb e => if q : b = x then by subst q; rw [h2] at e; cases e; exact hp _ (.tail _ (.head _)) else hk b o (nm2 hb q) e)
  exact runU (n := 2000) hl hst hled hdist (fun n0 t0 stk => nx_none prog w stk n0 t0 dp un fr gd x d I ep hlen) fin
end Mine

end

section
open PySem PySem.W PyProof.Rows PySem.Calls
set_option maxRecDepth 100000
namespace Mine
noncomputable abbrev accSt (I x d : Addr) (its : List Value) (ep : Nat) (Ts : Nat → Addr) (vals : Nat → Array Value) (j : Nat) (h : Heap) : Prop :=
  h.NoLimit ∧ h.get? I = some (litO x j) ∧ h.get? x = some (accO d its.toArray ep) ∧ ∀ k, k < its.length → h.IsTuple (Ts k) (vals k)
theorem accU {prog : Program} {w : World} {A : Around} (hh : A.handled = none) (I x d : Addr) (hIx : I ≠ x) (hc : cStatics ≠ I ∧ cStatics ≠ x) (its : List Value) (hlen : its.length ≤ 3) (ep : Nat) (Ts : Nat → Addr) (vals : Nat → Array Value)
    (hit : ∀ j, j < its.length → its[j]? = some (.ref (Ts j))) (hTI : ∀ j, j < its.length → Ts j ≠ I) :
    WalksU prog w A I (cStatics :: I :: x :: (List.range its.length).map Ts) [I] its.length (fun j v => j < its.length ∧ v = vals j) (accSt I x d its ep Ts vals)
      (fun j T h => (j < its.length ∧ T = Ts j) ∧ accSt I x d its ep Ts vals (j + 1) h) where
  sub := fun b hb => by simp at hb; simp [hb]
  frame := fun _ h h' st hk => ⟨by obtain ⟨mc, hn, hm⟩ := st.1; exact ⟨mc, hn.at' fun o e => hk _ (by simp) o e, hm⟩, hk I (by simp) _ st.2.1, hk x (by simp) _ st.2.2.1,
    fun k hk' => (st.2.2.2 k hk').at fun o e => hk (Ts k) (by simp; right; right; right; exact ⟨k, hk', rfl⟩) o e⟩
  item := fun i s Q E hi st hQ => by
    refine nx_item hh st.1 st.2.1 st.2.2.1 hIx hc hlen (hit i hi) fun h' hk' hI' => ?_
    have st' : accSt I x d its ep Ts vals (i + 1) h' := ⟨by obtain ⟨mc, hn, hm⟩ := st.1; exact ⟨mc, hn.at' fun o e => hk' _ _ hc.1 e, hm⟩, hI', hk' _ _ (Ne.symm hIx) st.2.2.1, fun k hk => (st.2.2.2 k hk).at fun o e => hk' _ _ (hTI k hk) e⟩
    exact hQ (Ts i) (vals i) h' s.toks ⟨hi, rfl⟩ (st'.2.2.2 i hi) ⟨⟨hi, rfl⟩, st'⟩ fun b o hb e => hk' b o (fun h => hb (by simp [h])) e
  go := fun _ _ _ i _ s Q _ hm hQ => wpAny_letOwnedTupleGo_listiter (l := x) (i := i + 1) ⟨_, hm.2.2.1, rfl, rfl⟩ (hQ s.heap hm.2 fun _ _ _ e => e)
  apart := fun j T _ hm hmem => by
    rcases List.mem_cons.mp hmem with e | e
    · exact hTI j hm.1.1 (hm.1.2 ▸ e)
    · cases e
  done := fun s Q E st hQ => nx_end hh st.1 st.2.1 st.2.2.1 hIx hc hlen fun h' hk' => hQ h' s.toks fun b o hb e => hk' b o (fun h => hb (by simp [h])) e
  self := fun i _ _ _ st hQ => wpAny_pyIter_listiter (l := x) (i := i) ⟨_, st.2.1, rfl, rfl⟩ hQ
end Mine

end

section
open PySem PySem.W PyProof.Rows PySem.Calls
set_option maxRecDepth 100000
namespace Mine
theorem lit_run (w : World) (stk : Nat → Pos × List (Code × Pos)) (n0 t0 : Nat) (x d : Addr) (its : List Value) (ep : Nat) :
   runT (K2 w.params) (S2 w) n0 t0 denZ 2000 Value A0 none (call (.builtin "list.__iter__") [.ref x])
     (st0 [.l 0, .k] [(x, accO d its.toArray ep)] stk) (prI [0, 1])
   = some (.ok (.ref n0), [(x, accO d its.toArray ep), (n0, litO x 0)], 1, 0, [x], [x]) := by
  kernel_rfl
theorem iter_K {w : World} {h₀ : Heap} {s : Shared} {A : Around} {L : Addr} {m : Str → Option Value} {news : List (Addr × Obj)} {x d : Nat} {its : List Value} {ep : Nat} {Q E : Value → Shared → Prop}
    (hA : Roomy A) (F : Fr h₀ L s.heap m) (N : News h₀ L s.heap ((x, accO d its.toArray ep) :: news)) (X : (K2 w.params).In h₀) (hl : h₀.NoLimit) (hn : ∀ p ∈ news, p.1 ≠ x)
    (ret : ∀ (I : Nat) h', Fr h₀ L h' m → News h₀ L h' ((I, litO x 0) :: (x, accO d its.toArray ep) :: news) → x < I → (∀ p ∈ news, Nat.lt p.1 I) → Nat.lt L I → h'.objs.size = I + 1 → Q (.ref I) { s with heap := h' }) :
    wpAny (model PySem.Challenge.rw_rs0050_02.row.prog w) A (pyIter (.ref x)) Q E s := by
  have X1 : (K2 w.params).In s.heap := X.keeps F.keep
  have t1 : Looks (model PySem.Challenge.rw_rs0050_02.row.prog w) s.heap (typeOf (.ref x)) (.ref 148) := (Looks.ld (N _ (.head _)).1).andThen .now
  have t2 : Looks (model PySem.Challenge.rw_rs0050_02.row.prog w) s.heap (typeLookup (.ref 148) "__iter__") (some (.builtin "list.__iter__")) := looks_findIn X1 (by kernel_rfl)
  have t3 : Looks (model PySem.Challenge.rw_rs0050_02.row.prog w) s.heap (specialOf (.ref x) "__iter__") (some (.builtin "list.__iter__")) := t1.andThen t2
  have hc : wpAny (model PySem.Challenge.rw_rs0050_02.row.prog w) A (call (.builtin "list.__iter__") [.ref x]) (fun it s' => s'.TypeIs it "list_iterator" ∧ Q it s') E s := by
    refine runI (n := 2000) (led := [(x, accO d its.toArray ep)]) hA F N X hl (sub_cons (.head _) sub_nil) (by simp) (fun n0 t0 stk => lit_run w stk n0 t0 x d its ep) fun n0 h' F' l l' N' hs => ?_
    have N3 := N' ((n0, litO x 0) :: (x, accO d its.toArray ep) :: news) (al_cons (.inl (.tail _ (.head _))) (al_cons (.inl (.head _)) fun p hp => .inr ⟨.tail _ hp, by simpa using hn p hp⟩))
    exact ⟨⟨_, (N3 _ (.head _)).1, rfl⟩, ret n0 h' F' N3 (l _ (.head _)) (fun p hp => l p (.tail _ hp)) l' hs⟩
  unfold pyIter
  refine wpAny_bind (t3.here ?_)
  show wpAny _ A (callSpecialIfBoundUnlessNone? (.ref x) "__iter__" _ >>= _) Q E s
  have hb : ∀ {Q' : Option (Value × List Value) → Shared → Prop}, Q' (some (.builtin "list.__iter__", [.ref x])) s → wpAny (model PySem.Challenge.rw_rs0050_02.row.prog w) A (bindSpecialIfBound? (.ref x) "__iter__") Q' E s := by
    intro Q' h
    unfold bindSpecialIfBound?
    refine wpAny_bind (t3.here ?_)
    dsimp only
    refine wpAny_bind (wpAny_askSetting ?_)
    have hb' : ∀ {E'}, wpAny (model PySem.Challenge.rw_rs0050_02.row.prog w) A (bindSpecial (.builtin "list.__iter__") (.ref x) >>= fun a => pure (some a)) Q' E' s := wpAny_bind (wpAny_of_eq (slot_list_iter.bind _) (wpAny_pure h))
    split
    · exact hb'
    · exact wpAny_tryCatch hb'
  unfold callSpecialIfBoundUnlessNone?
  refine wpAny_bind (wpAny_holding (wpAny_bind (hb ?_)))
  dsimp only
  show wpAny _ _ (if (Value.builtin "list.__iter__" == Value.none) = true then _ else _) _ _ s
  rw [if_neg (by decide)]
  refine wpAny_bind (wpAny_mono hc (fun it s' h' => wpAny_pure ?_) fun _ _ z => z)
  dsimp only
  exact wpAny_bind (wpAny_specialOf h'.1 slot_listiter_next.lookup (wpAny_pure h'.2))
end Mine

end

section
open PySem PySem.W PyProof.Rows PySem.Calls
set_option maxRecDepth 100000
namespace Mine
theorem elt_ok {prog : Program} {w : World} {cenv : Env} {A : Around} {E : Value → Shared → Prop} {s : Shared} {m : Str → Option Value} {p0 p2 p3 p4 p5 : Pos} {k : Nat} {pl : Sem Bool} {a b : Str} {ta tb : Tok} {te : Tok}
    (hk : cenv.scope.kind = .function) (h0 : cenv.kindOf "EMPTYSTRING" = some .globalImplicit) (h1 : cenv.kindOf "fws" = some .local) (h2 : cenv.kindOf "part" = some .local)
    (hG : Looks (model prog w) s.heap (nsGet cenv.globals "EMPTYSTRING") (some (.str "" te))) (hn : s.heap.Ns cenv.locals m) (hva : m "fws" = some (.str a ta)) (hvb : m "part" = some (.str b tb)) (hlen : a.length + b.length ≤ 1000) :
    wpAny (model prog w) A (eval (.Name "EMPTYSTRING" p0) cenv) (fun ov s₁ => wpAny (model prog w) A (getMethod ov "join" pl) (fun fx s₂ => wpAny (model prog w) A (callWith p5 fx.1 fx.2 (backTo p5 (starEach [.Tuple [.Name "fws" p2, .Name "part" p3] k p4] cenv)) []) (fun y s' => (∃ t, y = .str (Txt.join "" [a, b]) t) ∧ Keeps s s') E s₂) E s₁) E s := by
  refine wpAny_Name (ks_loadName_global hk h0 ?_)
  unfold loadGlobal
  refine wpAny_bind (hG.here (wpAny_pure ?_))
  refine GM.join ?_
  refine callWith_method1 (spliced_more (Tuple_ (spliced_more (wpAny_Name (wpAny_loadName_local hk h1 hn hva (spliced_more (wpAny_Name (wpAny_loadName_local hk h2 hn hvb (spliced_none (wpAny_newTuple (spliced_none ?_)))))))))))
  refine join_tuple (items := #[.str a ta, .str b tb]) (ys := [a, b]) ⟨_, Heap.get?_push_size _ rfl, rfl, _, rfl⟩ (.cons _ _ (.cons _ _ .nil)) ?_ fun t' k' => ⟨⟨t', rfl⟩, _, _, rfl, fun b o e => Heap.get?_push_of_some _ e⟩
  have e0 : (Str.ofString "").length = 0 := by decide
  simp [e0]; omega
end Mine

end

section
open PySem PySem.W PyProof.Rows PySem.Calls
set_option maxRecDepth 100000
namespace Mine
noncomputable abbrev tab0 : Obj := ⟨.none, none, .fields #[], #[]⟩
noncomputable abbrev tab1 (l c : Int) (cd : Value) : Obj := ⟨.none, none, .fields #[.int l 0, .int c 0, cd], #[]⟩
structure Cel where
  ad : Nat
  ws : Str
  tw : Tok
  pt : Str
  tp : Tok
noncomputable abbrev Cel.vs (c : Cel) : Array Value := #[.str c.ws c.tw, .str c.pt c.tp]
noncomputable abbrev refs (ps : List Cel) : List Value := ps.map fun c => Value.ref c.ad
noncomputable def celT (ps : List Cel) (j : Nat) : Nat := (ps[j]?.map Cel.ad).getD 0
noncomputable def celV (ps : List Cel) (j : Nat) : Array Value := (ps[j]?.map Cel.vs).getD #[.none, .none]
theorem celV_two (ps : List Cel) (j : Nat) : ∃ va vb, celV ps j = #[va, vb] := by
  unfold celV
  cases ps[j]? <;> exact ⟨_, _, rfl⟩
noncomputable abbrev celSt (I x d : Addr) (ps : List Cel) (ep : Nat) : Nat → Heap → Prop := accSt I x d (refs ps) ep (celT ps) (celV ps)
noncomputable abbrev celMid (I x d : Addr) (ps : List Cel) (ep : Nat) (j : Nat) (T : Addr) (h : Heap) : Prop := (j < (refs ps).length ∧ T = celT ps j) ∧ celSt I x d ps ep (j + 1) h
noncomputable abbrev celFp (I x : Addr) (ps : List Cel) : List Addr := cStatics :: I :: x :: (List.range (refs ps).length).map (celT ps)
theorem accC {prog : Program} {w : World} {A : Around} (hh : A.handled = none) {I x d : Addr} (hIx : I ≠ x) (hc : cStatics ≠ I ∧ cStatics ≠ x) {ps : List Cel} (hlen : ps.length ≤ 3) {ep : Nat} (hTI : ∀ c ∈ ps, c.ad ≠ I) :
    WalksU prog w A I (celFp I x ps) [I] (refs ps).length (fun j v => j < (refs ps).length ∧ v = celV ps j) (celSt I x d ps ep) (celMid I x d ps ep) := by
  refine accU hh I x d hIx hc (refs ps) (by simpa using hlen) ep (celT ps) (celV ps) (fun j hj => ?_) (fun j hj => ?_)
  · simp at hj; simp [celT, hj]
  · simp at hj; simp [celT, hj]; exact hTI _ (List.getElem_mem hj)
theorem celSt0 {I x d : Addr} {ps : List Cel} {ep : Nat} {h : Heap} (hl : h.NoLimit) (hI : h.get? I = some (litO x 0)) (hx : h.get? x = some (accO d (refs ps).toArray ep)) (hT : ∀ c ∈ ps, h.IsTuple c.ad c.vs) : celSt I x d ps ep 0 h := by
  refine ⟨hl, hI, hx, fun k hk => ?_⟩
  simp at hk
  have := hT _ (List.getElem_mem hk)
  simpa [celT, celV, hk] using this
theorem celFp_lt {I x : Addr} {ps : List Cel} {n : Nat} (hc : cStatics < n) (hI : I < n) (hx : x < n) (hT : ∀ c ∈ ps, c.ad < n) : ∀ b ∈ celFp I x ps, b < n := by
  intro b hb
  simp only [celFp, List.mem_cons, List.mem_map, List.mem_range] at hb
  rcases hb with rfl | rfl | rfl | ⟨j, hj, rfl⟩
  · exact hc
  · exact hI
  · exact hx
  · simp at hj; simp only [celT, List.getElem?_eq_getElem hj, Option.map_some, Option.getD_some]; exact hT _ (List.getElem_mem hj)
end Mine

end

section
open PySem PySem.W PyProof.Rows PySem.Calls
set_option maxRecDepth 100000
namespace Mine
theorem passing_all (n : Nat) : passing (fun _ => true) n 0 = List.range n := by
  simp [passing]
theorem gen_of {prog : Program} {w : World} {A : Around} {a C g n K : Nat} {wr : List Addr} {F : Nat → Value → Prop} {s : Shared}
    (W : WalksS prog w A.in4 a (a :: C :: List.range C) (C :: wr) (GenOnlyQ g) (passing (fun _ => true) n 0).length (fun j y => ∃ i, (passing (fun _ => true) n 0)[j]? = some i ∧ F i y) (GenAt prog w A.in4 a g C (List.range C) wr (fun _ => true) n F))
    (hst : GenAt prog w A.in4 a g C (List.range C) wr (fun _ => true) n F 0 s) (hC : C < a) (hs : s.heap.objs.size = a + 1) (hwr : ∀ b ∈ wr, K < b) (hKC : K < C) :
    Gen prog w A K a (passing (fun _ => true) n 0).length (fun j y => ∃ i, (passing (fun _ => true) n 0)[j]? = some i ∧ F i y) s := by
  refine ⟨_, _, _, _, W, hst, fun i s' st => ?_, List.mem_cons_self, fun b hb => ?_, fun b hb => ?_⟩
  · obtain ⟨⟨o, p, q, h1, h2, _⟩, _⟩ := st
    exact ⟨o, by assumption, by assumption⟩
  · rw [hs]
    rcases List.mem_cons.mp hb with rfl | hb
    · exact Nat.lt_succ_self _
    · rcases List.mem_cons.mp hb with rfl | hb
      · exact Nat.lt_succ_of_lt hC
      · exact Nat.lt_succ_of_lt (Nat.lt_trans (List.mem_range.mp hb) hC)
  · rcases List.mem_cons.mp hb with rfl | hb
    · exact hKC
    · exact hwr b hb
theorem cel_sum : ∀ (l : List Cel), (∀ c ∈ l, c.ws.length + c.pt.length ≤ 100) → ((l.map fun c => Txt.join "" [c.ws, c.pt]).map (·.length)).sum ≤ 100 * l.length
  | [], _ => Nat.zero_le _
  | c :: l, h => by
    have e0 : (Str.ofString "").length = 0 := by decide
    have e1 : (Txt.join "" [c.ws, c.pt]).length = c.ws.length + c.pt.length := by
      rw [beq_iff_eq.mp (join_plain_closes _ _), len_join_cons, e0]
      simp
    have i := cel_sum l fun c hc => h c (List.mem_cons_of_mem _ hc)
    have := h c List.mem_cons_self
    simp only [List.map_cons, List.sum_cons, List.length_cons, e1]
    omega
theorem cel_ok {ps : List Cel} (h : ps.length ≤ 3) (hl : ∀ c ∈ ps, c.ws.length + c.pt.length ≤ 100) : JoinOk "" (ps.map fun c => Txt.join "" [c.ws, c.pt]) = true := by
  refine joinOk_of ?_
  have e0 : (Str.ofString "").length = 0 := by decide
  have := cel_sum ps hl
  rw [e0]
  omega
end Mine

end

section
open PySem PySem.W PyProof.Rows PySem.Calls
set_option maxRecDepth 100000
namespace Mine
theorem eltLen_ok {prog : Program} {w : World} {cenv : Env} {A : Around} {E : Value → Shared → Prop} {s : Shared} {m : Str → Option Value} {p0 p1 p2 p3 p4 p5 p6 : Pos} {a b : Str} {ta tb : Tok}
    (hk : cenv.scope.kind = .function) (h0 : cenv.kindOf "len" = some .globalImplicit) (h1 : cenv.kindOf "fws" = some .local) (h2 : cenv.kindOf "part" = some .local)
    (hG : Looks (model prog w) s.heap (loadGlobal cenv "len") (.builtin "len")) (hn : s.heap.Ns cenv.locals m) (hva : m "fws" = some (.str a ta)) (hvb : m "part" = some (.str b tb)) (hlen : a.length + b.length ≤ 1000) :
    wpAny (model prog w) A (eval (.BinOp (.Call (.Name "len" p0) [.Name "fws" p1] [] p2) .Add (.Call (.Name "len" p3) [.Name "part" p4] [] p5) p6) cenv) (fun y s' => (∃ t, y = .int (a.length + b.length : Nat) t) ∧ Keeps s s') E s := by
  refine wpAny_BinOp (Call_Name rfl (wpAny_Name (ks_loadName_global hk h0 (hG.here (PyProof.Rows.callWith_builtin1 (spliced_more (wpAny_Name (wpAny_loadName_local hk h1 hn hva (spliced_none ?_)))))))))
  refine len_str (by omega) ?_
  refine Call_Name rfl (wpAny_Name (ks_loadName_global hk h0 (Looks.here (s := { s with toks := s.toks + 1 + 1 }) hG (PyProof.Rows.callWith_builtin1 (spliced_more (wpAny_Name (wpAny_loadName_local hk h2 hn hvb (spliced_none ?_))))))))
  refine len_str (by omega) ?_
  exact wpAny_add_int ⟨⟨_, congrArg (fun z => Value.int z _) (Int.natCast_add _ _).symm⟩, s.heap, _, rfl, fun b o e => e⟩
end Mine

end

section
open PySem PySem.W PyProof.Rows PySem.Calls
set_option maxRecDepth 100000
namespace Mine
theorem WalksS.shift {prog : Program} {w : World} {A : Around} {I : Addr} {fp wr : List Addr} {G : Array GenState → Array GenState → Prop} {n : Nat} {P : Nat → Value → Prop} {St : Nat → Shared → Prop}
    (W : WalksS prog w A I fp wr G n P St) : WalksS prog w A I fp wr G (n + 1) (fun i v => match i with | 0 => False | j + 1 => P j v) (fun i s => match i with | 0 => False | j + 1 => St j s) where
  sub := W.sub
  grefl := W.grefl
  gtrans := W.gtrans
  frame := fun i s h' tk st htk hk => by
    cases i with
    | zero => exact st
    | succ j => exact W.frame j s h' tk st htk hk
  item := fun i s Q E hi st hQ => by
    cases i with
    | zero => exact st.elim
    | succ j => exact W.item j s Q E (by omega) st fun v s' hP st' hm => hQ v s' hP st' hm
  done := fun s Q E st hQ => W.done s Q E st hQ
  self := fun i s Q E st hQ => by
    cases i with
    | zero => exact st.elim
    | succ j => exact W.self j s Q E st hQ
noncomputable def shV (m : Int) (val : Nat → Int) : Nat → Int
  | 0 => m
  | j + 1 => val j
theorem preSum_sh (m : Int) (val : Nat → Int) : ∀ n, preSum (shV m val) (n + 1) = m + preSum val n
  | 0 => by simp [preSum, shV]
  | n + 1 => by
    show preSum (shV m val) (n + 1) + shV m val (n + 1) = m + (preSum val n + val n)
    rw [preSum_sh m val n]
    simp only [shV]
    omega
theorem call_sum2 {prog : Program} {w : World} {A : Around} {E : Value → Shared → Prop} {s : Shared} {I : Addr} {fp wr : List Addr} {G : Array GenState → Array GenState → Prop} {n : Nat} {P : Nat → Value → Prop} {St : Nat → Shared → Prop} {val : Nat → Int} {m : Int} {tm : Tok} {Q : Value → Shared → Prop}
    (W : WalksS prog w A.in1 I fp wr G n P St) (hst : St 0 s) (hfp : ∀ b ∈ fp, b < s.heap.objs.size) (hval : ∀ i v, P i v → ∃ t, v = .int (val i) t) (hm : InLong m) (hfit : ∀ j, j < n → InLong (val j) ∧ InLong (m + preSum val (j + 1)))
    (hQ : ∀ s' t', Moved wr G s s' → Q (.int (m + preSum val n) t') s') : wpAny (model prog w) A (call (.builtin "sum") [.ref I, .int m tm]) Q E s := by
  have W' := WalksS.shift W
  refine call_function_tree F.kind_sum F.plain_sum F.entry_sum (by kernel_rfl) ?_
  unfold Builtin.«sum»
  simp only [List.length_cons, List.length_nil]
  rw [if_neg (by decide)]
  refine wpAny_bind (wpAny_of_eq (a := [some (.int m tm)]) (by kernel_rfl) ?_)
  refine wpAny_bind (W.self 0 s _ _ hst ?_)
  dsimp only
  split
  case isFalse h => exact absurd (show (decide (-(2 ^ 63) ≤ m) && decide (m < 2 ^ 63)) = true by simp only [Bool.and_eq_true, decide_eq_true_eq]; exact hm) h
  refine wpAny_bind (wpAny_rule (wpAny_bind (wpAny_mkInt (wpAny_bind (wpAny_pure ?_)))))
  simp only [List.forIn_cons, List.forIn_nil]
  refine wpAny_bind (wpAny_bind (wpAny_bind (wpAny_isInstance (T := "int") (b := false) (typeIs_int _ _ _) PySem.sub_int_str ?_)))
  simp only [Bool.false_eq_true, if_false]
  refine wpAny_pure (wpAny_bind (wpAny_bind (wpAny_isInstance (T := "int") (b := false) (typeIs_int _ _ _) PySem.sub_int_bytes ?_)))
  simp only [Bool.false_eq_true, if_false]
  refine wpAny_pure (wpAny_bind (wpAny_bind (wpAny_isInstance (T := "int") (b := false) (typeIs_int _ _ _) PySem.sub_int_bytearray ?_)))
  simp only [Bool.false_eq_true, if_false]
  refine wpAny_pure (wpAny_pure ?_)
  refine wpAny_bind (wpAny_newObj_type ?_)
  have hSf : s.heap.objs.size ∉ fp := fun hm => Nat.lt_irrefl _ (hfp _ hm)
  have pre1 : preSum (shV m val) 1 = m := by simp [preSum, shV]
  refine wpAny_pure ⟨plainId_quiet F.plain_sum_loop _, codeAny_sum_loopS W' (shV m val) (fun i v hv => ?_) (fun j hj => ?_) s.heap.objs.size hSf n 1 _ s.toks 0 (by omega) (by omega)
    (W.frame 0 s _ _ hst (Nat.le_succ _) fun b _ o e => Heap.get?_push_of_some _ e) (by rw [pre1]; exact Heap.get?_push_size _ rfl) fun s' t' hmv => ?_⟩
  · cases i with
    | zero => exact hv.elim
    | succ j => exact hval j v hv
  · cases j with
    | zero => rw [pre1]; exact ⟨hm, hm⟩
    | succ j => rw [preSum_sh]; exact hfit j (by omega)
  · rw [preSum_sh]
    exact hQ s' t' (hmv.drop_new (Nat.le_succ _))
end Mine

end

section
open PySem PySem.W PyProof.Rows PySem.Calls
set_option maxRecDepth 100000
namespace Mine
theorem preSum_take (l : List Int) : ∀ k, k ≤ l.length → preSum (fun j => l.getD j 0) k = (l.take k).sum
  | 0, _ => by simp [preSum]
  | k + 1, h => by
    show preSum _ k + l.getD k 0 = _
    have hk : l[k]? = some l[k] := List.getElem?_eq_getElem (by omega)
    rw [preSum_take l k (by omega), List.take_succ, List.sum_append, hk]
    simp [List.getD, hk]
theorem preSum_all (l : List Int) : preSum (fun j => l.getD j 0) l.length = l.sum := by rw [preSum_take l _ (Nat.le_refl _), List.take_length]
theorem preSum_bd {val : Nat → Int} (h : ∀ j, 0 ≤ val j ∧ val j ≤ 100) : ∀ k : Nat, 0 ≤ preSum val k ∧ preSum val k ≤ 100 * k
  | 0 => by simp [preSum]
  | k + 1 => by
    have := preSum_bd h k
    have := h k
    show 0 ≤ preSum val k + val k ∧ preSum val k + val k ≤ _
    omega
end Mine

end

section
namespace Mine

open PySem PySem.W PyProof.Rows PySem.Calls
set_option maxRecDepth 100000
set_option maxHeartbeats 8000000
set_option pp.maxSteps 30000
set_option pp.deepTerms.threshold 3
set_option linter.unusedSimpArgs false
set_option linter.unusedVariables false
local macro_rules | `(tactic| k_all) => `(tactic| first | exact Mine.allLt_ne (by assumption) | (refine Mine.ne_append ?_ ?_ <;> k_all) | (with_reducible assumption))
local macro_rules | `(tactic| k_room) => `(tactic| ((try simp only [depth_under_make, depth_under_kw, depth_in1, depth_deeper, depth_caller]); (try dsimp only [Mine.topA]); (simp only [recursionLimit] at *); omega))
theorem cells_raw : ∀ {w : World} {loose : List Str} {mean : ExcName → Option Value} {mg mb : Str → Option Value} {dp un : Nat} {gd : Option (List Code)} {outer : List Env} {base g : Heap} {s : Shared} {l : Addr} {vs : List Value} {ns : List Int} {Q E : Value → Shared → Prop}
 (G : Mine.Gr (Mine.K2 w.params) (Mine.topA dp un gd outer) base outer loose mean mg mb g s) (X1 : (Mine.hK w.params).In g) (hdp : dp + 20 < recursionLimit) (hL : g.IsList l vs.toArray) (hI : IntsAre vs ns) (hlen : ns.length ≤ 63)
 (ret : ∀ (d : Addr) (c0 c1 c2 c3 c4 c5 c6 c7 : Int) (t0 t1 t2 t3 t4 t5 t6 t7 : Tok) (n : Nat) (h' : Heap) (tk : Nat), 0 ≤ c0 ∧ c0 < 1000000 → 0 ≤ c1 ∧ c1 < 1000000 → 0 ≤ c2 ∧ c2 < 1000000 → 0 ≤ c3 ∧ c3 < 1000000 → 0 ≤ c4 ∧ c4 < 1000000 → 0 ≤ c5 ∧ c5 < 1000000 → 0 ≤ c6 ∧ c6 < 1000000 → 0 ≤ c7 ∧ c7 < 1000000 → (∀ b o, g.get? b = some o → h'.get? b = some o) → h'.get? d = some (W.listOf #[.int c0 t0, .int c1 t1, .int c2 t2, .int c3 t3, .int c4 t4, .int c5 t5, .int c6 t6, .int c7 t7] n) → g.get? d = none → Q (.ref d) { s with heap := h', toks := tk }),
 wpAny (model PySem.Challenge.rw_rs0050_02.row.prog w) (Mine.topA dp un gd outer) (call (.ref 157) [.ref l]) Q E s := by
  have kz : PySem.Challenge.rw_rs0050_02 = PySem.Challenge.rw_rs0050_02 → Mine.hK = Mine.hK → True := by
    k_fill
    intros; trivial
  clear kz
  intro w loose mean mg mb dp un gd outer base g s l vs ns Q E G X1 hdp hL hI hlen ret
  have X2 := G.X
  have hNL := G.T.nolimit
  have GX := X1.keeps G.k
  refine wpAny_call ?_
  refine' Mine.enter_raw (muts := []) G X1 ?m ?ho ?cd ?room ?bind ?loc ?_ ?c1 ?c2 ?c3 ?c4
  case m => intro p hp; cases hp
  case ho => k_is
  case cd => k_is
  case room => k_room
  case bind => first | exact BindsTo.of_eq rfl | exact binds_K GX rfl (by k_is) rfl rfl rfl
  case loc => exact locs rfl
  case c1 => decide
  case c2 => exact rfl
  case c3 => exact rfl
  case c4 => exact rfl
  intro L' h' F' N' l1 X' T'
  clear X1 GX
  try dsimp only
  try k_fold
  k_steps
  rename_i l' _ l1 h1 F1 N1 h2 e F2 N2 S2
  refine Mine.enum_inv S2 rfl (fun i news₁ => ∃ (cs : List Value) (ns : List Int), IntsAre cs ns ∧ ns.length = 8 ∧ news₁ = [(l', W.listOf cs.toArray 0)]) ?h0 ?step ?done
  case h0 =>
    exact ⟨[.int 0 _, .int 1 _, .int 2 _, .int 0 _, .int 51 _, .int 1 _, .int 0 _, .int 2 _], [0, 1, 2, 0, 51, 1, 0, 2], .cons _ _ (.cons _ _ (.cons _ _ (.cons _ _ (.cons _ _ (.cons _ _ (.cons _ _ (.cons _ _ .nil))))))), rfl, rfl⟩
  case step =>
    rintro i a t v news₁ h tk own hi hv ⟨cs, ms, hms, hl8, rfl⟩ hadr hoff F3 N3
    obtain ⟨tv, rfl⟩ := ItemKind.int_is hv
    clear F2 N2 S2
    simp only [List.cons_append, List.nil_append] at N3
    simp only [List.map_cons, List.map_nil] at hoff
    k_steps
    rename_i h4 F4 N4 hi4 hl4 hs4
    exact ⟨_, _, _, [_], rfl, F4, N4, rfl, ⟨_, _, hi4, hl4.trans hl8, rfl⟩, fun z h1 h2 => by simp [h1, h2]⟩
  case done =>
    rintro u v h' tk news' F3 N3 hadr ⟨cs, ms, hms, hl8, rfl⟩
    obtain ⟨c0, c1, c2, c3, c4, c5, c6, c7, t0, t1, t2, t3, t4, t5, t6, t7, rfl, rfl⟩ := Mine.ints8 hms hl8
    clear F2 N2 S2
    k_steps
    rename_i F4 N4 _
    have bd : ∀ x : Int, 0 ≤ x.fmod 1000000 ∧ x.fmod 1000000 < 1000000 := fun x => ⟨Int.fmod_nonneg_of_pos x (by decide), Int.fmod_lt_of_pos x (by decide)⟩
    exact ret _ _ _ _ _ _ _ _ _ _ _ _ _ _ _ _ _ _ _ _ (bd _) (bd _) (bd _) (bd _) (bd _) (bd _) (bd _) (bd _) F4.keep (N4 _ (.head _)).1 (N4 _ (.head _)).2.2


set_option maxRecDepth 100000
set_option maxHeartbeats 8000000
set_option pp.maxSteps 30000
set_option pp.deepTerms.threshold 3
set_option linter.unusedSimpArgs false
set_option linter.unusedVariables false

theorem instAcc {h₀ h : Heap} {L x C dx : Addr} {news : List (Addr × Obj)} {od : Obj} {its : Array Value} {ep : Nat} {sl : Array (Option Value)} (N : News h₀ L h news) (h1 : (x, (⟨.ref C, some dx, .seq its ep, sl⟩ : Obj)) ∈ news) (h2 : (dx, od) ∈ news) :
    InstAt h x ⟨.ref C, some dx, .seq its ep, sl⟩ C (some od) := ⟨(N _ h1).1, rfl, rfl, (N _ h2).1⟩
local macro_rules | `(tactic| k_inst) => `(tactic| (refine' instAcc ?N ?h1 ?h2; (case N => k_asm); (case h1 => k_mem); (case h2 => k_mem)))
theorem init_raw : ∀ {w : World} {loose : List Str} {mean : ExcName → Option Value} {mg mb : Str → Option Value} {dp un : Nat} {gd : Option (List Code)} {outer : List Env} {base g : Heap} {s : Shared} {x d : Nat} {i : Int} {t : Tok} {Q E : Value → Shared → Prop}
 (G : Mine.Gr (Mine.K2 w.params) (Mine.topA dp un gd outer) base outer loose mean mg mb g s) (X1 : (Mine.hK w.params).In g) (hdp : dp ≤ 400) (hun : un ≤ 500) (hx : s.heap.get? x = some (Mine.accO d #[] 0) ∧ g.get? x = none) (hd : s.heap.get? d = some (dictOf [] 0) ∧ g.get? d = none) (hne : d < x) (hx185 : 185 ≤ x)
 (ret : ∀ (h' : Heap) (tk tk1 : Nat), (∀ b o, g.get? b = some o → h'.get? b = some o) → h'.get? x = some (Mine.accO d #[] 0) → h'.get? d = some (Mine.sizD w i tk1 t) → Q .none { s with heap := h', toks := tk }),
 wpAny (model PySem.Challenge.rw_rs0050_02.row.prog w) (Mine.topA dp un gd outer) (call (.ref 87) [.ref x, .int i t]) Q E s := by
  have kz : PySem.Challenge.rw_rs0050_02 = PySem.Challenge.rw_rs0050_02 → Mine.hK = Mine.hK → True := by
    k_fill
    intros; trivial
  clear kz
  intro w loose mean mg mb dp un gd outer base g s x d i t Q E G X1 hdp hun hx hd hne hx185 ret
  have X2 := G.X
  have hNL := G.T.nolimit
  have GX := X1.keeps G.k
  refine wpAny_call ?_
  refine' Mine.enter_rawAt (muts := [(x, Mine.accO d #[] 0), (d, dictOf [] 0)]) G X1 ?m ?ho ?cd ?room ?bind ?loc ?_ ?c1 ?c2 ?c3 ?c4
  case m => intro p hp; rcases List.mem_cons.mp hp with rfl | hp
            · exact hx
            · rw [List.mem_singleton.mp hp]; exact hd
  case ho => k_is
  case cd => k_is
  case room => k_room
  case bind => first | exact BindsTo.of_eq rfl | exact binds_K GX rfl (by k_is) rfl rfl rfl
  case loc => exact locs rfl
  case c1 => decide
  case c2 => exact rfl
  case c3 => exact rfl
  case c4 => exact rfl
  intro L' h' F' N' l1 X' T'
  clear X1 GX
  try dsimp only
  try k_fold
  
  k_steps
  refine Mine.setsize_K rfl ⟨rfl, (show dp + 1 ≤ 500 from Mine.up_to1 hdp rfl), (show un + 3 ≤ 1000 from Mine.up_to1 hun rfl)⟩ F' N' X2 hNL (Nat.ne_of_gt hne) (fun p hp => by cases hp) ?_
  intro h1 tk1 F1 N1 hsz1
  try dsimp only
  refine ks_wpAt_execs_cons ?_
  refine ks_wpAt_Expr_any ?_
  refine ks_wpAt_MethodCall ?_
  k_steps
  rename_i so h2 F2 N2 l2
  obtain ⟨y, rfl⟩ : ∃ y, x = y + 185 := ⟨x - 185, by omega⟩
  rw [PySem.W.ZFast.ze6042679816869820781]
  refine Mine.runI (n := 2000) (led := [(so, ks_superObj 148 (y+185) 148), (y+185, Mine.accO d #[] 0)]) ⟨rfl, (show dp + 1 ≤ 500 from Mine.up_to1 hdp rfl), (show un + 3 ≤ 1000 from Mine.up_to1 hun rfl)⟩ F2 N2 X2 hNL (Mine.sub_cons (by k_mem) (Mine.sub_cons (by k_mem) Mine.sub_nil)) (Mine.pw2 (Mine.ne_gt l2.1)) (fun n0 t0 stk => Mine.superm_run w stk n0 t0 y d so _) (fun q h3 F3 l3 l4 N3 hs3 => ?_)
  try dsimp only
  replace N3 := N3 [(q, Mine.mwO (y+185)), (y+185, Mine.accO d #[] 0), (d, Mine.sizD w i tk1 t)] (Mine.al_cons (.inl (by k_mem)) (Mine.al_cons (.inl (by k_mem)) (Mine.al_cons (.inr ⟨by k_mem, Mine.nm2 (Mine.ne_lt l2.2) (Mine.ne_lt hne)⟩) Mine.al_nil)))
  k_steps
  refine Mine.runI (n := 2000) (led := [(q, Mine.mwO (y+185)), (y+185, Mine.accO d #[] 0)]) ⟨rfl, (show dp + 1 ≤ 500 from Mine.up_to1 hdp rfl), (show un + 3 ≤ 1000 from Mine.up_to1 hun rfl)⟩ F3 N3 X2 hNL (Mine.sub_cons (by k_mem) (Mine.sub_cons (by k_mem) Mine.sub_nil)) (Mine.pw2 (Mine.ne_gt (l3 _ (.tail _ (.head _))))) (fun n0 t0 stk => Mine.linit_run w stk n0 t0 (y+185) d q _ _) (fun q4 h4 F4 l5 l6 N4 hs4 => ?_)
  replace N4 := N4 [(y+185, Mine.accO d #[] 0), (d, Mine.sizD w i tk1 t)] (Mine.al_cons (.inl (by k_mem)) (Mine.al_cons (.inr ⟨by k_mem, Mine.nm2 (Mine.ne_lt (l3 _ (.tail _ (.tail _ (.head _))))) (Mine.ne_lt hne)⟩) Mine.al_nil))
  try dsimp only
  k_steps
  exact ret _ _ _ F4.keep (N4 _ (.head _)).1 (N4 _ (.tail _ (.head _))).1

set_option maxRecDepth 100000


set_option maxRecDepth 100000
set_option maxHeartbeats 8000000
set_option pp.maxSteps 30000
set_option pp.deepTerms.threshold 3
set_option linter.unusedSimpArgs false
set_option linter.unusedVariables false
theorem str_raw : ∀ {w : World} {loose : List Str} {mean : ExcName → Option Value} {mg mb : Str → Option Value} {dp un : Nat} {gd : Option (List Code)} {outer : List Env} {base g : Heap} {s : Shared} {x d : Nat} {i : Int} {t1 t2 : Tok} {ps : List Mine.Cel} {ep : Nat} {ot : Obj} {Q E : Value → Shared → Prop}
 (G : Mine.Gr (Mine.K2 w.params) (Mine.topA dp un gd outer) base outer loose mean mg mb g s) (X1 : (Mine.hK w.params).In g) (hdp : dp ≤ 400) (hun : un ≤ 500) (hm : ∀ p ∈ [(x, Mine.accO d (Mine.refs ps).toArray ep), (d, Mine.sizD w i t1 t2), (118, ot)], s.heap.get? p.1 = some p.2 ∧ g.get? p.1 = none) (hne : d < x) (hx185 : 185 ≤ d) (hot : ot = Mine.tab0 ∨ ∃ cd, ot = Mine.tab1 83 32 cd) (hps : ps.length ≤ 3) (hT : ∀ c ∈ ps, g.IsTuple c.ad c.vs) (hlen : ∀ c ∈ ps, c.ws.length + c.pt.length ≤ 100) (hbare : AllBare s.gens)
 (ret : ∀ (s' : Shared) (t' : Tok) (cd : Value), (∀ b o, g.get? b = some o → s'.heap.get? b = some o) → s'.heap.get? x = some (Mine.accO d (Mine.refs ps).toArray ep) → s'.heap.get? d = some (Mine.sizD w i t1 t2) → s'.heap.get? 118 = some (Mine.tab1 83 32 cd) → s'.os = s.os → AllBare s'.gens → Q (.str (Txt.join "" (ps.map fun c => Txt.join "" [c.ws, c.pt])) t') s'),
 wpAny (model PySem.Challenge.rw_rs0050_02.row.prog w) (Mine.topA dp un gd outer) (call (.ref 123) [.ref x]) Q E s := by
  have kz : PySem.Challenge.rw_rs0050_02 = PySem.Challenge.rw_rs0050_02 → Mine.hK = Mine.hK → True := by
    k_fill
    intros; trivial
  clear kz
  intro w loose mean mg mb dp un gd outer base g s x d i t1 t2 ps ep ot Q E G X1 hdp hun hm hne hx185 hot hps hT hlen hbare ret
  have X2 := G.X
  have hNL := G.T.nolimit
  have GX := X1.keeps G.k
  refine wpAny_call ?_
  refine' Mine.enter_raw (muts := [(x, Mine.accO d (Mine.refs ps).toArray ep), (d, Mine.sizD w i t1 t2), (118, ot)]) G X1 ?m ?ho ?cd ?room ?bind ?loc ?_ ?c1 ?c2 ?c3 ?c4
  case m => exact hm
  case ho => k_is
  case cd => k_is
  case room => k_room
  case bind => first | exact BindsTo.of_eq rfl | exact binds_K GX rfl (by k_is) rfl rfl rfl
  case loc => exact locs rfl
  case c1 => decide
  case c2 => exact rfl
  case c3 => exact rfl
  case c4 => exact rfl
  intro L' h' F' N' l1 X' T'
  clear X1 GX
  try dsimp only
  try k_fold
  
  have hA : Mine.Roomy (Mine.topA (dp + 1) (un + 3) gd outer) := ⟨rfl, (show dp + 1 ≤ 500 from Mine.up_to1 hdp rfl), (show un + 3 ≤ 1000 from Mine.up_to1 hun rfl)⟩
  k_steps
  refine wpAny_GeneratorExp_walksQT (cl := []) rfl rfl (by first | rfl | kernel_rfl) (by decide) rfl rfl rfl (by decide) rfl (by k_room) ?_ (fun _ => by rfl)
  k_steps
  obtain ⟨mL, F'⟩ : ∃ m, Fr g L' h' m := ⟨_, F'⟩
  refine Mine.iter_K hA F' N' X2 hNL (Mine.al_cons (Mine.ne_lt hne) (Mine.al_cons (Mine.ne_lt (by (show 118 < x); omega)) Mine.al_nil)) fun I h2 F2 N2 l2 l3 l4 hs2 => ⟨hNL.keeps F2.keep, ?_⟩
  have l118 : Nat.lt 118 I := l3 _ (.tail _ (.head _))
  have ld : Nat.lt d I := l3 _ (.head _)
  refine wpAny_mono (Q := fun cd s₃ => ∃ h3 tk, s₃ = { s with heap := h3, toks := tk } ∧ Fr g L' h3 mL ∧ News g L' h3 [(I, Mine.litO x 0), (x, Mine.accO d (Mine.refs ps).toArray ep), (d, Mine.sizD w i t1 t2), (118, Mine.tab1 83 32 cd)]) ?_ (fun cd s₃ hs₃ => ?_) (fun _ _ z => z)
  · rcases hot with rfl | ⟨cd, rfl⟩
    · refine Mine.runI (n := 2000) (dirs := [.k, .l 0, .l 0, .l 0, .l 0]) (is := [0]) (led := [(118, Mine.tab0)]) (led' := fun n0 t0 => [(118, Mine.tab1 83 32 (.ref (n0 + 2)))]) (a := fun n0 t0 => .ref (n0 + 2)) (e := fun n0 t0 => [118, 118, 118, 118]) (al := 3) (tk := 5) hA F2 N2 X2 hNL (Mine.sub_cons (by k_mem) Mine.sub_nil) Mine.pw1 (fun n0 t0 stk => by kernel_rfl) fun n0 h3 F3 l5 l6 N3 hs3 => ⟨h3, _, rfl, F3, N3 _ ?_⟩
      exact Mine.al_cons (.inr ⟨by k_mem, Mine.nm1 (Mine.ne_gt l118)⟩) (Mine.al_cons (.inr ⟨by k_mem, Mine.nm1 (Mine.ne_gt (by (show 118 < x); omega))⟩) (Mine.al_cons (.inr ⟨by k_mem, Mine.nm1 (Mine.ne_gt (by (show 118 < d); omega))⟩) (Mine.al_cons (.inl (by k_mem)) Mine.al_nil)))
    · refine Mine.runI (n := 2000) (dirs := [.k, .l 0]) (is := [0]) (led := [(118, Mine.tab1 83 32 cd)]) (led' := fun n0 t0 => [(118, Mine.tab1 83 32 cd)]) (a := fun n0 t0 => cd) (e := fun n0 t0 => [118]) (al := 0) (tk := 0) hA F2 N2 X2 hNL (Mine.sub_cons (by k_mem) Mine.sub_nil) Mine.pw1 (fun n0 t0 stk => by kernel_rfl) fun n0 h3 F3 l5 l6 N3 hs3 => ⟨h3, _, rfl, F3, N3 _ ?_⟩
      exact Mine.al_cons (.inr ⟨by k_mem, Mine.nm1 (Mine.ne_gt l118)⟩) (Mine.al_cons (.inr ⟨by k_mem, Mine.nm1 (Mine.ne_gt (by (show 118 < x); omega))⟩) (Mine.al_cons (.inr ⟨by k_mem, Mine.nm1 (Mine.ne_gt (by (show 118 < d); omega))⟩) (Mine.al_cons (.inl (by k_mem)) Mine.al_nil)))
  obtain ⟨h3, tk3, rfl, F3, N3⟩ := hs₃
  obtain ⟨bm, ob, hbm, hne0, hbo, hcls, hdict, hdata⟩ := T'.bmain
  refine wpAny_builtinsFor (T'.g.keeps F3.keep) hbm hne0 (F3.keep _ _ hbo) hcls hdict hdata ?_
  obtain ⟨n0, hs4⟩ : ∃ n0 : Nat, h3.objs.size = n0 := ⟨_, rfl⟩
  obtain ⟨h4, hh4⟩ : ∃ h4, h4 = h3 := ⟨_, rfl⟩
  subst hh4
  have F4 := F3
  have N4 := N3
  have l5 : ∀ p ∈ [(I, Mine.litO x 0), (x, Mine.accO d (Mine.refs ps).toArray ep), (d, Mine.sizD w i t1 t2), (118, Mine.tab1 83 32 cd)], Nat.lt p.1 n0 := fun p hp => hs4 ▸ Heap.lt_size (N4 p hp).1
  have l6 : Nat.lt L' n0 := by obtain ⟨_, _, _, e, _⟩ := F4.ns; exact hs4 ▸ Heap.lt_size e
  have lx : Nat.lt x n0 := l5 _ (.tail _ (.head _))
  have lI : Nat.lt I n0 := l5 _ (.head _)
  have X4 : (Mine.K2 w.params).In h4 := X2.keeps F4.keep
  have hNL4 : h4.NoLimit := hNL.keeps F4.keep
  have hsz : h4.objs.size = n0 := hs4
  have hcI : cStatics ≠ I ∧ cStatics ≠ x := ⟨Mine.ne_lt (by (show 2 < I); omega), Mine.ne_lt (by (show 2 < x); omega)⟩
  have hTI : ∀ c ∈ ps, c.ad ≠ I := fun c hc q => by
    obtain ⟨o, this, _⟩ := hT c hc
    rw [q, (N4 _ (.head _)).2.2] at this; cases this
  refine ⟨I, Mine.celFp I x ps, [I], (Mine.refs ps).length, fun j v => j < (Mine.refs ps).length ∧ v = Mine.celV ps j, Mine.celSt I x d ps ep, Mine.celMid I x d ps ep, fun _ => true, fun j y => ∃ c t, ps[j]? = some c ∧ y = .str (Txt.join "" [c.ws, c.pt]) t, rfl, fun A' hA' => Mine.accC hA' (Mine.ne_gt l2) hcI hps hTI, fun j vs e => by rw [e.2]; exact Mine.celV_two ps j, Mine.celSt0 hNL4 (N4 _ (.head _)).1 (N4 _ (.tail _ (.head _))).1 (fun c hc => (hT c hc).at fun o e => F4.keep _ _ e), Mine.celFp_lt (by (show 2 < h4.objs.size); rw [hsz]; exact Nat.lt_trans (by (show 2 < x); omega) lx) (by rw [hsz]; exact lI) (by rw [hsz]; exact lx) (fun c hc => let ⟨o, e, _⟩ := hT c hc; Heap.lt_size (F4.keep _ _ e)), hNL4, ?cs, ?quiet, ?cont⟩
  case cs =>
    exact Mine.nm1 hcI.1
  case quiet =>
    intro href hk
    have X6 : (Mine.K2 w.params).In href := X4.keeps hk
    refine ⟨fun A' E' j va vb s₂ m₂ hA' hP hn hma hmb hkp => wpAny_pure ⟨rfl, s₂.heap, s₂.toks, rfl, fun _ _ e => e⟩, fun A' E' j va vb s₂ m₂ hA' hP _ hn hma hmb hkp => ?_⟩
    obtain ⟨hj, hv⟩ := hP
    rw [Mine.refs, List.length_map] at hj
    have hc : ps[j]? = some ps[j] := List.getElem?_eq_getElem hj
    rw [show Mine.celV ps j = #[.str ps[j].ws ps[j].tw, .str ps[j].pt ps[j].tp] by unfold Mine.celV; rw [hc]; rfl] at hv
    cases hv
    refine wpAny_mono (Q := fun y s' => (∃ t, y = .str (Txt.join "" [ps[j].ws, ps[j].pt]) t) ∧ Keeps s₂ s') (E := E') ?_ (fun y s' hy => ⟨let ⟨t, e⟩ := hy.1; ⟨_, t, hc, e⟩, hy.2⟩) (fun _ _ z => z)
    refine MethodCall_ ?_
    refine Mine.elt_ok (te := 269) rfl rfl rfl rfl ?hG hn hma hmb (Nat.le_trans (hlen _ (List.getElem_mem hj)) (by decide))
    case hG =>
      have X7 : (Mine.K2 w.params).In s₂.heap := fun b o hb => hkp b (List.mem_range.mpr (Heap.lt_size (X4 b o hb))) (fun q => by
        rw [List.mem_singleton.mp q] at hb
        have := X2 _ _ hb
        rw [(N4 _ (.head _)).2.2] at this; cases this) o (X6 b o hb)
      exact looks_nsIn X7 (by kernel_rfl)
  case cont =>
    intro a h5 tk5 gs hb ha hsz5 k5 W5 G5
    k_steps
    have Gn := Mine.gen_of (K := L') W5 G5 ha hsz5 (fun b hb => by rw [List.mem_singleton.mp hb]; exact l4) (by (show L' < h4.objs.size); rw [hsz]; exact l6)
    have F5 : Fr g L' h5 mL := ⟨F4.ns.keeps k5, fun b o e => k5 _ _ (F4.keep _ _ e), F4.above⟩
    have e1 : (List.range (passing (fun _ => true) (Mine.refs ps).length 0).length).map (fun j => match ps[j]? with | some c => Txt.join "" [c.ws, c.pt] | none => "") = ps.map fun c => Txt.join "" [c.ws, c.pt] := by
      rw [Mine.passing_all]
      apply List.ext_getElem
      · simp
      · intro j h1 h2
        simp at h1 h2
        simp [h2]
    refine join_rowsK F5 (hbare.push hb) Gn (Nat.le_refl _) (fun j => match ps[j]? with | some c => Txt.join "" [c.ws, c.pt] | none => "") ?htx ?hok ?_ ?hsz
    case htx =>
      rintro j v ⟨i', hi', c, t, hc, rfl⟩
      rw [Mine.passing_all] at hi'
      obtain rfl : i' = j := by
        have := List.getElem?_eq_some_iff.mp hi'
        obtain ⟨_, e⟩ := this
        simpa using e.symm
      exact ⟨t, by simp [hc]⟩
    case hok =>
      rw [e1]; exact Mine.cel_ok hps hlen
    case hsz => rw [Mine.passing_all]; simp; exact Nat.le_trans hps (by decide)
    intro s' t' F6 B6 o6 k6
    rw [e1]
    have lL : ∀ p ∈ [(x, Mine.accO d (Mine.refs ps).toArray ep), (d, Mine.sizD w i t1 t2), (118, ot)], p.1 ≤ L' := fun p hp => Nat.le_of_lt (l1 p hp)
    exact ret s' t' cd F6.keep (k6 _ _ (lL _ (.head _)) (k5 _ _ (N4 _ (.tail _ (.head _))).1)) (k6 _ _ (lL _ (.tail _ (.head _))) (k5 _ _ (N4 _ (.tail _ (.tail _ (.head _)))).1)) (k6 _ _ (lL _ (.tail _ (.tail _ (.head _)))) (k5 _ _ (N4 _ (.tail _ (.tail _ (.tail _ (.head _))))).1)) o6 B6


set_option maxRecDepth 100000
set_option maxHeartbeats 8000000
set_option pp.maxSteps 30000
set_option pp.deepTerms.threshold 3
set_option linter.unusedSimpArgs false
set_option linter.unusedVariables false
theorem len_raw : ∀ {w : World} {loose : List Str} {mean : ExcName → Option Value} {mg mb : Str → Option Value} {dp un : Nat} {gd : Option (List Code)} {outer : List Env} {base g : Heap} {s : Shared} {x d : Nat} {i : Int} {t1 t2 : Tok} {ps : List Mine.Cel} {ep : Nat} {ot : Obj} {Q E : Value → Shared → Prop}
 (G : Mine.Gr (Mine.K2 w.params) (Mine.topA dp un gd outer) base outer loose mean mg mb g s) (X1 : (Mine.hK w.params).In g) (hdp : dp ≤ 400) (hun : un ≤ 500) (hm : ∀ p ∈ [(x, Mine.accO d (Mine.refs ps).toArray ep), (d, Mine.sizD w i t1 t2), (111, ot)], s.heap.get? p.1 = some p.2 ∧ g.get? p.1 = none) (hne : d < x) (hx185 : 185 ≤ d) (hot : ot = Mine.tab0 ∨ ∃ cd, ot = Mine.tab1 80 19 cd) (hps : ps.length ≤ 3) (hT : ∀ c ∈ ps, g.IsTuple c.ad c.vs) (hlen : ∀ c ∈ ps, c.ws.length + c.pt.length ≤ 100) (hbare : AllBare s.gens) (hi : -1000000 ≤ i ∧ i ≤ 1000000)
 (ret : ∀ (s' : Shared) (t' : Tok) (cd : Value), (∀ b o, g.get? b = some o → s'.heap.get? b = some o) → s'.heap.get? x = some (Mine.accO d (Mine.refs ps).toArray ep) → s'.heap.get? d = some (Mine.sizD w i t1 t2) → s'.heap.get? 111 = some (Mine.tab1 80 19 cd) → s'.os = s.os → AllBare s'.gens → Q (.int (i + ((ps.map fun c => ((c.ws.length + c.pt.length : Nat) : Int)).sum)) t') s'),
 wpAny (model PySem.Challenge.rw_rs0050_02.row.prog w) (Mine.topA dp un gd outer) (call (.ref 116) [.ref x]) Q E s := by
  have kz : PySem.Challenge.rw_rs0050_02 = PySem.Challenge.rw_rs0050_02 → Mine.hK = Mine.hK → True := by
    k_fill
    intros; trivial
  clear kz
  intro w loose mean mg mb dp un gd outer base g s x d i t1 t2 ps ep ot Q E G X1 hdp hun hm hne hx185 hot hps hT hlen hbare hi ret
  have X2 := G.X
  have hNL := G.T.nolimit
  have GX := X1.keeps G.k
  refine wpAny_call ?_
  refine' Mine.enter_raw (muts := [(x, Mine.accO d (Mine.refs ps).toArray ep), (d, Mine.sizD w i t1 t2), (111, ot)]) G X1 ?m ?ho ?cd ?room ?bind ?loc ?_ ?c1 ?c2 ?c3 ?c4
  case m => exact hm
  case ho => k_is
  case cd => k_is
  case room => k_room
  case bind => first | exact BindsTo.of_eq rfl | exact binds_K GX rfl (by k_is) rfl rfl rfl
  case loc => exact locs rfl
  case c1 => decide
  case c2 => exact rfl
  case c3 => exact rfl
  case c4 => exact rfl
  intro L' h' F' N' l1 X' T'
  clear X1 GX
  try dsimp only
  try k_fold
  
  have hA : Mine.Roomy (Mine.topA (dp + 1) (un + 3) gd outer) := ⟨rfl, (show dp + 1 ≤ 500 from Mine.up_to1 hdp rfl), (show un + 3 ≤ 1000 from Mine.up_to1 hun rfl)⟩
  k_steps
  refine wpAny_GeneratorExp_walksQT (cl := []) rfl rfl (by first | rfl | kernel_rfl) (by decide) rfl rfl rfl (by decide) rfl (by k_room) ?_ (fun _ => by rfl)
  k_steps
  obtain ⟨mL, hself, F'⟩ : ∃ m : Str → Option Value, m "self" = some (.ref x) ∧ Fr g L' h' m := ⟨_, rfl, F'⟩
  refine Mine.iter_K hA F' N' X2 hNL (Mine.al_cons (Mine.ne_lt hne) (Mine.al_cons (Mine.ne_lt (by (show 111 < x); omega)) Mine.al_nil)) fun I h2 F2 N2 l2 l3 l4 hs2 => ⟨hNL.keeps F2.keep, ?_⟩
  have l111 : Nat.lt 111 I := l3 _ (.tail _ (.head _))
  have ld : Nat.lt d I := l3 _ (.head _)
  refine wpAny_mono (Q := fun cd s₃ => ∃ h3 tk, s₃ = { s with heap := h3, toks := tk } ∧ Fr g L' h3 mL ∧ News g L' h3 [(I, Mine.litO x 0), (x, Mine.accO d (Mine.refs ps).toArray ep), (d, Mine.sizD w i t1 t2), (111, Mine.tab1 80 19 cd)]) ?_ (fun cd s₃ hs₃ => ?_) (fun _ _ z => z)
  · rcases hot with rfl | ⟨cd, rfl⟩
    · refine Mine.runI (n := 2000) (dirs := [.k, .l 0, .l 0, .l 0, .l 0]) (is := [0]) (led := [(111, Mine.tab0)]) (led' := fun n0 t0 => [(111, Mine.tab1 80 19 (.ref (n0 + 2)))]) (a := fun n0 t0 => .ref (n0 + 2)) (e := fun n0 t0 => [111, 111, 111, 111]) (al := 3) (tk := 5) hA F2 N2 X2 hNL (Mine.sub_cons (by k_mem) Mine.sub_nil) Mine.pw1 (fun n0 t0 stk => by kernel_rfl) fun n0 h3 F3 l5 l6 N3 hs3 => ⟨h3, _, rfl, F3, N3 _ ?_⟩
      exact Mine.al_cons (.inr ⟨by k_mem, Mine.nm1 (Mine.ne_gt l111)⟩) (Mine.al_cons (.inr ⟨by k_mem, Mine.nm1 (Mine.ne_gt (by (show 111 < x); omega))⟩) (Mine.al_cons (.inr ⟨by k_mem, Mine.nm1 (Mine.ne_gt (by (show 111 < d); omega))⟩) (Mine.al_cons (.inl (by k_mem)) Mine.al_nil)))
    · refine Mine.runI (n := 2000) (dirs := [.k, .l 0]) (is := [0]) (led := [(111, Mine.tab1 80 19 cd)]) (led' := fun n0 t0 => [(111, Mine.tab1 80 19 cd)]) (a := fun n0 t0 => cd) (e := fun n0 t0 => [111]) (al := 0) (tk := 0) hA F2 N2 X2 hNL (Mine.sub_cons (by k_mem) Mine.sub_nil) Mine.pw1 (fun n0 t0 stk => by kernel_rfl) fun n0 h3 F3 l5 l6 N3 hs3 => ⟨h3, _, rfl, F3, N3 _ ?_⟩
      exact Mine.al_cons (.inr ⟨by k_mem, Mine.nm1 (Mine.ne_gt l111)⟩) (Mine.al_cons (.inr ⟨by k_mem, Mine.nm1 (Mine.ne_gt (by (show 111 < x); omega))⟩) (Mine.al_cons (.inr ⟨by k_mem, Mine.nm1 (Mine.ne_gt (by (show 111 < d); omega))⟩) (Mine.al_cons (.inl (by k_mem)) Mine.al_nil)))
  obtain ⟨h3, tk3, rfl, F3, N3⟩ := hs₃
  obtain ⟨bm, ob, hbm, hne0, hbo, hcls, hdict, hdata⟩ := T'.bmain
  refine wpAny_builtinsFor (T'.g.keeps F3.keep) hbm hne0 (F3.keep _ _ hbo) hcls hdict hdata ?_
  obtain ⟨n0, hs4⟩ : ∃ n0 : Nat, h3.objs.size = n0 := ⟨_, rfl⟩
  obtain ⟨h4, hh4⟩ : ∃ h4, h4 = h3 := ⟨_, rfl⟩
  subst hh4
  have F4 := F3
  have N4 := N3
  have l5 : ∀ p ∈ [(I, Mine.litO x 0), (x, Mine.accO d (Mine.refs ps).toArray ep), (d, Mine.sizD w i t1 t2), (111, Mine.tab1 80 19 cd)], Nat.lt p.1 n0 := fun p hp => hs4 ▸ Heap.lt_size (N4 p hp).1
  have lx : Nat.lt x n0 := l5 _ (.tail _ (.head _))
  have lI : Nat.lt I n0 := l5 _ (.head _)
  have X4 : (Mine.K2 w.params).In h4 := X2.keeps F4.keep
  have hNL4 : h4.NoLimit := hNL.keeps F4.keep
  have hsz : h4.objs.size = n0 := hs4
  have hcI : cStatics ≠ I ∧ cStatics ≠ x := ⟨Mine.ne_lt (by (show 2 < I); omega), Mine.ne_lt (by (show 2 < x); omega)⟩
  have hTI : ∀ c ∈ ps, c.ad ≠ I := fun c hc q => by
    obtain ⟨o, this, _⟩ := hT c hc
    rw [q, (N4 _ (.head _)).2.2] at this; cases this
  refine ⟨I, Mine.celFp I x ps, [I], (Mine.refs ps).length, fun j v => j < (Mine.refs ps).length ∧ v = Mine.celV ps j, Mine.celSt I x d ps ep, Mine.celMid I x d ps ep, fun _ => true, fun j y => ∃ c t, ps[j]? = some c ∧ y = .int ((c.ws.length + c.pt.length : Nat) : Int) t, rfl, fun A' hA' => Mine.accC hA' (Mine.ne_gt l2) hcI hps hTI, fun j vs e => by rw [e.2]; exact Mine.celV_two ps j, Mine.celSt0 hNL4 (N4 _ (.head _)).1 (N4 _ (.tail _ (.head _))).1 (fun c hc => (hT c hc).at fun o e => F4.keep _ _ e), Mine.celFp_lt (by (show 2 < h4.objs.size); rw [hsz]; exact Nat.lt_trans (by (show 2 < x); omega) lx) (by rw [hsz]; exact lI) (by rw [hsz]; exact lx) (fun c hc => let ⟨o, e, _⟩ := hT c hc; Heap.lt_size (F4.keep _ _ e)), hNL4, ?cs, ?quiet, ?cont⟩
  case cs =>
    exact Mine.nm1 hcI.1
  case quiet =>
    intro href hk
    have X6 : (Mine.K2 w.params).In href := X4.keeps hk
    refine ⟨fun A' E' j va vb s₂ m₂ hA' hP hn hma hmb hkp => wpAny_pure ⟨rfl, s₂.heap, s₂.toks, rfl, fun _ _ e => e⟩, fun A' E' j va vb s₂ m₂ hA' hP _ hn hma hmb hkp => ?_⟩
    obtain ⟨hj, hv⟩ := hP
    rw [Mine.refs, List.length_map] at hj
    have hc : ps[j]? = some ps[j] := List.getElem?_eq_getElem hj
    rw [show Mine.celV ps j = #[.str ps[j].ws ps[j].tw, .str ps[j].pt ps[j].tp] by unfold Mine.celV; rw [hc]; rfl] at hv
    cases hv
    refine wpAny_mono (Q := fun y s' => (∃ t, y = .int ((ps[j].ws.length + ps[j].pt.length : Nat) : Int) t) ∧ Keeps s₂ s') (E := E') ?_ (fun y s' hy => ⟨let ⟨t, e⟩ := hy.1; ⟨_, t, hc, e⟩, hy.2⟩) (fun _ _ z => z)
    refine Mine.eltLen_ok rfl rfl rfl rfl ?hG hn hma hmb (Nat.le_trans (hlen _ (List.getElem_mem hj)) (by decide))
    case hG =>
      have X7 : (Mine.K2 w.params).In s₂.heap := fun b o hb => hkp b (List.mem_range.mpr (Heap.lt_size (X4 b o hb))) (fun q => by
        rw [List.mem_singleton.mp q] at hb
        have := X2 _ _ hb
        rw [(N4 _ (.head _)).2.2] at this; cases this) o (X6 b o hb)
      have kp7 : ∀ b o, g.get? b = some o → s₂.heap.get? b = some o := fun b o e => hkp b (List.mem_range.mpr (Heap.lt_size (F4.keep b o e))) (fun q => by
        rw [List.mem_singleton.mp q, (N4 _ (.head _)).2.2] at e; cases e) o (hk _ _ (F4.keep b o e))
      have hb7 : Looks (model PySem.Challenge.rw_rs0050_02.row.prog w) s₂.heap (nsGet builtinsNs "len") (some (.builtin "len")) := fun A Q E s k q => wpAny_nsGet ((T'.b.keeps kp7).keeps k) (by rw [T'.builtins "len" (by decide), show bootBuiltins "len" = some (.builtin "len") by kernel_rfl]; exact q)
      exact (looks_nsIn X7 (r := none) (by kernel_rfl)).andThen (hb7.andThen .now)
  case cont =>
    intro a h5 tk5 gs hb ha hsz5 k5 W5 G5
    k_steps
    have F5 : Fr g L' h5 mL := ⟨F4.ns.keeps k5, fun b o e => k5 _ _ (F4.keep _ _ e), F4.above⟩
    have N5 : News g L' h5 [(x, Mine.accO d (Mine.refs ps).toArray ep), (d, Mine.sizD w i t1 t2)] := Mine.al_cons ⟨k5 _ _ (N4 _ (.tail _ (.head _))).1, (N4 _ (.tail _ (.head _))).2⟩ (Mine.al_cons ⟨k5 _ _ (N4 _ (.tail _ (.tail _ (.head _)))).1, (N4 _ (.tail _ (.tail _ (.head _)))).2⟩ Mine.al_nil)
    refine wpAny_Name (wpAny_loadName_local rfl rfl F5.ns hself ?_)
    k_steps
    refine Mine.runRd (n := 2000) (dirs := [.l 0, .k, .k, .k, .k, .k, .k, .l 0, .k, .l 0, .k, .k, .k, .l 0, .l 0, .k, .l 1]) (is := [0, 1]) (led := [(x, Mine.accO d (Mine.refs ps).toArray ep), (d, Mine.sizD w i t1 t2)]) (a := fun n0 t0 => .int i t2) (e := fun n0 t0 => [d, x, x, x, x, x]) (al := 0) (tk := 1) hA X2 hNL F5.keep (Mine.al_cons ⟨(N5 _ (.head _)).1, (N5 _ (.head _)).2.2⟩ (Mine.al_cons ⟨(N5 _ (.tail _ (.head _))).1, (N5 _ (.tail _ (.head _))).2.2⟩ Mine.al_nil)) (Mine.pw2 (Mine.ne_gt hne)) (fun n0 t0 stk => by kernel_rfl) fun h6 k6 hs6 => ?_
    k_steps
    obtain ⟨f, hf⟩ : ∃ f : Mine.Cel → Int, f = fun c => ((c.ws.length + c.pt.length : Nat) : Int) := ⟨_, rfl⟩
    obtain ⟨val, hv⟩ : ∃ val : Nat → Int, val = fun j => (ps.map f).getD j 0 := ⟨_, rfl⟩
    have hvb : ∀ j, 0 ≤ val j ∧ val j ≤ 100 := fun j => by
      rw [hv]
      cases hc : ps[j]? with
      | none => simp [List.getD, hc]
      | some c =>
        have := hlen c (List.mem_of_getElem? hc)
        simp only [List.getD, List.getElem?_map, hc, Option.map_some, Option.getD_some, hf]
        omega
    have hn : (passing (fun _ => true) (Mine.refs ps).length 0).length = (ps.map f).length := by rw [Mine.passing_all, List.length_range, List.length_map, List.length_map]
    have e1 : preSum val (passing (fun _ => true) (Mine.refs ps).length 0).length = (ps.map f).sum := by rw [hn, hv]; exact Mine.preSum_all _
    have hb3 : (passing (fun _ => true) (Mine.refs ps).length 0).length ≤ 3 := by rw [hn, List.length_map]; exact hps
    refine Mine.call_sum2 (WalksS.in4_1 W5) (W5.frame 0 _ h6 _ G5 (Nat.le_succ _) fun b _ o e => k6 b o e) ?hfp (val := val) ?hval ?hm ?hfit ?_
    case hfp =>
      intro b hb'
      have e6 : h6.objs.size = a + 1 := by rw [hs6]; exact hsz5
      have ha' : h4.objs.size < a := ha
      show b < h6.objs.size
      rw [e6]
      rcases List.mem_cons.mp hb' with rfl | hb'
      · exact Nat.lt_succ_self _
      · rcases List.mem_cons.mp hb' with rfl | hb'
        · exact Nat.lt_succ_of_lt ha'
        · exact Nat.lt_succ_of_lt (Nat.lt_trans (List.mem_range.mp hb') ha')
    case hval =>
      rintro j v ⟨i', hi', c, t, hc, rfl⟩
      rw [Mine.passing_all] at hi'
      obtain rfl : i' = j := by
        have := List.getElem?_eq_some_iff.mp hi'
        obtain ⟨_, e⟩ := this
        simpa using e.symm
      exact ⟨t, by rw [hv]; simp [List.getD, hc, hf]⟩
    case hm => unfold InLong; omega
    case hfit =>
      intro j hj
      have h1 := hvb j
      have h2 := Mine.preSum_bd hvb (j + 1)
      have : ((j + 1 : Nat) : Int) ≤ 3 := by omega
      unfold InLong
      refine ⟨by omega, by omega, by omega⟩
    intro s' t' hm6
    rw [e1]
    have nI : ∀ b o, g.get? b = some o → b ∉ ([h4.objs.size, I] : List Addr) := fun b o e q => by
      rcases List.mem_cons.mp q with rfl | q
      · exact Nat.lt_irrefl _ (Heap.lt_size (F4.keep _ _ e))
      · rw [List.mem_singleton.mp q, (N4 _ (.head _)).2.2] at e; cases e
    have nT : ∀ p ∈ [(x, Mine.accO d (Mine.refs ps).toArray ep), (d, Mine.sizD w i t1 t2), (111, Mine.tab1 80 19 cd)], s'.heap.get? p.1 = some p.2 := fun p hp => by
      have hp4 := (N4 p (.tail _ hp)).1
      refine hm6.heap _ _ (fun q => ?_) (k6 _ _ (k5 _ _ hp4))
      rcases List.mem_cons.mp q with q | q
      · exact Nat.lt_irrefl _ (q ▸ Heap.lt_size hp4)
      · refine absurd (List.mem_singleton.mp q) ?_
        rcases List.mem_cons.mp hp with rfl | hp
        · exact Mine.ne_lt l2
        · rcases List.mem_cons.mp hp with rfl | hp
          · exact Mine.ne_lt ld
          · rw [List.mem_singleton.mp hp]; exact Mine.ne_lt l111
    have r := ret s' t' cd (fun b o e => hm6.heap _ _ (nI b o e) (k6 _ _ (k5 _ _ (F4.keep _ _ e)))) (nT _ (.head _)) (nT _ (.tail _ (.head _))) (nT _ (.tail _ (.tail _ (.head _)))) hm6.os (AllBare.movedS (hbare.push hb) hm6)
    rw [hf]
    exact r


set_option maxRecDepth 100000
set_option maxHeartbeats 8000000
set_option pp.maxSteps 30000
set_option pp.deepTerms.threshold 3
set_option linter.unusedSimpArgs false
set_option linter.unusedVariables false
theorem pop_raw : ∀ {w : World} {loose : List Str} {mean : ExcName → Option Value} {mg mb : Str → Option Value} {dp un : Nat} {gd : Option (List Code)} {outer : List Env} {base g : Heap} {s : Shared} {x d : Nat} {m : Int} {t1 t2 ti : Tok} {k : Nat} {vs : List Value} {ep : Nat} {Q E : Value → Shared → Prop}
 (G : Mine.Gr (Mine.K2 w.params) (Mine.topA dp un gd outer) base outer loose mean mg mb g s) (X1 : (Mine.hK w.params).In g) (hdp : dp ≤ 400) (hun : un ≤ 500) (hm : ∀ p ∈ [(x, Mine.accO d vs.toArray ep), (d, Mine.sizD w m t1 t2)], s.heap.get? p.1 = some p.2 ∧ g.get? p.1 = none) (hne : d < x) (hx185 : 185 ≤ d) (hk : k < vs.length) (hps : vs.length ≤ 3) (hbare : AllBare s.gens)
 (ret : ∀ (s' : Shared) (p : Addr) (n : Nat), (∀ b o, g.get? b = some o → s'.heap.get? b = some o) → s'.heap.get? x = some (Mine.accO d (vs.take k).toArray (ep + 1)) → s'.heap.get? d = some (Mine.sizD w m t1 t2) → s'.heap.get? p = some (W.listOf (vs.drop k).toArray n) → g.get? p = none → s'.os = s.os → AllBare s'.gens → Q (.ref p) s'),
 wpAny (model PySem.Challenge.rw_rs0050_02.row.prog w) (Mine.topA dp un gd outer) (call (.ref 102) [.ref x, .int k ti]) Q E s := by
  have kz : PySem.Challenge.rw_rs0050_02 = PySem.Challenge.rw_rs0050_02 → Mine.hK = Mine.hK → True := by
    k_fill
    intros; trivial
  clear kz
  intro w loose mean mg mb dp un gd outer base g s x d m t1 t2 ti k vs ep Q E G X1 hdp hun hm hne hx185 hk hps hbare ret
  have X2 := G.X
  have hNL := G.T.nolimit
  have GX := X1.keeps G.k
  refine wpAny_call ?_
  refine' Mine.enter_raw (muts := [(x, Mine.accO d vs.toArray ep), (d, Mine.sizD w m t1 t2)]) G X1 ?m ?ho ?cd ?room ?bind ?loc ?_ ?c1 ?c2 ?c3 ?c4
  case m => exact hm
  case ho => k_is
  case cd => k_is
  case room => k_room
  case bind => first | exact BindsTo.of_eq rfl | exact binds_K GX rfl (by k_is) rfl rfl rfl
  case loc => exact locs rfl
  case c1 => decide
  case c2 => exact rfl
  case c3 => exact rfl
  case c4 => exact rfl
  intro L' h' F' N' l1 X' T'
  clear X1 GX
  try dsimp only
  try k_fold
  
  have hA : Mine.Roomy (Mine.topA (dp + 1) (un + 3) gd outer) := ⟨rfl, (show dp + 1 ≤ 500 from Mine.up_to1 hdp rfl), (show un + 3 ≤ 1000 from Mine.up_to1 hun rfl)⟩
  k_steps
  have F1 := F'.keeps (h' := h'.push (Mine.slO (.int k ti))) fun _ _ e => Heap.get?_push_of_some _ e
  have g0 : g.get? h'.objs.size = none := by
    cases q : g.get? h'.objs.size with
    | none => rfl
    | some o => exact absurd (Heap.lt_size (F'.keep _ _ q)) (Nat.lt_irrefl _)
  have hLlt : L' < h'.objs.size := by obtain ⟨_, _, _, e, _⟩ := F'.ns; exact Heap.lt_size e
  have hxl : x < h'.objs.size := Heap.lt_size (N' _ (.head _)).1
  have hdl : d < h'.objs.size := Heap.lt_size (N' _ (.tail _ (.head _))).1
  have N1 : News g L' (h'.push (Mine.slO (.int k ti))) [(x, Mine.accO d vs.toArray ep), (h'.objs.size, Mine.slO (.int k ti)), (d, Mine.sizD w m t1 t2)] := Mine.al_cons ⟨Heap.get?_push_of_some _ (N' _ (.head _)).1, (N' _ (.head _)).2⟩ (Mine.al_cons ⟨Heap.get?_push_size _ rfl, Mine.ne_gt hLlt, g0⟩ (Mine.al_cons ⟨Heap.get?_push_of_some _ (N' _ (.tail _ (.head _))).1, (N' _ (.tail _ (.head _))).2⟩ Mine.al_nil))
  refine Mine.runI (n := 2000) hA F1 N1 X2 hNL (Mine.sub_cons (.head _) (Mine.sub_cons (.tail _ (.head _)) Mine.sub_nil)) (Mine.pw2 (Mine.ne_lt hxl)) (fun n0 t0 stk => Mine.slice_run w stk n0 t0 x d h'.objs.size ti vs k hk hps ep _ _ _) fun n2 h2 F2 l2 l3 N2 hs2 => ?_
  replace N2 := N2 [(x, Mine.accO d vs.toArray ep), (d, Mine.sizD w m t1 t2), (n2, W.listOf (vs.drop k).toArray 0)] (Mine.al_cons (.inl (.head _)) (Mine.al_cons (.inr ⟨.tail _ (.tail _ (.head _)), Mine.nm2 (Mine.ne_lt hne) (Mine.ne_lt hdl)⟩) (Mine.al_cons (.inl (.tail _ (.tail _ (.head _)))) Mine.al_nil)))
  have lx2 : Nat.lt x n2 := l2 _ (.head _)
  have ld2 : Nat.lt d n2 := l2 _ (.tail _ (.tail _ (.head _)))
  clear F1 N1 F' N'
  k_steps
  rename_i h3 q h4 F4 N4 l4
  have F5 := F4.keeps (h' := h4.push (Mine.slO (.int k ti))) fun _ _ e => Heap.get?_push_of_some _ e
  have hx4 := N4 (x, Mine.accO d vs.toArray ep) (.tail _ (.head _))
  have hd4 := N4 (d, Mine.sizD w m t1 t2) (.tail _ (.tail _ (.head _)))
  have hp4 := N4 (n2, W.listOf (vs.drop k).toArray 0) (.tail _ (.tail _ (.tail _ (.head _))))
  have hq4 := N4 (q, W.listOf #[] 0) (.head _)
  have g4 : g.get? h4.objs.size = none := by
    cases q : g.get? h4.objs.size with
    | none => rfl
    | some o => exact absurd (Heap.lt_size (F4.keep _ _ q)) (Nat.lt_irrefl _)
  have hx4l : x < h4.objs.size := Heap.lt_size hx4.1
  refine Mine.setslice_ok (ep := ep) (d := d) (vs := vs) (k := k) (ti := ti) (g := g) hA ⟨rfl, (show dp + 1 ≤ 500 from Mine.up_to1 hdp rfl), by (show un + 3 + 1 ≤ 1000); omega⟩ (fun c => ⟨rfl, ?rr1, ?rr2⟩) X2 hNL F5.keep ⟨Heap.get?_push_of_some _ hx4.1, hx4.2.2⟩ ⟨Heap.get?_push_size _ rfl, g4⟩ ⟨Heap.get?_push_of_some _ hq4.1, hq4.2.2⟩ (Mine.ne_lt hx4l) (Mine.ne_lt l4.1) hk hps fun h5 k5 hx5 hs5 => ?_
  case rr1 => first | (show dp + 1 + 0 ≤ 500; omega) | (show dp + 1 + 1 ≤ 500; omega)
  case rr2 => first | (show un + 3 + 1 ≤ 1000; omega) | (show un + 3 + 0 ≤ 1000; omega) | (show un + 3 + 2 ≤ 1000; omega)
  have k45 : ∀ p, p ≠ x → ∀ o, h4.get? p = some o → h5.get? p = some o := fun p hp o e => k5 _ _ hp (Heap.get?_push_of_some _ e)
  have hxg : ∀ b o, g.get? b = some o → b ≠ x := fun b o e z => by rw [z, hx4.2.2] at e; cases e
  have F6 : Fr g L' h5 _ := ⟨F4.ns.at' fun o e => k45 _ (fun z => hx4.2.1 z.symm) o e, fun b o e => k45 _ (hxg b o e) o (F4.keep _ _ e), F4.above⟩
  clear F5 F4
  k_steps
  show Q (.ref n2) _
  have nx : ∀ p, p ∈ [n2, d] → p ≠ x := fun p hp => by
    rcases List.mem_cons.mp hp with rfl | hp
    · exact Mine.ne_gt lx2
    · rw [List.mem_singleton.mp hp]; exact Mine.ne_lt hne
  refine ret _ n2 0 F6.keep hx5 (k45 _ (nx d Mine.m1) _ hd4.1) (k45 _ (nx n2 Mine.m0) _ hp4.1) hp4.2.2 rfl ?_
  exact hbare

end Mine
end

section
open PySem PySem.W PyProof.Rows PySem.Calls
set_option maxRecDepth 100000
set_option linter.unusedVariables false
set_option genSizeOf false
set_option genInjectivity false
namespace Mine

inductive D where
  | none
  | bool (b : Bool)
  | int (i : Int)
  | str (s : Str)
  | list (l : List D)
  | tup (l : List D)
  | dict (l : List (Int × Int))
  | obj (t : Nat) (l : List D)

noncomputable def asI (d : D) : Option Int := D.casesOn (motive_1 := fun _ => Option Int) d .none (fun _ => .none) (fun i => some i) (fun _ => .none) (fun _ => .none) (fun _ => .none) (fun _ => .none) (fun _ _ => .none)
noncomputable def asS (d : D) : Option Str := D.casesOn (motive_1 := fun _ => Option Str) d .none (fun _ => .none) (fun _ => .none) (fun x => some x) (fun _ => .none) (fun _ => .none) (fun _ => .none) (fun _ _ => .none)
noncomputable def asB (d : D) : Option Bool := D.casesOn (motive_1 := fun _ => Option Bool) d .none (fun b => some b) (fun _ => .none) (fun _ => .none) (fun _ => .none) (fun _ => .none) (fun _ => .none) (fun _ _ => .none)
noncomputable def asL (d : D) : Option (List D) := D.casesOn (motive_1 := fun _ => Option (List D)) d .none (fun _ => .none) (fun _ => .none) (fun _ => .none) (fun l => some l) (fun _ => .none) (fun _ => .none) (fun _ _ => .none)
theorem asI_some {d : D} {i : Int} (h : asI d = some i) : d = .int i := by cases d with | int j => rw [so h] | _ => exact no h
theorem asS_some {d : D} {i : Str} (h : asS d = some i) : d = .str i := by cases d with | str j => rw [so h] | _ => exact no h
theorem asB_some {d : D} {i : Bool} (h : asB d = some i) : d = .bool i := by cases d with | bool j => rw [so h] | _ => exact no h
theorem asL_some {d : D} {i : List D} (h : asL d = some i) : d = .list i := by cases d with | list j => rw [so h] | _ => exact no h

noncomputable abbrev Keep (h h' : Heap) : Prop := ∀ b o, h.get? b = some o → h'.get? b = some o
noncomputable def KeepP (T : Addr → Prop) (h h' : Heap) : Prop := ∀ b o, ¬ T b → h.get? b = some o → h'.get? b = some o

noncomputable def isCd (o : Obj) : Prop := o.cls = .type "code" ∧ ∃ vs, o.data = .fields vs
structure Cfg where
  prog : Program
  w : World
  g : Heap
  tabs : List (Addr × (Heap → Obj → Prop))
  gm : ∀ p ∈ tabs, ∀ h h' o, (∀ b o', isCd o' → b ∉ tabs.map (·.1) → h.get? b = some o' → h'.get? b = some o') → p.2 h o → p.2 h' o
  gt : ∀ p ∈ tabs, g.get? p.1 = none
  gc : ∀ p ∈ tabs, ∀ h o, p.2 h o → ¬ isCd o
  gs : ∃ o, g.get? cStatics = some o
  ob : Nat → List D → Heap → Value → Prop
  accO : Addr → Array Value → Nat → Obj
  sizD : Int → Tok → Tok → Obj
  accK : Addr → Addr → Prop
  ac : ∀ d its n, ¬ isCd (accO d its n)
  sc : ∀ m t t2, ¬ isCd (sizD m t t2)

noncomputable abbrev Cfg.Tb (C : Cfg) : Addr → Prop := fun a => a ∈ C.tabs.map (·.1)
noncomputable def Cfg.J (C : Cfg) (h : Heap) : Prop := ∀ p ∈ C.tabs, ∃ o, h.get? p.1 = some o ∧ p.2 h o
noncomputable abbrev Cfg.M (C : Cfg) : Model := model C.prog C.w
noncomputable abbrev Cfg.ik (C : Cfg) : KeyKind C.prog C.w Int := intKind C.prog C.w

inductive KvIs : List (Int × Value) → List (Int × Int) → Prop
  | nil : KvIs [] []
  | cons (k v t) {l l'} : KvIs l l' → KvIs ((k, .int v t) :: l) ((k, v) :: l')

mutual
inductive Rep (C : Cfg) (Y : Addr → Prop) (h : Heap) : Value → D → Prop
  | none : Rep C Y h .none .none
  | bool (b) : Rep C Y h (.bool b) (.bool b)
  | int (i t) : Rep C Y h (.int i t) (.int i)
  | str (x t) : Rep C Y h (.str x t) (.str x)
  | list {a vs ds} : ¬ Y a → h.PlainList a vs.toArray → RepL C Y h vs ds → Rep C Y h (.ref a) (.list ds)
  | tup {a vs ds} : ¬ Y a → IsTup h a vs.toArray → RepL C Y h vs ds → Rep C Y h (.ref a) (.tup ds)
  | dict {a kvs ds} : ¬ Y a → (a == sysModules) = false → h.DictOf C.ik a kvs → KvIs kvs ds → Rep C Y h (.ref a) (.dict ds)
  | obj {v t ds h0} : (∀ b o, h0.get? b = some o → h.get? b = some o ∧ ¬ Y b) → C.ob t ds h0 v → Rep C Y h v (.obj t ds)
inductive RepL (C : Cfg) (Y : Addr → Prop) (h : Heap) : List Value → List D → Prop
  | nil : RepL C Y h [] []
  | cons {v vs d ds} : Rep C Y h v d → RepL C Y h vs ds → RepL C Y h (v :: vs) (d :: ds)
end

theorem IsList.at1 {h h' : Heap} {a : Addr} {v : Array Value} (x : h.PlainList a v) (k : ∀ o, h.get? a = some o → h'.get? a = some o) : h'.PlainList a v := let ⟨n, e⟩ := x; ⟨n, k _ e⟩
theorem IsTup.at1 {h h' : Heap} {a : Addr} {v : Array Value} (x : IsTup h a v) (k : ∀ o, h.get? a = some o → h'.get? a = some o) : IsTup h' a v := let ⟨o, ho, r⟩ := x; ⟨o, k o ho, r⟩
theorem DictOf.at1 {prog w} {K : Type} [DecidableEq K] {knd : KeyKind prog w K} {h h' : Heap} {a : Addr} {kvs : List (K × Value)} (x : h.DictOf knd a kvs) (k : ∀ o, h.get? a = some o → h'.get? a = some o) : h'.DictOf knd a kvs :=
  let ⟨o, es, ep, ho, r⟩ := x; ⟨o, es, ep, k o ho, r⟩

section
variable {C : Cfg}
theorem Rep.int_inv {Y h v i} (r : Rep C Y h v (.int i)) : ∃ t, v = .int i t := by cases r with | int _ t => exact ⟨t, rfl⟩
theorem Rep.str_inv {Y h v i} (r : Rep C Y h v (.str i)) : ∃ t, v = .str i t := by cases r with | str _ t => exact ⟨t, rfl⟩
theorem Rep.bool_inv {Y h v i} (r : Rep C Y h v (.bool i)) : v = .bool i := by cases r; rfl
theorem Rep.none_inv {Y h v} (r : Rep C Y h v .none) : v = .none := by cases r; rfl
theorem Rep.list_inv {Y h v ds} (r : Rep C Y h v (.list ds)) : ∃ a vs, v = .ref a ∧ ¬ Y a ∧ h.PlainList a vs.toArray ∧ RepL C Y h vs ds := by cases r with | list a b c => exact ⟨_, _, rfl, a, b, c⟩
theorem Rep.tup_inv {Y h v ds} (r : Rep C Y h v (.tup ds)) : ∃ a vs, v = .ref a ∧ ¬ Y a ∧ IsTup h a vs.toArray ∧ RepL C Y h vs ds := by cases r with | tup a b c => exact ⟨_, _, rfl, a, b, c⟩
theorem Rep.dict_inv {Y h v ds} (r : Rep C Y h v (.dict ds)) : ∃ a kvs, v = .ref a ∧ ¬ Y a ∧ (a == sysModules) = false ∧ h.DictOf C.ik a kvs ∧ KvIs kvs ds := by cases r with | dict a b c d => exact ⟨_, _, rfl, a, b, c, d⟩
theorem Rep.obj_inv {Y h v t ds} (r : Rep C Y h v (.obj t ds)) : ∃ h0 : Heap, (∀ b o, h0.get? b = some o → h.get? b = some o ∧ ¬ Y b) ∧ C.ob t ds h0 v := by cases r with | obj a b => exact ⟨_, a, b⟩
theorem RepL.nil_inv {Y h vs} (r : RepL C Y h vs []) : vs = [] := by cases r; rfl
theorem RepL.cons_inv {Y h vs d ds} (r : RepL C Y h vs (d :: ds)) : ∃ v us, vs = v :: us ∧ Rep C Y h v d ∧ RepL C Y h us ds := by cases r with | cons a b => exact ⟨_, _, rfl, a, b⟩
theorem Rep.mono {Y Y' : Addr → Prop} {h h' : Heap} (hk : ∀ b o, ¬ Y b → h.get? b = some o → h'.get? b = some o ∧ ¬ Y' b) {v d} (r : Rep C Y h v d) : Rep C Y' h' v d :=
  Rep.rec (motive_1 := fun v d _ => Rep C Y' h' v d) (motive_2 := fun vs ds _ => RepL C Y' h' vs ds) .none .bool .int .str
    (fun ha hg _ hl => .list (let ⟨_, ho⟩ := hg; (hk _ _ ha ho).2) (IsList.at1 hg fun o ho => (hk _ _ ha ho).1) hl)
    (fun ha hg _ hl => .tup (let ⟨_, ho, _⟩ := hg; (hk _ _ ha ho).2) (IsTup.at1 hg fun o ho => (hk _ _ ha ho).1) hl)
    (fun ha hs hg hl => .dict (let ⟨_, _, _, ho, _⟩ := hg; (hk _ _ ha ho).2) hs (DictOf.at1 hg fun o ho => (hk _ _ ha ho).1) hl)
    (fun h0 hR => .obj (fun b o e => hk b o (h0 b o e).2 (h0 b o e).1) hR) .nil (fun _ _ a b => .cons a b) r
theorem RepL.mono {Y Y' : Addr → Prop} {h h' : Heap} (hk : ∀ b o, ¬ Y b → h.get? b = some o → h'.get? b = some o ∧ ¬ Y' b) {vs ds} (r : RepL C Y h vs ds) : RepL C Y' h' vs ds := by
  induction ds generalizing vs with
  | nil => rw [r.nil_inv]; exact .nil
  | cons d ds ih => obtain ⟨v, us, rfl, a, b⟩ := r.cons_inv; exact .cons (a.mono hk) (ih b)
theorem RepL.length {Y h} {vs : List Value} {ds : List D} (r : RepL C Y h vs ds) : vs.length = ds.length := by
  induction ds generalizing vs with
  | nil => rw [r.nil_inv]; rfl
  | cons d ds ih => obtain ⟨v, us, rfl, a, b⟩ := r.cons_inv; exact congrArg Nat.succ (ih b)
theorem RepL.get {Y h} {vs : List Value} {ds : List D} (r : RepL C Y h vs ds) {i : Nat} {d : D} (e : ds[i]? = some d) : ∃ v, vs[i]? = some v ∧ Rep C Y h v d := by
  induction ds generalizing vs i with
  | nil => exact no e
  | cons d ds ih =>
    obtain ⟨v, us, rfl, a, b⟩ := r.cons_inv
    cases i with
    | zero => exact ⟨v, rfl, so e ▸ a⟩
    | succ i => exact ih b e
theorem RepL.get' {Y h} {vs : List Value} {ds : List D} (r : RepL C Y h vs ds) {i : Nat} {v : Value} (e : vs[i]? = some v) : ∃ d, ds[i]? = some d ∧ Rep C Y h v d := by
  induction ds generalizing vs i with
  | nil => rw [r.nil_inv] at e; exact no e
  | cons d ds ih =>
    obtain ⟨v, us, rfl, a, b⟩ := r.cons_inv
    cases i with
    | zero => exact ⟨d, rfl, so e ▸ a⟩
    | succ i => exact ih b e
theorem RepL.append {Y h} {vs vs' : List Value} {ds ds' : List D} (r : RepL C Y h vs ds) (q : RepL C Y h vs' ds') : RepL C Y h (vs ++ vs') (ds ++ ds') := by
  induction ds generalizing vs with
  | nil => rw [r.nil_inv]; exact q
  | cons d ds ih => obtain ⟨v, us, rfl, a, b⟩ := r.cons_inv; exact .cons a (ih b)
theorem RepL.take {Y h} {vs : List Value} {ds : List D} (r : RepL C Y h vs ds) (n : Nat) : RepL C Y h (vs.take n) (ds.take n) := by
  induction ds generalizing vs n with
  | nil => rw [r.nil_inv, List.take_nil, List.take_nil]; exact .nil
  | cons d ds ih =>
    obtain ⟨v, us, rfl, a, b⟩ := r.cons_inv
    cases n with
    | zero => exact .nil
    | succ n => exact .cons a (ih b n)
theorem RepL.drop {Y h} {vs : List Value} {ds : List D} (r : RepL C Y h vs ds) (n : Nat) : RepL C Y h (vs.drop n) (ds.drop n) := by
  induction ds generalizing vs n with
  | nil => rw [r.nil_inv, List.drop_nil, List.drop_nil]; exact .nil
  | cons d ds ih =>
    obtain ⟨v, us, rfl, a, b⟩ := r.cons_inv
    cases n with
    | zero => exact .cons a b
    | succ n => exact ih b n
theorem Rep.keep {T Y : Addr → Prop} (hT : ∀ a, T a → Y a) {h h' : Heap} (hk : KeepP T h h') {v d} (r : Rep C Y h v d) : Rep C Y h' v d := r.mono fun b o hb e => ⟨hk b o (fun q => hb (hT b q)) e, hb⟩
theorem RepL.keep {T Y : Addr → Prop} (hT : ∀ a, T a → Y a) {h h' : Heap} (hk : KeepP T h h') {v d} (r : RepL C Y h v d) : RepL C Y h' v d := r.mono fun b o hb e => ⟨hk b o (fun q => hb (hT b q)) e, hb⟩

theorem Cfg.J.keep {h h' : Heap} (j : C.J h) (hk : Keep h h') : C.J h' := fun p hp => let ⟨o, ho, q⟩ := j p hp; ⟨o, hk _ _ ho, C.gm p hp h h' o (fun b o' _ _ e => hk b o' e) q⟩
theorem Cfg.J.keepP {h h' : Heap} {T : Addr → Prop} (j : C.J h) (hT : ∀ a, T a → ¬ C.Tb a) (hc : ∀ a o, T a → h.get? a = some o → ¬ isCd o) (hk : KeepP T h h') : C.J h' := fun p hp => let ⟨o, ho, q⟩ := j p hp; ⟨o, hk _ _ (fun t => hT _ t (List.mem_map_of_mem hp)) ho, C.gm p hp h h' o (fun b o' c _ e => hk b o' (fun t => hc b o' t e c) e) q⟩
theorem Cfg.tb_none {b : Addr} (q : C.Tb b) : C.g.get? b = none := by
  obtain ⟨p, hp, rfl⟩ := List.mem_map.mp q
  exact C.gt p hp
theorem Cfg.g_tb {b : Addr} {o : Obj} (e : C.g.get? b = some o) : ¬ C.Tb b := fun q => by rw [Cfg.tb_none q] at e; cases e
theorem Cfg.J.notCd {h : Heap} (j : C.J h) {a : Addr} (t : C.Tb a) : ∀ o, h.get? a = some o → ¬ isCd o := fun o e => by
  obtain ⟨p, hp, rfl⟩ := List.mem_map.mp t
  obtain ⟨o', ho, q⟩ := j p hp
  rw [e] at ho; cases ho
  exact C.gc p hp h _ q
theorem none_of_size {h : Heap} {a : Addr} (ha : h.objs.size ≤ a) : h.get? a = none := by
  cases e : h.get? a with
  | none => rfl
  | some o => exact absurd (Heap.lt_size e) (Nat.not_lt.mpr ha)
theorem keep_push {h : Heap} (o : Obj) : Keep h (h.push o) := fun _ _ e => Heap.get?_push_of_some _ e

structure Go (C : Cfg) (T : Addr → Prop) (s s' : Shared) : Prop where
  os : s'.os = s.os
  kp : KeepP T s.heap s'.heap
  al : ∀ b, s.heap.get? b ≠ none → s'.heap.get? b ≠ none
  gb : AllBare s.gens → AllBare s'.gens
structure Kp (C : Cfg) (s s' : Shared) : Prop where
  os : s'.os = s.os
  kp : KeepP C.Tb s.heap s'.heap
  gb : AllBare s.gens → AllBare s'.gens
  jj : C.J s.heap → C.J s'.heap
theorem Go.refl {T : Addr → Prop} (s : Shared) : Go C T s s := ⟨rfl, fun _ _ _ e => e, fun _ h => h, id⟩
theorem Go.trans {T T' : Addr → Prop} {s s' s'' : Shared} (a : Go C T s s') (b : Go C T' s' s'') (hT : ∀ x o, s.heap.get? x = some o → T' x → T x) : Go C T s s'' :=
  ⟨b.os.trans a.os, fun x o hx e => b.kp x o (fun q => hx (hT x o e q)) (a.kp x o hx e), fun x h => b.al x (a.al x h), b.gb ∘ a.gb⟩
theorem Go.mono {T T' : Addr → Prop} {s s' : Shared} (a : Go C T s s') (hT : ∀ x, T x → T' x) : Go C T' s s' := ⟨a.os, fun x o hx e => a.kp x o (fun q => hx (hT x q)) e, a.al, a.gb⟩
theorem Kp.refl (s : Shared) : Kp C s s := ⟨rfl, fun _ _ _ e => e, id, id⟩
theorem Kp.trans {s s' s'' : Shared} (a : Kp C s s') (b : Kp C s' s'') : Kp C s s'' := ⟨b.os.trans a.os, fun x o hx e => b.kp x o hx (a.kp x o hx e), b.gb ∘ a.gb, b.jj ∘ a.jj⟩
theorem Kp.heap {s : Shared} {h' : Heap} {tk : Nat} (hk : Keep s.heap h') : Kp C s { s with heap := h', toks := tk } := ⟨rfl, fun b o _ e => hk b o e, id, fun j => j.keep hk⟩
theorem Kp.tok {s : Shared} {tk : Nat} : Kp C s { s with toks := tk } := ⟨rfl, fun _ _ _ e => e, id, id⟩
theorem Kp.push {s : Shared} {o : Obj} {tk : Nat} : Kp C s { s with heap := s.heap.push o, toks := tk } := Kp.heap (keep_push o)
theorem Kp.al {s s' : Shared} (a : Kp C s s') (j : C.J s.heap) : ∀ b, s.heap.get? b ≠ none → s'.heap.get? b ≠ none := fun b h q => by
  by_cases ht : C.Tb b
  · obtain ⟨p, hp, rfl⟩ := List.mem_map.mp ht
    obtain ⟨o, ho, _⟩ := a.jj j p hp
    rw [ho] at q; cases q
  · cases e : s.heap.get? b with
    | none => exact h e
    | some o => rw [a.kp b o ht e] at q; cases q
theorem Kp.go {s s' : Shared} (a : Kp C s s') (j : C.J s.heap) {T : Addr → Prop} (hT : ∀ x, C.Tb x → T x) : Go C T s s' := ⟨a.os, fun x o hx e => a.kp x o (fun q => hx (hT x q)) e, a.al j, a.gb⟩
end
end Mine

end

section
open PySem PySem.W PyProof.Rows PySem.Calls
set_option maxRecDepth 100000
set_option linter.unusedVariables false
namespace Mine

inductive Sl where
  | un
  | val (d : D)
  | lst (ds : List D)
  | dct (kvs : List (Int × Int))
  | acc (m : Int) (ps : List (Str × Str))
noncomputable abbrev St := List (Str × Sl)

noncomputable def VarAt (env : Env) (h : Heap) (x : Str) (v : Value) : Prop :=
  (env.kindOf x = some .local ∧ ∃ m, h.Ns env.locals m ∧ m x = some v) ∨
  ((env.kindOf x = some .cell ∨ env.kindOf x = some .free ∧ (x == ("__classdict__" : Str)) = false) ∧ ∃ c, env.cells.lookup x = some c ∧ h.IsCell c (some v))

noncomputable def Wf (env : Env) (θ : Str → List Addr) : Addr → Prop := fun a => a = env.locals ∨ (∃ x, env.cells.lookup x = some a) ∨ ∃ x, a ∈ θ x
noncomputable def Yf (C : Cfg) (env : Env) (Z : Addr → Prop) (θ : Str → List Addr) : Addr → Prop := fun a => Z a ∨ C.Tb a ∨ Wf env θ a
noncomputable abbrev pairD (p : Str × Str) : D := .tup [.str p.1, .str p.2]

inductive CRep (C : Cfg) (Y : Addr → Prop) (h : Heap) : Value → Sl → List Addr → Prop
  | val {v d} : Rep C Y h v d → CRep C Y h v (.val d) []
  | lst {a vs ds} : h.PlainList a vs.toArray → RepL C Y h vs ds → CRep C Y h (.ref a) (.lst ds) [a]
  | dct {a kvs ds} : (a == sysModules) = false → h.DictOf C.ik a kvs → KvIs kvs ds → CRep C Y h (.ref a) (.dct ds) [a]
  | acc {a d vs m t1 t2 ep ps} : h.get? a = some (C.accO d vs.toArray ep) → h.get? d = some (C.sizD m t1 t2) → C.accK a d → RepL C Y h vs (ps.map pairD) → CRep C Y h (.ref a) (.acc m ps) [a, d]
inductive SRep (C : Cfg) (env : Env) (Y : Addr → Prop) (h : Heap) (x : Str) : Sl → List Addr → Prop
  | un : SRep C env Y h x .un []
  | var {v sl as} : VarAt env h x v → CRep C Y h v sl as → SRep C env Y h x sl as

theorem notCd_ns {h : Heap} {a : Addr} {m} (x : h.Ns a m) : ∀ o, h.get? a = some o → ¬ isCd o := fun o e c => by
  obtain ⟨o', _, _, e', hd, _⟩ := x; rw [e] at e'; cases e'; obtain ⟨_, vs, q⟩ := c; rw [q] at hd; cases hd
theorem notCd_cell {h : Heap} {a : Addr} {m} (x : h.IsCell a m) : ∀ o, h.get? a = some o → ¬ isCd o := fun o e c => by
  obtain ⟨o', e', hd⟩ := x; rw [e] at e'; cases e'; obtain ⟨_, vs, q⟩ := c; rw [q] at hd; cases hd
theorem notCd_list {h : Heap} {a : Addr} {m} (x : h.PlainList a m) : ∀ o, h.get? a = some o → ¬ isCd o := fun o e c => by
  obtain ⟨n, e'⟩ := x; rw [e] at e'; cases e'; obtain ⟨_, vs, q⟩ := c; cases q
theorem notCd_dict {prog w} {K : Type} [DecidableEq K] {knd : KeyKind prog w K} {h : Heap} {a : Addr} {kvs : List (K × Value)} (x : h.DictOf knd a kvs) : ∀ o, h.get? a = some o → ¬ isCd o := fun o e c => by
  obtain ⟨o', es, ep, e', _, hd, _⟩ := x; rw [e] at e'; cases e'; obtain ⟨_, vs, q⟩ := c; rw [q] at hd; cases hd
structure Inv (C : Cfg) (env : Env) (Z : Addr → Prop) (θ : Str → List Addr) (σ : St) (s : Shared) : Prop where
  kp : Keep C.g s.heap
  jj : C.J s.heap
  gb : AllBare s.gens
  yl : ∀ a, Yf C env Z θ a → s.heap.get? a ≠ none
  yg : ∀ a, Yf C env Z θ a → C.g.get? a = none
  zt : ∀ a, Z a → ¬ C.Tb a ∧ ¬ Wf env θ a
  tw : ∀ a, C.Tb a → ¬ Wf env θ a
  ns : ∃ m, s.heap.Ns env.locals m
  cl : ∀ x c, env.cells.lookup x = some c → ∃ v, s.heap.IsCell c v
  cn : ∀ x c, env.cells.lookup x = some c → c ≠ env.locals
  ci : ∀ x y c, env.cells.lookup x = some c → env.cells.lookup y = some c → x = y
  ol : ∀ x, ∀ a ∈ θ x, a ≠ env.locals ∧ ∀ y c, env.cells.lookup y = some c → a ≠ c
  oo : ∀ x y, x ≠ y → ∀ a ∈ θ x, a ∉ θ y
  vs : ∀ x sl, σ.lookup x = some sl → SRep C env (Yf C env Z θ) s.heap x sl (θ x)
  yc : ∀ a, Yf C env Z θ a → ∀ o, s.heap.get? a = some o → ¬ isCd o

theorem Ns.at1 {h h' : Heap} {a : Addr} {m} (x : h.Ns a m) (k : ∀ o, h.get? a = some o → h'.get? a = some o) : h'.Ns a m := let ⟨o, es, ep, ho, r⟩ := x; ⟨o, es, ep, k o ho, r⟩
theorem IsCell.at1 {h h' : Heap} {a : Addr} {m} (x : h.IsCell a m) (k : ∀ o, h.get? a = some o → h'.get? a = some o) : h'.IsCell a m := let ⟨o, ho, r⟩ := x; ⟨o, k o ho, r⟩

section
variable {C : Cfg} {A : Around} {env : Env} {Z : Addr → Prop} {θ : Str → List Addr} {σ : St}

theorem VarAt.at1 {h h' : Heap} {x : Str} {v : Value} (r : VarAt env h x v) (k1 : ∀ o, h.get? env.locals = some o → h'.get? env.locals = some o) (k2 : ∀ c, env.cells.lookup x = some c → ∀ o, h.get? c = some o → h'.get? c = some o) : VarAt env h' x v := by
  rcases r with ⟨a, m, hm, e⟩ | ⟨a, c, hc, hx⟩
  · exact .inl ⟨a, m, Ns.at1 hm k1, e⟩
  · exact .inr ⟨a, c, hc, IsCell.at1 hx (k2 c hc)⟩
theorem VarAt.keep {h h' : Heap} {x : Str} {v : Value} {T : Addr → Prop} (r : VarAt env h x v) (hT : ∀ a, T a → ¬ Wf env θ a) (hk : KeepP T h h') : VarAt env h' x v :=
  r.at1 (fun o e => hk _ o (fun t => hT _ t (.inl rfl)) e) fun c hc o e => hk _ o (fun t => hT _ t (.inr (.inl ⟨x, hc⟩))) e
theorem CRep.mono {Y Y' : Addr → Prop} {h h' : Heap} {v : Value} {sl : Sl} {as : List Addr} (r : CRep C Y h v sl as) (hk : ∀ b o, ¬ Y b → h.get? b = some o → h'.get? b = some o ∧ ¬ Y' b) (own : ∀ a ∈ as, ∀ o, h.get? a = some o → h'.get? a = some o) : CRep C Y' h' v sl as := by
  cases r with
  | val hr => exact .val (hr.mono hk)
  | lst hl hr => exact .lst (IsList.at1 hl (own _ (by simp))) (hr.mono hk)
  | dct hs hd hk' => exact .dct hs (DictOf.at1 hd (own _ (by simp))) hk'
  | acc h1 h2 h3 hr => exact .acc (own _ (by simp) _ h1) (own _ (by simp) _ h2) h3 (hr.mono hk)
theorem CRep.there {Y : Addr → Prop} {h : Heap} {v : Value} {sl : Sl} {as : List Addr} (r : CRep C Y h v sl as) : ∀ a ∈ as, h.get? a ≠ none := by
  intro a ha
  cases r with
  | val hr => cases ha
  | lst hl hr => obtain ⟨n, e⟩ := hl; simp at ha; subst ha; rw [e]; simp
  | dct hs hd hk' => obtain ⟨o, es, ep, e, _⟩ := hd; simp at ha; subst ha; rw [e]; simp
  | acc h1 h2 h3 hr => simp at ha; rcases ha with rfl | rfl <;> simp [*]
theorem CRep.notCd {Y : Addr → Prop} {h : Heap} {v : Value} {sl : Sl} {as : List Addr} (r : CRep C Y h v sl as) : ∀ a ∈ as, ∀ o, h.get? a = some o → ¬ isCd o := fun a ha o e => by
  cases r with
  | val _ => cases ha
  | lst h1 _ => rw [List.mem_singleton.mp ha] at e; exact notCd_list h1 o e
  | dct _ h1 _ => rw [List.mem_singleton.mp ha] at e; exact notCd_dict h1 o e
  | acc h1 h2 _ _ =>
    simp only [List.mem_cons, List.not_mem_nil, or_false] at ha
    rcases ha with rfl | rfl
    · rw [h1] at e; cases e; exact C.ac _ _ _
    · rw [h2] at e; cases e; exact C.sc _ _ _
theorem SRep.keep {Y T : Addr → Prop} {h h' : Heap} {x : Str} {sl : Sl} (r : SRep C env Y h x sl (θ x)) (hT : ∀ a, T a → ¬ Wf env θ a) (hTY : ∀ a, T a → Y a) (hk : KeepP T h h') : SRep C env Y h' x sl (θ x) := by
  have own : ∀ a ∈ θ x, ∀ o, h.get? a = some o → h'.get? a = some o := fun a ha o e => hk a o (fun t => hT a t (.inr (.inr ⟨x, ha⟩))) e
  generalize hθ : θ x = as at r own
  cases r with
  | un => exact .un
  | var hv hc => exact .var (hv.keep hT hk) (hc.mono (fun b o hb e => ⟨hk b o (fun q => hb (hTY b q)) e, hb⟩) own)

theorem Inv.step {s s' : Shared} {T : Addr → Prop} (i : Inv C env Z θ σ s) (hT : ∀ a, T a → Z a ∨ C.Tb a) (hk : KeepP T s.heap s'.heap) (ha : ∀ b, T b → s.heap.get? b ≠ none → s'.heap.get? b ≠ none) (jj : C.J s'.heap) (gb : AllBare s'.gens) (hc : ∀ a, T a → ∀ o, s'.heap.get? a = some o → ¬ isCd o) : Inv C env Z θ σ s' := by
  have hTY : ∀ a, T a → Yf C env Z θ a := fun a t => (hT a t).elim .inl fun t => .inr (.inl t)
  have hTW : ∀ a, T a → ¬ Wf env θ a := fun a t => (hT a t).elim (fun z => (i.zt a z).2) (i.tw a)
  refine ⟨fun b o e => hk b o (fun t => ?_) (i.kp b o e), jj, gb, fun a y q => ?_, i.yg, i.zt, i.tw, ?_, ?_, i.cn, i.ci, i.ol, i.oo, fun x sl e => (i.vs x sl e).keep hTW hTY hk, fun a y o e => ?_⟩
  · have := i.yg b (hTY b t); rw [this] at e; cases e
  · by_cases t : T a
    · exact ha a t (i.yl a y) q
    · cases e : s.heap.get? a with
      | none => exact i.yl a y e
      | some o => rw [hk a o t e] at q; cases q
  · obtain ⟨m, hm⟩ := i.ns; exact ⟨m, Ns.at1 hm fun o e => hk _ o (fun t => hTW _ t (.inl rfl)) e⟩
  · intro x c hc; obtain ⟨v, hv⟩ := i.cl x c hc; exact ⟨v, IsCell.at1 hv fun o e => hk _ o (fun t => hTW _ t (.inr (.inl ⟨x, hc⟩))) e⟩
  · by_cases t : T a
    · exact hc a t o e
    · cases q : s.heap.get? a with
      | none => exact absurd q (i.yl a y)
      | some o' => rw [hk a o' t q] at e; cases e; exact i.yc a y _ q
theorem Inv.next {s s' : Shared} (i : Inv C env Z θ σ s) (k : Kp C s s') : Inv C env Z θ σ s' :=
  i.step (T := C.Tb) (fun a t => .inr t) k.kp (fun b _ h => k.al i.jj b h) (k.jj i.jj) (k.gb i.gb) (fun a t => (k.jj i.jj).notCd t)
theorem Inv.fresh {s : Shared} (i : Inv C env Z θ σ s) {a : Addr} (ha : s.heap.get? a = none) : ¬ Yf C env Z θ a := fun q => i.yl a q ha
theorem Inv.size {s : Shared} (i : Inv C env Z θ σ s) : ¬ Yf C env Z θ s.heap.objs.size := i.fresh (none_of_size (Nat.le_refl _))
noncomputable def Ev (C : Cfg) (A : Around) (env : Env) (Z : Addr → Prop) (θ : Str → List Addr) (σ : St) (t : Sem Value) (d : D) : Prop :=
  ∀ s, Inv C env Z θ σ s → wpAny C.M A t (fun v s' => Kp C s s' ∧ Rep C (Yf C env Z θ) s'.heap v d) (fun _ _ => False) s
noncomputable def Tv (C : Cfg) (A : Around) (env : Env) (Z : Addr → Prop) (θ : Str → List Addr) (σ : St) (t : Sem Bool) (b : Bool) : Prop :=
  ∀ s, Inv C env Z θ σ s → wpAny C.M A t (fun c s' => Kp C s s' ∧ c = b) (fun _ _ => False) s
noncomputable def EvL (C : Cfg) (A : Around) (env : Env) (Z : Addr → Prop) (θ : Str → List Addr) (σ : St) (t : Sem (List Value)) (ds : List D) : Prop :=
  ∀ s, Inv C env Z θ σ s → wpAny C.M A t (fun vs s' => Kp C s s' ∧ RepL C (Yf C env Z θ) s'.heap vs ds) (fun _ _ => False) s
noncomputable def Op2 (C : Cfg) (A : Around) (Y : Addr → Prop) (t : Value → Value → Sem Value) (a b d : D) : Prop :=
  ∀ s v u, Rep C Y s.heap v a → Rep C Y s.heap u b → (∀ x, Y x → s.heap.get? x ≠ none) → C.J s.heap → wpAny C.M A (t v u) (fun z s' => Kp C s s' ∧ Rep C Y s'.heap z d) (fun _ _ => False) s

theorem Kp.rep {s s' : Shared} (k : Kp C s s') {v d} (r : Rep C (Yf C env Z θ) s.heap v d) : Rep C (Yf C env Z θ) s'.heap v d := r.keep (fun _ t => .inr (.inl t)) k.kp
theorem Kp.repL {s s' : Shared} (k : Kp C s s') {v d} (r : RepL C (Yf C env Z θ) s.heap v d) : RepL C (Yf C env Z θ) s'.heap v d := r.keep (fun _ t => .inr (.inl t)) k.kp

theorem Ev.use {t : Sem Value} {d : D} (h : Ev C A env Z θ σ t d) {s : Shared} (i : Inv C env Z θ σ s) {Q : Value → Shared → Prop} {E : Value → Shared → Prop}
    (hQ : ∀ v s', Kp C s s' → Inv C env Z θ σ s' → Rep C (Yf C env Z θ) s'.heap v d → Q v s') : wpAny C.M A t Q E s :=
  wpAny_mono (h s i) (fun v s' q => hQ v s' q.1 (i.next q.1) q.2) fun _ _ f => f.elim
theorem Tv.use {t : Sem Bool} {b : Bool} (h : Tv C A env Z θ σ t b) {s : Shared} (i : Inv C env Z θ σ s) {Q : Bool → Shared → Prop} {E : Value → Shared → Prop}
    (hQ : ∀ s', Kp C s s' → Inv C env Z θ σ s' → Q b s') : wpAny C.M A t Q E s :=
  wpAny_mono (h s i) (fun v s' q => q.2 ▸ hQ s' q.1 (i.next q.1)) fun _ _ f => f.elim
theorem EvL.use {t : Sem (List Value)} {ds : List D} (h : EvL C A env Z θ σ t ds) {s : Shared} (i : Inv C env Z θ σ s) {Q : List Value → Shared → Prop} {E : Value → Shared → Prop}
    (hQ : ∀ vs s', Kp C s s' → Inv C env Z θ σ s' → RepL C (Yf C env Z θ) s'.heap vs ds → Q vs s') : wpAny C.M A t Q E s :=
  wpAny_mono (h s i) (fun v s' q => hQ v s' q.1 (i.next q.1) q.2) fun _ _ f => f.elim

theorem load_var {x : Str} {v : Value} {s : Shared} {Q : Value → Shared → Prop} {E : Value → Shared → Prop} (hk : env.scope.kind = .function) (hv : VarAt env s.heap x v) (h : Q v s) : wpAny C.M A (loadName env x) Q E s := by
  rcases hv with ⟨a, m, hn, hm⟩ | ⟨a | ⟨a, b⟩, c, hc, hx⟩
  · exact wpAny_loadName_local hk a hn hm h
  · exact wpAny_loadName_cell hk a hc hx h
  · exact wpAny_loadName_free hk a hc hx h b
theorem ev_name {x : Str} {pos : Pos} {d : D} (hk : env.scope.kind = .function) (h : σ.lookup x = some (.val d)) (hd : (x == ("__debug__" : Str)) = false) : Ev C A env Z θ σ (eval (.Name x pos) env) d := fun s i => by
  generalize hθ : θ x = as
  have r := i.vs x _ h
  rw [hθ] at r
  cases r with
  | var hv hc => cases hc with | val hr => exact wpAny_Name (load_var hk hv ⟨.refl s, hr⟩) hd
theorem ev_int {n : Int} {k : Nat} {pos : Pos} : Ev C A env Z θ σ (eval (.Constant (.int n) k pos) env) (.int n) := fun s _ => wpAny_Constant_int ⟨.tok, .int _ _⟩
theorem ev_str {x : Str} {k : Nat} {pos : Pos} : Ev C A env Z θ σ (eval (.Constant (.str x) k pos) env) (.str x) := fun s _ => wpAny_Constant_str ⟨.tok, .str _ _⟩
theorem ev_none {k : Nat} {pos : Pos} : Ev C A env Z θ σ (eval (.Constant .none k pos) env) .none := fun s _ => wpAny_Constant_none ⟨.refl s, .none⟩
theorem ev_bool {b : Bool} {k : Nat} {pos : Pos} : Ev C A env Z θ σ (eval (.Constant (.bool b) k pos) env) (.bool b) := fun s _ => wpAny_Constant_bool ⟨.refl s, .bool b⟩

theorem ev_bin {l r : Expr} {op : Operator} {pos : Pos} {a b d : D} (h1 : Ev C A env Z θ σ (eval l env) a) (h2 : Ev C A env Z θ σ (eval r env) b)
    (h : Op2 C A (Yf C env Z θ) (binaryOp op) a b d) : Ev C A env Z θ σ (eval (.BinOp l op r pos) env) d := fun s i => by
  refine wpAny_BinOp (h1.use i fun v s1 k1 i1 r1 => h2.use i1 fun u s2 k2 i2 r2 => ?_)
  exact wpAny_mono (h s2 v u (k2.rep r1) r2 i2.yl i2.jj) (fun z s3 q => ⟨(k1.trans k2).trans q.1, q.2⟩) fun _ _ f => f
theorem ev_cmp {l r : Expr} {op : CmpOp} {pos : Pos} {a b d : D} (h1 : Ev C A env Z θ σ (eval l env) a) (h2 : Ev C A env Z θ σ (eval r env) b)
    (h : Op2 C A (Yf C env Z θ) (compareOp op) a b d) (hm : behindInMarks op r = false) : Ev C A env Z θ σ (eval (.Compare l [op] [r] pos) env) d := fun s i => by
  refine wpAny_Compare1 (h1.use i fun v s1 k1 i1 r1 => h2.use i1 fun u s2 k2 i2 r2 => ?_) hm
  exact wpAny_mono (h s2 v u (k2.rep r1) r2 i2.yl i2.jj) (fun z s3 q => ⟨(k1.trans k2).trans q.1, q.2⟩) fun _ _ f => f
end
end Mine

end

section
open PySem PySem.W PyProof.Rows PySem.Calls
set_option maxRecDepth 100000
set_option linter.unusedVariables false
namespace Mine

noncomputable def asInts : List D → Option (List Int)
  | [] => some []
  | d :: r => (asI d).bind fun i => (asInts r).map (i :: ·)
noncomputable def asStrs : List D → Option (List Str)
  | [] => some []
  | d :: r => (asS d).bind fun x => (asStrs r).map (x :: ·)
noncomputable def asBools : List D → Option (List Bool)
  | [] => some []
  | d :: r => (asB d).bind fun x => (asBools r).map (x :: ·)
noncomputable def listP (d : D) : Option PyData := (asL d).bind fun l => (asInts l).map fun ns => .list (ns.map .int)
noncomputable def eqD (a b : D) : Option Bool := match asI a, asS a with
  | some x, _ => (asI b).map (x == ·)
  | none, some x => (asS b).map (x == ·)
  | none, none => (listP a).bind fun p => (listP b).bind fun q => gd (SeqAt.shaped p && SeqAt.shaped q) (some (PyData.eqv p q))
noncomputable def isD (a b : D) : Option Bool := (asB a).bind fun x => (asB b).map (x == ·)
noncomputable def inD (a b : D) : Option Bool := match asS a with
  | some y => (asS b).map fun x => !(Builtin.Str.occurrences x y 0 x.length 1).isEmpty
  | none => (asI a).bind fun k => (asL b).bind fun ds => (asInts ds).map fun ns => ns.any (· == k)
noncomputable def cmpI (f : Int → Int → Bool) (a b : D) : Option Bool := (asI a).bind fun x => (asI b).map fun y => f x y
noncomputable def cmpB (op : CmpOp) (a b : D) : Option Bool := match op with
  | .Eq => eqD a b
  | .NotEq => (eqD a b).map not
  | .Is => none
  | .IsNot => (isD a b).map not
  | .In => inD a b
  | .NotIn => (inD a b).map not
  | .Lt => cmpI (fun x y => decide (x < y)) a b
  | .LtE => none
  | .Gt => cmpI (fun x y => decide (y < x)) a b
  | .GtE => cmpI (fun x y => decide (y ≤ x)) a b
noncomputable def addD (a b : D) : Option D := match asI a, asS a with
  | some x, _ => (asI b).map fun y => .int (x + y)
  | none, some x => (asS b).bind fun y => if x.length + y.length ≤ sizeLine then some (.str (x ++ y)) else none
  | none, none => (asL a).bind fun x => (asL b).bind fun y => if x.length + y.length ≤ sizeLine then some (.list (x ++ y)) else none
noncomputable def binI (f : Int → Int → Option Int) (a b : D) : Option D := (asI a).bind fun x => (asI b).bind fun y => (f x y).map .int
noncomputable def binD (op : Operator) (a b : D) : Option D := match op with
  | .Add => addD a b
  | .Sub => binI (fun x y => some (x - y)) a b
  | .Mult => binI (fun x y => if Builtin.Int.intBits x ≤ 64 then some (x * y) else none) a b
  | .FloorDiv => binI (fun x y => if 0 < y ∧ y < 1000000000 then some (x.fdiv y) else none) a b
  | .Mod => binI (fun x y => if 0 < y then some (x.fmod y) else none) a b
  | .Pow => binI (fun x n => if 0 ≤ n ∧ (Builtin.Int.intBits x : Int) * n ≤ 2 ^ 27 then some (x ^ n.toNat) else none) a b
  | .MatMult => none
  | .Div => none
  | .LShift => none
  | .RShift => none
  | .BitOr => none
  | .BitXor => none
  | .BitAnd => none

noncomputable def Ro (A : Around) : Prop := A.handled = none ∧ A.depth ≤ 500 ∧ A.units ≤ 4000

section
variable {C : Cfg} {A : Around} {Y : Addr → Prop} {h : Heap}
theorem RepL.ints {vs : List Value} {ds : List D} {ns : List Int} (r : RepL C Y h vs ds) (e : asInts ds = some ns) : IntsAre vs ns := by
  induction ds generalizing vs ns with
  | nil => rw [r.nil_inv, ← so e]; exact .nil
  | cons d ds ih =>
    obtain ⟨v, us, rfl, a, b⟩ := r.cons_inv
    obtain ⟨i, h1, e⟩ := bnd e
    obtain ⟨l, h2, rfl⟩ := mpd e
    rw [asI_some h1] at a
    obtain ⟨t, rfl⟩ := a.int_inv
    exact .cons _ _ (ih b h2)
theorem RepL.strs {vs : List Value} {ds : List D} {ns : List Str} (r : RepL C Y h vs ds) (e : asStrs ds = some ns) : StrsAre vs ns := by
  induction ds generalizing vs ns with
  | nil => rw [r.nil_inv, ← so e]; exact .nil
  | cons d ds ih =>
    obtain ⟨v, us, rfl, a, b⟩ := r.cons_inv
    obtain ⟨i, h1, e⟩ := bnd e
    obtain ⟨l, h2, rfl⟩ := mpd e
    rw [asS_some h1] at a
    obtain ⟨t, rfl⟩ := a.str_inv
    exact .cons _ _ (ih b h2)
theorem ints_read {vs : List Value} {ns : List Int} (r : IntsAre vs ns) : ∃ as, ReadsAll h vs (ns.map .int) as := by
  induction r with
  | nil => exact ⟨_, .nil⟩
  | cons n t _ ih => obtain ⟨as, q⟩ := ih; exact ⟨_, .cons (.int n t) q⟩
theorem Rep.reads {v : Value} {d : D} {p : PyData} (r : Rep C Y h v d) (e : listP d = some p) : ∃ as, Reads h v p as := by
  obtain ⟨l, h1, e⟩ := bnd e
  obtain ⟨ns, h2, rfl⟩ := mpd e
  rw [asL_some h1] at r
  obtain ⟨a, vs, rfl, _, ⟨n, ho⟩, hl⟩ := r.list_inv
  obtain ⟨as, q⟩ := ints_read (h := h) (hl.ints h2)
  exact ⟨_, .list ho rfl rfl q⟩
noncomputable abbrev Cm (C : Cfg) (A : Around) (Y : Addr → Prop) (op : CmpOp) (a b : D) (r : Bool) : Prop := Op2 C A Y (compareOp op) a b (.bool r)
theorem cm_int {op : CmpOp} {x y : Int} {r : Bool} (q : ∀ (s : Shared) t u, wpAny C.M A (compareOp op (.int x t) (.int y u)) (fun z s' => Kp C s s' ∧ Rep C Y s'.heap z (.bool r)) (fun _ _ => False) s) : Cm C A Y op (.int x) (.int y) r := fun s v u rv ru _ _ => by
  obtain ⟨t, rfl⟩ := rv.int_inv
  obtain ⟨t', rfl⟩ := ru.int_inv
  exact q s t t'
theorem cm_str {op : CmpOp} {x y : Str} {r : Bool} (q : ∀ (s : Shared) t u, wpAny C.M A (compareOp op (.str x t) (.str y u)) (fun z s' => Kp C s s' ∧ Rep C Y s'.heap z (.bool r)) (fun _ _ => False) s) : Cm C A Y op (.str x) (.str y) r := fun s v u rv ru _ _ => by
  obtain ⟨t, rfl⟩ := rv.str_inv
  obtain ⟨t', rfl⟩ := ru.str_inv
  exact q s t t'
theorem eqD_cases {a b : D} {r : Bool} (e : eqD a b = some r) {P : D → D → Bool → Prop} (h1 : ∀ x y : Int, P (.int x) (.int y) (x == y)) (h2 : ∀ x y : Str, P (.str x) (.str y) (x == y))
    (h3 : ∀ p q, listP a = some p → listP b = some q → (SeqAt.shaped p && SeqAt.shaped q) = true → P a b (PyData.eqv p q)) : P a b r := by
  unfold eqD at e
  cases hi : asI a with
  | some x =>
    rw [hi] at e
    obtain ⟨y, e1, rfl⟩ := mpd e
    rw [asI_some hi, asI_some e1]
    exact h1 x y
  | none =>
    cases hs : asS a with
    | some x =>
      rw [hi, hs] at e
      obtain ⟨y, e1, rfl⟩ := mpd e
      rw [asS_some hs, asS_some e1]
      exact h2 x y
    | none =>
      rw [hi, hs] at e
      obtain ⟨p, e1, e⟩ := bnd e
      obtain ⟨q, e2, e⟩ := bnd e
      obtain ⟨e3, e⟩ := gd_some e
      rw [← so e]
      exact h3 p q e1 e2 e3
theorem op_eq {a b : D} {r : Bool} (hA : Ro A) (e : eqD a b = some r) : Cm C A Y .Eq a b r :=
  eqD_cases e (P := Cm C A Y .Eq) (fun x y => cm_int fun s t u => PyProof.Rows.eq_int ⟨.refl s, .bool _⟩) (fun x y => cm_str fun s t u => eq_str ⟨.refl s, .bool _⟩) fun p q e1 e2 e3 s v u rv ru _ _ => by
    obtain ⟨as, r1⟩ := rv.reads e1
    obtain ⟨bs, r2⟩ := ru.reads e2
    exact eq_dataH r1 r2 (and_1 e3) (and_2 e3) (Nat.lt_of_le_of_lt (Nat.add_le_add_right hA.2.2 64) (show 4000 + 64 < cLine by decide)) ⟨.refl s, .bool _⟩
theorem op_ne {a b : D} {r : Bool} (hA : Ro A) (e : eqD a b = some r) : Cm C A Y .NotEq a b (!r) :=
  eqD_cases e (P := fun a b r => Cm C A Y .NotEq a b (!r)) (fun x y => cm_int fun s t u => PyProof.Rows.ne_int ⟨.refl s, .bool _⟩) (fun x y => cm_str fun s t u => ne_str ⟨.refl s, .bool _⟩) fun p q e1 e2 e3 s v u rv ru _ _ => by
    obtain ⟨as, r1⟩ := rv.reads e1
    obtain ⟨bs, r2⟩ := ru.reads e2
    exact ne_dataH r1 r2 (and_1 e3) (and_2 e3) (Nat.lt_of_le_of_lt (Nat.add_le_add_right hA.2.2 64) (show 4000 + 64 < cLine by decide)) ⟨.refl s, .bool _⟩
theorem op_isnot {a b : D} {r : Bool} (e : isD a b = some r) : Cm C A Y .IsNot a b (!r) := fun s v u rv ru _ _ => by
  obtain ⟨x, e1, e⟩ := bnd e
  obtain ⟨y, e2, rfl⟩ := mpd e
  rw [asB_some e1] at rv
  rw [asB_some e2] at ru
  rw [rv.bool_inv, ru.bool_inv]
  exact isnot_bool ⟨.refl s, .bool _⟩
theorem inD_cases {a b : D} {r : Bool} (e : inD a b = some r) {P : D → D → Bool → Prop} (h1 : ∀ x y : Str, P (.str y) (.str x) (!(Builtin.Str.occurrences x y 0 x.length 1).isEmpty))
    (h2 : ∀ (k : Int) ds ns, asInts ds = some ns → P (.int k) (.list ds) (ns.any (· == k))) : P a b r := by
  unfold inD at e
  cases hs : asS a with
  | some y =>
    rw [hs] at e
    obtain ⟨x, e1, rfl⟩ := mpd e
    rw [asS_some hs, asS_some e1]
    exact h1 x y
  | none =>
    rw [hs] at e
    obtain ⟨k, e1, e⟩ := bnd e
    obtain ⟨ds, e2, e⟩ := bnd e
    obtain ⟨ns, e3, rfl⟩ := mpd e
    rw [asI_some e1, asL_some e2]
    exact h2 k ds ns e3
theorem op_in {a b : D} {r : Bool} (e : inD a b = some r) : Cm C A Y .In a b r :=
  inD_cases e (P := Cm C A Y .In) (fun x y => cm_str fun s t u => in_str ⟨.refl s, .bool _⟩) fun k ds ns e1 s v u rv ru _ _ => by
    obtain ⟨t, rfl⟩ := rv.int_inv
    obtain ⟨a, vs, rfl, _, hg, hl⟩ := ru.list_inv
    exact in_list_ints hg.isList (hl.ints e1) ⟨.refl s, .bool _⟩
theorem op_notin {a b : D} {r : Bool} (e : inD a b = some r) : Cm C A Y .NotIn a b (!r) :=
  inD_cases e (P := fun a b r => Cm C A Y .NotIn a b (!r)) (fun x y => cm_str fun s t u => notIn_str ⟨.refl s, .bool _⟩) fun k ds ns e1 s v u rv ru _ _ => by
    obtain ⟨t, rfl⟩ := rv.int_inv
    obtain ⟨a, vs, rfl, _, hg, hl⟩ := ru.list_inv
    exact notin_list_ints hg.isList (hl.ints e1) ⟨.refl s, .bool _⟩
theorem op_cmpI {op : CmpOp} {f : Int → Int → Bool} {a b : D} {r : Bool} (e : cmpI f a b = some r) (q : ∀ x y (s : Shared) t u, wpAny C.M A (compareOp op (.int x t) (.int y u)) (fun z s' => Kp C s s' ∧ Rep C Y s'.heap z (.bool (f x y))) (fun _ _ => False) s) : Cm C A Y op a b r := by
  obtain ⟨x, e1, e⟩ := bnd e
  obtain ⟨y, e2, rfl⟩ := mpd e
  rw [asI_some e1, asI_some e2]
  exact cm_int (q x y)
theorem op_cmp {op : CmpOp} {a b : D} {r : Bool} (hA : Ro A) (e : cmpB op a b = some r) : Cm C A Y op a b r := by
  cases op with
  | Eq => exact op_eq hA e
  | NotEq => obtain ⟨x, e1, rfl⟩ := mpd e; exact op_ne hA e1
  | Is => exact no e
  | IsNot => obtain ⟨x, e1, rfl⟩ := mpd e; exact op_isnot e1
  | In => exact op_in e
  | NotIn => obtain ⟨x, e1, rfl⟩ := mpd e; exact op_notin e1
  | Lt => exact op_cmpI e fun x y s t u => PyProof.Rows.lt_int ⟨.refl s, .bool _⟩
  | LtE => exact no e
  | Gt => exact op_cmpI e fun x y s t u => PyProof.Rows.gt_int ⟨.refl s, .bool _⟩
  | GtE => exact op_cmpI e fun x y s t u => ge_int ⟨.refl s, .bool _⟩
end
end Mine

end

section
open PySem PySem.W PyProof.Rows PySem.Calls
set_option maxRecDepth 100000
set_option linter.unusedVariables false
namespace Mine

noncomputable def slicePickL {α : Type} (l : List α) (lo hi st : Option Int) : List α :=
  (sliceRange (sliceBounds lo hi st l.length).1 (sliceBounds lo hi st l.length).2.1 (sliceBounds lo hi st l.length).2.2).filterMap (l[·]?)
noncomputable def itemL {α : Type} (l : List α) (i : Int) : Option α := if -1000000 ≤ i ∧ i < 1000000 then (seqIndex? i l.length).bind (l[·]?) else none
noncomputable def itemD (a b : D) : Option D := (asI b).bind fun i => D.casesOn (motive_1 := fun _ => Option D) a none (fun _ => none) (fun _ => none) (fun x => (itemL x.cps.toList i).map fun c => .str ⟨#[c]⟩) (fun l => itemL l i) (fun l => itemL l i)
  (fun kvs => ((kvs.find? fun p => p.1 = i).map (·.2)).map .int) (fun _ _ => none)
noncomputable def partD (d : D) : Option (Option Int) := D.casesOn (motive_1 := fun _ => Option (Option Int)) d (some none) (fun _ => none) (fun i => some (some i)) (fun _ => none) (fun _ => none) (fun _ => none) (fun _ => none) (fun _ _ => none)
noncomputable def sliceD (a lo hi st : D) : Option D := (asL a).bind fun l => (partD lo).bind fun x => (partD hi).bind fun y => (partD st).bind fun z => if z ≠ some 0 ∧ l.length ≤ sizeLine then some (.list (slicePickL l x y z)) else none
noncomputable def truthD (d : D) : Option Bool := D.casesOn (motive_1 := fun _ => Option Bool) d none (fun b => some b) (fun i => some (i != 0)) (fun _ => none) (fun l => if l.length ≤ sizeLine then some (!l.isEmpty) else none) (fun _ => none) (fun _ => none) (fun _ _ => none)
noncomputable def preMin (val : Nat → Int) : Nat → Int
  | 0 => val 0
  | k + 1 => if val (k + 1) < preMin val k then val (k + 1) else preMin val k
noncomputable def minL (ns : List Int) : Option Int := match ns with
  | [] => none
  | n :: r => some (r.foldl (fun m y => if y < m then y else m) n)

section
variable {C : Cfg} {A : Around} {Y : Addr → Prop} {h : Heap}
theorem RepL.pick {vs : List Value} {ds : List D} (r : RepL C Y h vs ds) (l : List Nat) : RepL C Y h (l.filterMap (vs[·]?)) (l.filterMap (ds[·]?)) := by
  induction l with
  | nil => exact .nil
  | cons i l ih =>
    cases e : vs[i]? with
    | some v =>
      obtain ⟨d, hd, hr⟩ := r.get' e
      rw [List.filterMap_cons_some (f := (vs[·]?)) e, List.filterMap_cons_some (f := (ds[·]?)) hd]
      exact .cons hr ih
    | none =>
      rw [List.filterMap_cons_none (f := (vs[·]?)) e, List.filterMap_cons_none (f := (ds[·]?)) (by rw [List.getElem?_eq_none_iff, ← r.length]; exact List.getElem?_eq_none_iff.mp e)]
      exact ih
theorem RepL.slice {vs : List Value} {ds : List D} (r : RepL C Y h vs ds) (lo hi st : Option Int) : RepL C Y h (slicePick vs.toArray lo hi st).toList (slicePickL ds lo hi st) := by
  unfold slicePick slicePickL
  simp only [List.size_toArray, List.getElem?_toArray, r.length]
  exact r.pick _
theorem op_binI {op : Operator} {f : Int → Int → Option Int} {a b d : D} (e : binI f a b = some d) (q : ∀ x y z, f x y = some z → ∀ (s : Shared) t u, wpAny C.M A (binaryOp op (.int x t) (.int y u)) (fun v s' => Kp C s s' ∧ Rep C Y s'.heap v (.int z)) (fun _ _ => False) s) : Op2 C A Y (binaryOp op) a b d := by
  refine bndE e fun x e1 e => ?_
  refine bndE e fun y e2 e => ?_
  obtain ⟨z, e3, rfl⟩ := mpd e
  rw [asI_some e1, asI_some e2]
  intro s v u rv ru _ _
  obtain ⟨t, rfl⟩ := rv.int_inv
  obtain ⟨t', rfl⟩ := ru.int_inv
  exact q x y z e3 s t t'
theorem op_add {a b d : D} (e : addD a b = some d) : Op2 C A Y (binaryOp .Add) a b d := by
  unfold addD at e
  cases hi : asI a with
  | some x =>
    rw [hi] at e
    obtain ⟨y, e1, rfl⟩ := mpd e
    rw [asI_some hi, asI_some e1]
    intro s v u rv ru _ _
    obtain ⟨t, rfl⟩ := rv.int_inv
    obtain ⟨t', rfl⟩ := ru.int_inv
    exact wpAny_add_int ⟨.tok, .int _ _⟩
  | none =>
    cases hs : asS a with
    | some x =>
      rw [hi, hs] at e
      refine bndE e fun y e1 e => ?_
      refine ifsE e fun hz e => ?_
      rw [asS_some hs, asS_some e1, ← so e]
      intro s v u rv ru _ _
      obtain ⟨t, rfl⟩ := rv.str_inv
      obtain ⟨t', rfl⟩ := ru.str_inv
      exact add_str (fun t' tk => ⟨.tok, .str _ _⟩) hz
    | none =>
      rw [hi, hs] at e
      refine bndE e fun x e1 e => ?_
      refine bndE e fun y e2 e => ?_
      refine ifsE e fun hz e => ?_
      rw [asL_some e1, asL_some e2, ← so e]
      intro s v u rv ru hY _
      obtain ⟨a, vs, rfl, ha, ⟨n, ho⟩, hl⟩ := rv.list_inv
      obtain ⟨b, us, rfl, hb, ⟨n', ho'⟩, hl'⟩ := ru.list_inv
      refine P.add_list (n := n) (n2 := n') ho ho' ⟨.push, .list (vs := vs ++ us) (fun q => hY _ q (none_of_size (Nat.le_refl _))) ⟨0, (Heap.get?_push_size s.heap rfl).trans (by rw [List.append_toArray])⟩ ?_⟩ (by rw [List.size_toArray, List.size_toArray, hl.length, hl'.length]; exact hz)
      exact (hl.append hl').mono fun b o hb e => ⟨keep_push _ _ _ e, hb⟩
theorem op_bin {op : Operator} {a b d : D} (hA : Ro A) (e : binD op a b = some d) : Op2 C A Y (binaryOp op) a b d := by
  cases op with
  | Add => exact op_add e
  | Sub => exact op_binI e fun x y z q s t u => by cases q; exact PyProof.Rows.sub_int ⟨.tok, .int _ _⟩
  | Mult => exact op_binI e fun x y z q s t u => by obtain ⟨hz, q⟩ := ifs q; cases q; exact PyProof.Rows.mul_int ⟨.tok, .int _ _⟩ (IntMulOk.of_left hz)
  | FloorDiv => exact op_binI e fun x y z q s t u => by obtain ⟨hz, q⟩ := ifs q; cases q; exact floordiv_int (Int.ne_of_gt hz.1) ⟨.tok, .int _ _⟩ (.inl (PyProof.noPylong_small (by omega)))
  | Mod => exact op_binI e fun x y z q s t u => by obtain ⟨hz, q⟩ := ifs q; cases q; exact mod_int' (Int.ne_of_gt hz) ⟨.tok, .int _ _⟩
  | Pow => exact op_binI e fun x y z q s t u => by obtain ⟨hz, q⟩ := ifs q; cases q; exact pow_int hz.1 hz.2 ⟨.tok, .int _ _⟩
  | _ => exact no e
end
end Mine

end

section
open PySem PySem.W PyProof.Rows PySem.Calls
set_option maxRecDepth 100000
set_option linter.unusedVariables false
namespace Mine

noncomputable def Op1 (C : Cfg) (A : Around) (Y : Addr → Prop) (t : Value → Sem Value) (a d : D) : Prop :=
  ∀ s v, Rep C Y s.heap v a → (∀ x, Y x → s.heap.get? x ≠ none) → C.J s.heap → wpAny C.M A (t v) (fun z s' => Kp C s s' ∧ Rep C Y s'.heap z d) (fun _ _ => False) s

noncomputable def lenD (d : D) : Option D := match asL d with
  | some l => if l.length ≤ sizeLine then some (.int l.length) else none
  | none => none
noncomputable def sumD (d : D) : Option D := (asL d).bind fun l => (asInts l).map fun ns => .int ns.sum
noncomputable def allD (d : D) : Option D := (asL d).bind fun l => (asBools l).map fun bs => .bool (bs.all id)
noncomputable def joinD (x y : D) : Option D := (asS x).bind fun x => (asL y).bind fun l => (asStrs l).bind fun ys => if (ys.map fun x => x.length).sum + ys.length * x.length ≤ 16777216 then some (.str (Txt.join x ys)) else none
noncomputable def countD (x y : D) : Option D := (asL x).bind fun l => (asI y).bind fun k => (asInts l).map fun ns => .int (ns.count k : Nat)
noncomputable def indexD (x y : D) : Option D := (asL x).bind fun l => (asI y).bind fun k => (asInts l).bind fun ns => if k ∈ ns ∧ ns.length ≤ 1000000 then some (.int (ns.idxOf k : Nat)) else none
noncomputable def cutsOf (x y : Str) : List Str := Builtin.Str.partsBetween x (Builtin.Str.occurrences x y 0 x.length (x.length + 1)) y.length
noncomputable def splitD (x y : D) : Option D := (asS x).bind fun x => (asS y).bind fun y => if (decide (x.length < y.length) || decide (Builtin.Str.strKind x < Builtin.Str.strKind y)) = false ∧ (y.length == 0) = false ∧ (Builtin.Str.occurrences x y 0 x.length (x.length + 1)).isEmpty = false ∧ x.length ≤ sizeLine ∧ (cutsOf x y).length ≤ sizeLine then some (.list ((cutsOf x y).map .str)) else none
noncomputable def sindexD (x y : D) : Option D := (asS x).bind fun x => (asS y).bind fun y => (Builtin.Str.occurrences x y 0 x.length 1).head?.map fun i => .int (i : Nat)
noncomputable def min2D (x y : D) : Option D := (asI x).bind fun a => (asI y).map fun b => .int (if b < a then b else a)
noncomputable def isBoolD (d : D) : Option D := D.casesOn (motive_1 := fun _ => Option D) d none (fun _ => some (.bool true)) (fun _ => some (.bool false)) (fun _ => none) (fun _ => none) (fun _ => none) (fun _ => none) (fun _ _ => none)

section
variable {C : Cfg} {A : Around} {Y : Addr → Prop} {h : Heap}
theorem fit63 {n : Nat} (h : n ≤ sizeLine) : (n : Int) < 2 ^ 63 := by simp only [sizeLine] at h; omega
theorem rng63 {i : Int} (h0 : -1000000 ≤ i) (h1 : i < 1000000) : (decide (i < -(2 ^ 63 : Int)) || decide (i ≥ 2 ^ 63)) = false := by
  rw [Bool.or_eq_false_iff, decide_eq_false_iff_not, decide_eq_false_iff_not]; omega
theorem is_int {i : Int} {t : Tok} : Value.isInt i (.int i t) = true := beq_self_eq_true i
theorem itemL_seq {α : Type} {l : List α} {i : Int} {x : α} (e : itemL l i = some x) : -1000000 ≤ i ∧ i < 1000000 ∧ ∃ k, seqIndex? i l.length = some k ∧ l[k]? = some x := by
  refine ifsE e fun hi e => ?_
  refine bndE e fun k h1 h2 => ?_
  exact ⟨hi.1, hi.2, k, h1, h2⟩
theorem seqIndex_cases {i : Int} {n k : Nat} (e : seqIndex? i n = some k) : (0 ≤ i ∧ k = i.toNat) ∨ (i < 0 ∧ -(n : Int) ≤ i ∧ k = (i + n).toNat) := by
  unfold seqIndex? at e
  by_cases h0 : i < 0
  · simp only [h0, if_true] at e
    refine ifsE e fun h1 e => ?_
    have h2 : 0 ≤ i + n := dec (and_1 h1)
    exact .inr ⟨h0, by omega, (so e).symm⟩
  · simp only [h0, if_false] at e
    refine ifsE e fun h1 e => ?_
    exact .inl ⟨Int.not_lt.mp h0, (so e).symm⟩

theorem kvIs_find {kvs : List (Int × Value)} {ds : List (Int × Int)} (h : KvIs kvs ds) (k : Int) {v : Int} (e : (ds.find? fun p => p.1 = k).map (·.2) = some v) : ∃ t, valueAt kvs k = some (.int v t) := by
  induction h with
  | nil => simp at e
  | cons k' v' t hl ih =>
    unfold valueAt at ih ⊢
    by_cases hk : k' = k
    · subst hk; simp at e; subst e; exact ⟨t, by simp⟩
    · simp only [List.find?_cons, hk, decide_false] at e ⊢
      exact ih e
theorem kvIs_find_none {kvs : List (Int × Value)} {ds : List (Int × Int)} (h : KvIs kvs ds) (k : Int) (e : (ds.find? fun p => p.1 = k).map (·.2) = none) : valueAt kvs k = none := by
  induction h with
  | nil => rfl
  | cons k' v' t hl ih =>
    unfold valueAt at ih ⊢
    by_cases hk : k' = k
    · subst hk; simp at e
    · simp only [List.find?_cons, hk, decide_false] at e ⊢
      exact ih e

theorem op_item {value slice : Expr} {a b d : D} (hs : ∀ o i, subscripted slice false o i = operate [o, i] (getItem o i)) (e : itemD a b = some d) : Op2 C A Y (subscriptTail value slice) a b d := by
  intro s v u rv ru hY _
  refine bndE e fun i e1 e2 => ?_
  rw [asI_some e1] at ru
  obtain ⟨tu, rfl⟩ := ru.int_inv
  clear e e1 ru
  have e := e2
  clear e2
  cases a with
  | str x =>
    obtain ⟨c, hc, rfl⟩ := mpd e
    obtain ⟨h0, h1, k, hk, hx⟩ := itemL_seq hc
    obtain ⟨t, rfl⟩ := rv.str_inv
    refine tail_any (T := "str") (typeIs_str _ _ _) F.slot_str_getitem.lookup (PyProof.Rows.getItem_str (c := c) (rng63 h0 h1) ?_ ⟨.tok, .str _ _⟩) (hs _ _)
    exact Option.bind_eq_some_iff.mpr ⟨k, hk, Array.getElem?_toList.symm.trans hx⟩
  | list l =>
    obtain ⟨h0, h1, k, hk, hx⟩ := itemL_seq e
    obtain ⟨a, vs, rfl, ha, hg, hl⟩ := rv.list_inv
    obtain ⟨x, hv, hr⟩ := hl.get hx
    rw [← List.getElem?_toArray] at hv
    refine tail_any hg.isList.typeIs slot_list_getitem.lookup ?_ (hs _ _)
    rcases seqIndex_cases hk with ⟨h2, rfl⟩ | ⟨h2, h3, rfl⟩
    · exact wpAny_getItem_list hg.isList h2 (by omega) hv ⟨.refl s, hr⟩
    · rw [← hl.length] at hv h3
      exact wpAny_getItem_list_neg hg.isList h2 h3 (by omega) hv ⟨.refl s, hr⟩
  | tup l =>
    obtain ⟨h0, h1, k, hk, hx⟩ := itemL_seq e
    obtain ⟨a, vs, rfl, ha, hg, hl⟩ := rv.tup_inv
    obtain ⟨x, hv, hr⟩ := hl.get hx
    rw [← List.getElem?_toArray] at hv
    rw [← hl.length] at hk
    exact tail_any hg.typeIs slot_tuple_getitem.lookup (getItem_tuple hg (by omega) (by omega) hk hv ⟨.refl s, hr⟩) (hs _ _)
  | dict l =>
    obtain ⟨x, hx, rfl⟩ := mpd e
    obtain ⟨a, kvs, rfl, ha, hsm, hg, hl⟩ := rv.dict_inv
    obtain ⟨t, ht⟩ := kvIs_find hl _ hx
    exact tail_any hg.typeIs slot_dict_getitem.lookup (wpAny_getItem_of (is_int (t := tu)) hg.mapOf ht ⟨.tok, .int _ _⟩) (hs _ _)
  | _ => exact no e

theorem partD_is {s : Heap} {v : Value} {d : D} {x : Option Int} (r : Rep C Y s v d) (e : partD d = some x) : IsPart v x := by
  cases d with
  | none => rw [r.none_inv, ← so e]; exact .none
  | int i => obtain ⟨t, rfl⟩ := r.int_inv; rw [← so e]; exact .int _ _
  | _ => exact no e
theorem op_slice {value slice : Expr} {a lo hi st d : D} (hs : ∀ o i, ∃ ops, subscripted slice false o i = operate ops (getItem o i)) (e : sliceD a lo hi st = some d) {s : Shared} {v vl vu vs : Value}
    (rv : Rep C Y s.heap v a) (rl : Rep C Y s.heap vl lo) (ru : Rep C Y s.heap vu hi) (rs : Rep C Y s.heap vs st) (hY : ∀ x, Y x → s.heap.get? x ≠ none) :
    wpAny C.M A (subscriptTail value slice v (.ref s.heap.objs.size)) (fun z s' => Kp C s s' ∧ Rep C Y s'.heap z d) (fun _ _ => False) { s with heap := s.heap.push { cls := .type "slice", data := .fields #[vl, vu, vs] } } := by
  refine bndE e fun l e0 e => ?_
  refine bndE e fun x e1 e => ?_
  refine bndE e fun y e2 e => ?_
  refine bndE e fun z e3 e => ?_
  refine ifsE e fun hz e => ?_
  rw [asL_some e0] at rv
  rw [← so e]
  obtain ⟨a, vs', rfl, ha, hg, hl⟩ := rv.list_inv
  obtain ⟨ops, hop⟩ := hs (.ref a) (.ref s.heap.objs.size)
  refine tail_any (Heap.IsList.typeIs (s := { s with heap := s.heap.push _ }) (hg.isList.push _)) slot_list_getitem.lookup ?_ hop
  refine wpAny_getItem_list_slice (hg.isList.push _) (Heap.IsSliceOf.new ..) (partD_is rl e1) (partD_is ru e2) (partD_is rs e3) hz.1 ⟨Kp.heap fun b o e => keep_push _ _ _ (keep_push _ _ _ e), ?_⟩ (by rw [List.size_toArray, hl.length]; exact hz.2)
  refine .list (vs := (slicePick vs'.toArray x y z).toList) (fun q => hY _ q (none_of_size (Nat.le_of_lt (by rw [Heap.size_push]; exact Nat.lt_succ_self _)))) ⟨0, (Heap.get?_push_size _ rfl).trans (by rw [Array.toArray_toList])⟩ ?_
  exact (hl.slice x y z).mono fun b o hb e => ⟨keep_push _ _ _ (keep_push _ _ _ e), hb⟩

theorem truthy_ok {a : D} {b : Bool} (e : truthD a = some b) {s : Shared} {v : Value} (rv : Rep C Y s.heap v a) : wpAny C.M A (truthy v) (fun z s' => Kp C s s' ∧ z = b) (fun _ _ => False) s := by
  cases a with
  | bool x => rw [rv.bool_inv, ← so e]; exact wpAny_truthy_bool ⟨.refl s, rfl⟩
  | int x => obtain ⟨t, rfl⟩ := rv.int_inv; rw [← so e]; exact truthy_int ⟨.refl s, rfl⟩
  | list l =>
    refine ifsE e fun hz e => ?_
    obtain ⟨a, vs, rfl, ha, hg, hl⟩ := rv.list_inv
    rw [← so e]
    refine wpAny_truthy_list hg.isList (fit63 (by rw [List.size_toArray, hl.length]; exact hz)) ⟨.tok, ?_⟩
    cases l with
    | nil => rw [hl.nil_inv]; rfl
    | cons d ds => obtain ⟨v, us, rfl, _⟩ := hl.cons_inv; rfl
  | _ => exact no e

theorem op_len {a d : D} (e : lenD a = some d) : Op1 C A Y (fun v => call (.builtin "len") [v]) a d := by
  intro s v rv hY _
  unfold lenD at e
  cases h : asL a with
  | none => rw [h] at e; exact no e
  | some l =>
    rw [h] at e
    refine ifsE e fun hz e => ?_
    rw [asL_some h] at rv
    obtain ⟨a, vs, rfl, ha, hg, hl⟩ := rv.list_inv
    rw [← so e]
    rw [← hl.length] at hz ⊢
    exact Calls.call_function_entry kind_len plain_len entry_len (args_len1 _) (wpAny_len_body_list hg.isList (fit63 hz) ⟨.tok, .int _ _⟩)
theorem op_isBool {a d : D} (e : isBoolD a = some d) : Op1 C A Y (fun v => call (.builtin "isinstance") [v, .type "bool"]) a d := by
  intro s v rv hY _
  cases a with
  | bool b => rw [rv.bool_inv, ← so e]; exact IsiPair.bool_bool ⟨.refl s, .bool _⟩
  | int i => obtain ⟨t, rfl⟩ := rv.int_inv; rw [← so e]; exact IsiPair.int_bool ⟨.tok, .bool _⟩
  | _ => exact no e
theorem op_join {a b d : D} (e : joinD a b = some d) : Op2 C A Y (fun v u => call (.builtin "str.join") [v, u]) a b d := by
  intro s v u rv ru hY _
  refine bndE e fun x e1 e => ?_
  refine bndE e fun l e2 e => ?_
  refine bndE e fun ys e3 e => ?_
  refine ifsE e fun hz e => ?_
  rw [asS_some e1] at rv
  rw [asL_some e2] at ru
  rw [← so e]
  obtain ⟨t, rfl⟩ := rv.str_inv
  obtain ⟨a, vs, rfl, ha, hg, hl⟩ := ru.list_inv
  exact join_list hg.isList (hl.strs e3) hz fun t' k => ⟨.tok, .str _ _⟩
theorem op_count {a b d : D} (e : countD a b = some d) : Op2 C A Y (fun v u => call (.builtin "list.count") [v, u]) a b d := by
  intro s v u rv ru hY _
  refine bndE e fun l e1 e => ?_
  refine bndE e fun k e2 e => ?_
  obtain ⟨ns, e3, rfl⟩ := mpd e
  rw [asL_some e1] at rv
  rw [asI_some e2] at ru
  obtain ⟨t, rfl⟩ := ru.int_inv
  obtain ⟨a, vs, rfl, ha, hg, hl⟩ := rv.list_inv
  exact count_list_ints hg.isList (hl.ints e3) ⟨.tok, .int _ _⟩
theorem op_index {a b d : D} (e : indexD a b = some d) : Op2 C A Y (fun v u => call (.builtin "list.index") [v, u]) a b d := by
  intro s v u rv ru hY _
  refine bndE e fun l e1 e => ?_
  refine bndE e fun k e2 e => ?_
  refine bndE e fun ns e3 e => ?_
  refine ifsE e fun hz e => ?_
  rw [asL_some e1] at rv
  rw [asI_some e2] at ru
  rw [← so e]
  obtain ⟨t, rfl⟩ := ru.int_inv
  obtain ⟨a, vs, rfl, ha, ⟨n, ho⟩, hl⟩ := rv.list_inv
  have hi := hl.ints e3
  have hlen := hi.length
  have hj : ns.idxOf k < ns.length := List.idxOf_lt_length_iff.mpr hz.1
  refine call_meets PySem.F.slot_list_index ⟨_, ho, rfl⟩ PySem.F.entry_list_index (PySem.F.args_list_index_2 _ _)
    (SeqAt.list_indexAt a vs.toArray n none #[] (.int k t) (isInt k) (ns.idxOf k) (by rw [List.size_toArray, hlen]; exact hj) (by omega) ?_ ?_) ⟨ho, fun y hy => (eq_isInt k t hi y (List.mem_toArray.mp hy)).at _ _, ⟨.tok, .int _ _⟩⟩
  · show isInt k vs[ns.idxOf k] = true
    rw [isInt_at k hi _ (by omega) hj]
    exact beq_iff_eq.mpr (List.getElem_idxOf hj)
  · intro j hjs hlt
    show isInt k vs[j] = false
    rw [isInt_at k hi j hjs (by omega)]
    exact ne_of_lt_idxOf hlt _
theorem repL_strsFrom {h : Heap} : ∀ (l : List Str) (t : Nat), RepL C Y h (strsFrom t l) (l.map .str)
  | [], t => .nil
  | x :: l, t => .cons (.str _ _) (repL_strsFrom l (t + 1))
theorem op_split {a b d : D} (e : splitD a b = some d) : Op2 C A Y (fun v u => call (.builtin "str.split") [v, u]) a b d := by
  intro s v u rv ru hY _
  refine bndE e fun x e1 e => ?_
  refine bndE e fun y e2 e => ?_
  refine ifsE e fun hz e => ?_
  rw [asS_some e1] at rv
  rw [asS_some e2] at ru
  rw [← so e]
  obtain ⟨t, rfl⟩ := rv.str_inv
  obtain ⟨u, rfl⟩ := ru.str_inv
  refine call_meets F.slot_str_split (typeIs_str _ _ _) F.entry_str_split (F.args_str_split_2 _ _) (meets_str_split_sep x y t u hz.1 hz.2.1 hz.2.2.1 hz.2.2.2.1 hz.2.2.2.2) ?_
  exact ⟨Kp.push, .list (vs := strsFrom s.toks (cutsOf x y)) (fun q => hY _ q (none_of_size (Nat.le_refl _))) ⟨0, Heap.get?_push_size _ rfl⟩ (repL_strsFrom _ _)⟩
theorem op_sindex {a b d : D} (e : sindexD a b = some d) : Op2 C A Y (fun v u => call (.builtin "str.index") [v, u]) a b d := by
  intro s v u rv ru hY _
  refine bndE e fun x e1 e => ?_
  refine bndE e fun y e2 e => ?_
  obtain ⟨i, hi, rfl⟩ := mpd e
  obtain ⟨r, hi⟩ := List.head?_eq_some_iff.mp hi
  rw [asS_some e1] at rv
  rw [asS_some e2] at ru
  obtain ⟨t, rfl⟩ := rv.str_inv
  obtain ⟨u, rfl⟩ := ru.str_inv
  exact call_gives F.slot_str_index (typeIs_str _ _ _) F.entry_str_index (F.args_str_index_2 _ _) (gives_str_index x y t u i r hi) ⟨.tok, .int _ _⟩
end
end Mine

end

section
open PySem PySem.W PyProof.Rows PySem.Calls
set_option maxRecDepth 100000
set_option linter.unusedVariables false
namespace Mine

section
variable {C : Cfg} {A : Around} {Y : Addr → Prop} {h : Heap}
theorem ne_of_some_none {h : Heap} {a b : Addr} {o : Obj} (ha : h.get? a = some o) (hb : h.get? b = none) : a ≠ b := fun e => by rw [e, hb] at ha; cases ha
theorem kp_moved {s s' : Shared} {I : Addr} {h1 : Heap} (hk : Keep s.heap h1) (hI : s.heap.get? I = none) (m : Moved [I] (fun a b => b = a) { s with heap := h1 } s') : Kp C s s' := by
  have kp : Keep s.heap s'.heap := fun b o e => m.heap b o (by simpa using ne_of_some_none e hI) (hk b o e)
  exact ⟨m.os, fun b o _ e => kp b o e, fun g => by rw [show s'.gens = s.gens from m.gens]; exact g, fun j => j.keep kp⟩
theorem list_walk {s : Shared} {l : Addr} {items : Array Value} {Q : Value → Shared → Prop} {E : Value → Shared → Prop} (hh : A.handled = none) (hl : s.heap.IsList l items)
    (h : ∀ I h1, Keep s.heap h1 → s.heap.get? I = none → (∃ o, h1.get? I = some o) → l ≠ I → Walks C.prog C.w A I [I, l] [I] items.size (fun i v => items[i]? = some v) (fun i h => h.IsListIter I l i ∧ h.IsList l items) → (h1.IsListIter I l 0 ∧ h1.IsList l items) →
      (∀ b ∈ [I, l], b < h1.objs.size) → h1.objs.size = I + 1 → Q (.ref I) { s with heap := h1 }) : wpAny C.M A (pyIter (.ref l)) Q E s := by
  obtain ⟨o, ho, _⟩ := id hl
  have hlt : l < s.heap.objs.size := Heap.lt_size ho
  refine wpAny_pyIter_list hl (h s.heap.objs.size _ (keep_push _) (none_of_size (Nat.le_refl _)) ⟨_, Heap.get?_push_size _ rfl⟩ (Nat.ne_of_lt hlt) (Walks.list hh _ _ (Nat.ne_of_lt hlt) items) ⟨⟨_, Heap.get?_push_size _ rfl, rfl, rfl⟩, hl.push _⟩ (fun b hb => ?_) (by rw [Heap.size_push]))
  simp only [List.mem_cons, List.not_mem_nil, or_false] at hb
  rw [Heap.size_push]
  rcases hb with rfl | rfl
  · exact Nat.lt_succ_self _
  · exact Nat.lt_succ_of_lt hlt

theorem IntsAre.at {vs : List Value} {ns : List Int} (h : IntsAre vs ns) {i : Nat} {v : Value} (e : vs[i]? = some v) : ∃ t, v = .int (ns.getD i 0) t := by
  induction h generalizing i with
  | nil => exact no e
  | cons n t hl ih =>
    cases i with
    | zero => exact ⟨t, (so e).symm⟩
    | succ i => exact ih e
theorem at_arr {vs : List Value} {i : Nat} {v : Value} (h : vs.toArray[i]? = some v) : vs[i]? = some v := by rwa [List.getElem?_toArray] at h
theorem op_sum {a d : D} (hA : Ro A) (e : sumD a = some d) : Op1 C A Y (fun v => call (.builtin "sum") [v]) a d := by
  intro s v rv hY _
  refine bndE e fun ds e0 e => ?_
  obtain ⟨ns, e1, rfl⟩ := mpd e
  rw [asL_some e0] at rv
  obtain ⟨l, vs, rfl, ha, hg, hl⟩ := rv.list_inv
  have hi := hl.ints e1
  refine call_sum_walkAnyS (list_walk (A := A.in1) hA.1 hg.isList fun I h1 hk hI _ hne W st fp _ => ⟨I, _, _, _, _, _, _, fun i => ns.getD i 0, rfl, W.toS, st, fp, fun i v hv => Mine.IntsAre.at hi (at_arr hv), fun s' t' m => ⟨kp_moved hk hI m, ?_⟩⟩)
  rw [List.size_toArray, hi.length, preSum_getD, List.take_length]
  exact .int _ _
theorem asBools_at {ds : List D} {bs : List Bool} (e : asBools ds = some bs) {vs : List Value} (r : RepL C Y h vs ds) : vs.length = bs.length ∧ ∀ {i : Nat} {v : Value}, vs[i]? = some v → v = .bool (bs.getD i true) := by
  induction ds generalizing vs bs with
  | nil => rw [r.nil_inv, ← so e]; exact ⟨rfl, fun e => no e⟩
  | cons d ds ih =>
    obtain ⟨v, us, rfl, a, b⟩ := r.cons_inv
    refine bndE e fun x e1 e => ?_
    obtain ⟨bs', e2, rfl⟩ := mpd e
    obtain ⟨h1, h2⟩ := ih e2 b
    rw [asB_some e1] at a
    refine ⟨congrArg Nat.succ h1, fun {i v} e => ?_⟩
    cases i with
    | zero => exact (so e).symm.trans a.bool_inv
    | succ i => exact h2 e
theorem range_all (bs : List Bool) : ((List.range bs.length).all fun i => bs.getD i true) = bs.all id := by
  rw [Bool.eq_iff_iff, List.all_eq_true, List.all_eq_true]
  constructor
  · intro h b hb
    obtain ⟨i, hi, rfl⟩ := List.getElem_of_mem hb
    have := h i (List.mem_range.mpr hi)
    simpa [hi] using this
  · intro h i hi
    have hi := List.mem_range.mp hi
    have := h bs[i] (List.getElem_mem hi)
    simpa [hi] using this
theorem op_all {a d : D} (hA : Ro A) (e : allD a = some d) : Op1 C A Y (fun v => call (.builtin "all") [v]) a d := by
  intro s v rv hY _
  refine bndE e fun ds e0 e => ?_
  obtain ⟨bs, e1, rfl⟩ := mpd e
  rw [asL_some e0] at rv
  obtain ⟨l, vs, rfl, ha, hg, hl⟩ := rv.list_inv
  obtain ⟨h1, h2⟩ := asBools_at e1 hl
  refine call_all_walkS (list_walk (A := A.in1) hA.1 hg.isList fun I h1' hk hI _ hne W st fp _ => ⟨I, _, _, _, _, _, _, fun i => bs.getD i true, rfl, W.toS, st, fun i v s Q E hv hq => ?_, fun s' m => ⟨kp_moved hk hI m, ?_⟩⟩)
  · rw [h2 (at_arr hv)]; exact wpAny_truthy_bool hq
  · rw [List.size_toArray, h1, range_all]; exact .bool _
theorem argBest_min (val : Nat → Int) : ∀ k, val (argBest (fun i j => decide (val i < val j)) k) = preMin val k
  | 0 => rfl
  | k + 1 => by
    have ih := argBest_min val k
    show val (if decide (val (k + 1) < val (argBest _ k)) = true then k + 1 else argBest _ k) = _
    rw [ih]
    simp only [preMin, decide_eq_true_eq]
    split <;> simp_all
theorem preMin_congr {f g : Nat → Int} : ∀ k, (∀ i, i ≤ k → f i = g i) → preMin f k = preMin g k
  | 0, h => h 0 (Nat.le_refl _)
  | k + 1, h => by
    simp only [preMin]
    rw [preMin_congr k (fun i hi => h i (by omega)), h (k + 1) (Nat.le_refl _)]
theorem minL_eq (n : Int) (r : List Int) : minL (n :: r) = some (preMin (fun i => (n :: r).getD i 0) r.length) := by
  simp only [minL]
  congr 1
  generalize hk : r.length = k
  induction k generalizing r with
  | zero => cases r <;> simp_all [preMin]
  | succ k ih =>
    have hne : r ≠ [] := by intro q; subst q; simp at hk
    obtain ⟨r', x, rfl⟩ : ∃ r' x, r = r' ++ [x] := ⟨r.dropLast, r.getLast hne, (List.dropLast_concat_getLast hne).symm⟩
    simp at hk
    simp only [List.foldl_append, List.foldl_cons, List.foldl_nil]
    rw [ih r' hk]
    simp only [preMin]
    have e1 : ((n :: (r' ++ [x])).getD (k + 1) 0) = x := by simp [← hk]
    rw [e1, preMin_congr (g := fun i => (n :: (r' ++ [x])).getD i 0) k (fun i hi => ?_)]
    have : (n :: (r' ++ [x])) = (n :: r') ++ [x] := rfl
    rw [this]
    simp only [List.getD_eq_getElem?_getD]
    rw [List.getElem?_append_left (by simp; omega)]
theorem cmp_ints {prog : Program} {w : World} {A : Around} {P : Nat → Value → Prop} (val : Nat → Int) (h : ∀ i v, P i v → ∃ t, v = .int (val i) t) : CmpOf prog w A .Lt P (fun i j => decide (val i < val j)) := by
  intro i j vi vj s Q E hi hj hq
  obtain ⟨t, rfl⟩ := h i vi hi
  obtain ⟨u, rfl⟩ := h j vj hj
  exact wpAny_lt_int hq
theorem at_two {x y : Int} {t t' : Tok} (i : Nat) (v : Value) (hv : (#[Value.int x t, Value.int y t'])[i]? = some v) : ∃ t, v = Value.int ([x, y].getD i 0) t := by
  cases i with
  | zero => exact ⟨t, (so hv).symm⟩
  | succ i =>
    cases i with
    | zero => exact ⟨t', (so hv).symm⟩
    | succ i => exact no (at_arr (vs := [.int x t, .int y t']) hv)
theorem op_min2 {a b d : D} (hA : Ro A) (e : min2D a b = some d) : Op2 C A Y (fun v u => call (.builtin "min") [v, u]) a b d := by
  intro s v u rv ru hY _
  refine bndE e fun x e1 e => ?_
  obtain ⟨y, e2, rfl⟩ := mpd e
  rw [asI_some e1] at rv
  rw [asI_some e2] at ru
  obtain ⟨t, rfl⟩ := rv.int_inv
  obtain ⟨t', rfl⟩ := ru.int_inv
  have hT : (s.heap.push { cls := .type "tuple", data := .seq #[.int x t, .int y t'] }).IsTuple s.heap.objs.size #[.int x t, .int y t'] := ⟨_, Heap.get?_push_size _ rfl, rfl, _, rfl⟩
  refine call_min_two (wpAny_pyIter_tuple hT ?_)
  refine ⟨_, _, _, _, _, _, _, rfl, Walks.tuple (A := A.in1) hA.1 _ _ (Nat.ne_of_lt (by rw [Heap.size_push]; exact Nat.lt_succ_self _)) _, ⟨⟨_, Heap.get?_push_size _ rfl, rfl, rfl⟩, hT.push _⟩, ?_, Nat.succ_pos 1, cmp_ints _ at_two, fun v h' tk hP hk' => ?_⟩
  · intro b hb
    rw [Heap.size_push]
    rcases List.mem_cons.mp hb with rfl | hb
    · exact Nat.lt_succ_self _
    · rw [List.mem_singleton.mp hb, Heap.size_push]; exact Nat.lt_succ_of_lt (Nat.lt_succ_self _)
  · have hkk : Keep s.heap h' := fun b o e => hk' b o (by have := Heap.lt_size e; rw [List.mem_singleton, Heap.size_push]; exact Nat.ne_of_lt (Nat.lt_succ_of_lt this)) (keep_push _ _ _ (keep_push _ _ _ e))
    refine ⟨Kp.heap hkk, ?_⟩
    obtain ⟨t, rfl⟩ := at_two _ _ hP
    rw [argBest_min (fun i => [x, y].getD i 0)]
    exact .int _ _
end
end Mine

end

section
open PySem PySem.W PyProof.Rows PySem.Calls
set_option maxRecDepth 100000
set_option linter.unusedVariables false
namespace Mine

noncomputable def noStar (e : Expr) : Bool := !(Nat.beq e.ctorIdx 22)
noncomputable def plainBase (e : Expr) : Bool := !(Nat.beq e.ctorIdx 16)

structure Bs (C : Cfg) (Y : Addr → Prop) (s : Shared) : Prop where
  kp : Keep C.g s.heap
  jj : C.J s.heap
  gb : AllBare s.gens
  yl : ∀ a, Y a → s.heap.get? a ≠ none
  yg : ∀ a, Y a → C.g.get? a = none
  ty : ∀ a, C.Tb a → Y a
  yc : ∀ a, Y a → ∀ o, s.heap.get? a = some o → ¬ isCd o

structure FnOk (C : Cfg) (A : Around) (a : Addr) (F : List D → Option D) : Prop where
  at' : FnAt a C.g
  run : ∀ (Y : Addr → Prop) (s : Shared) vs ds d, Bs C Y s → RepL C Y s.heap vs ds → F ds = some d →
    wpAny C.M A (call (.ref a) vs) (fun v s' => Kp C s s' ∧ Rep C Y s'.heap v d) (fun _ _ => False) s
noncomputable def GlobIs (C : Cfg) (x : Str) (v : Value) : Prop := ∀ env : Env, env.globals = mainGlobals → env.builtins = builtinsNs → Looks C.M C.g (loadGlobal env x) v
structure Fm (env : Env) : Prop where
  k : env.scope.kind = .function
  g : env.globals = mainGlobals
  b : env.builtins = builtinsNs
  c : ∀ x, (env.kindOf x = some .cell ∨ env.kindOf x = some .free) → ∃ c, env.cells.lookup x = some c

section
variable {C : Cfg} {A : Around} {env : Env} {Z : Addr → Prop} {θ : Str → List Addr} {σ : St}
theorem Inv.bs {s : Shared} (i : Inv C env Z θ σ s) : Bs C (Yf C env Z θ) s := ⟨i.kp, i.jj, i.gb, i.yl, i.yg, fun a t => .inr (.inl t), i.yc⟩
theorem starEach_cons {e : Expr} {rest : List Expr} (h : noStar e = true) : starEach (e :: rest) env = (false, eval e env) :: starEach rest env := by
  cases e with
  | Starred _ _ => exact nob h
  | _ => rfl
theorem any_star {pos : Pos} {es : List Expr} (h : es.all noStar = true) : (backTo pos (starEach es env)).any (·.1) = false := by
  induction es with
  | nil => rfl
  | cons e r ih => rw [starEach_cons (and_1 h)]; exact ih (and_2 h)
theorem all_star {pos : Pos} {es : List Expr} (h : es.all noStar = true) : (backTo pos (starEach es env)).all (fun x => !x.1) = true := by
  induction es with
  | nil => rfl
  | cons e r ih => rw [starEach_cons (and_1 h)]; exact ih (and_2 h)

inductive Evs (C : Cfg) (A : Around) (env : Env) (Z : Addr → Prop) (θ : Str → List Addr) (σ : St) : List Expr → List D → Prop
  | nil : Evs C A env Z θ σ [] []
  | cons {e es d ds} : noStar e = true → Ev C A env Z θ σ (eval e env) d → Evs C A env Z θ σ es ds → Evs C A env Z θ σ (e :: es) (d :: ds)
theorem Evs.star {es : List Expr} {ds : List D} (h : Evs C A env Z θ σ es ds) : es.all noStar = true := by
  induction h with
  | nil => rfl
  | cons a b c ih => exact to_and a ih
theorem Evs.spliced {es : List Expr} {ds : List D} (h : Evs C A env Z θ σ es ds) (pos : Pos) : EvL C A env Z θ σ (spliced (backTo pos (starEach es env))) ds := by
  induction h with
  | nil => exact fun s i => spliced_none ⟨.refl s, .nil⟩
  | cons a b c ih =>
    intro s i
    refine spliced_more (b.use i fun v s1 k1 i1 r1 => ?_) (starEach_cons a)
    exact wpAny_mono (ih s1 i1) (fun vs s2 q => ⟨k1.trans q.1, .cons (q.1.rep r1) q.2⟩) fun _ _ f => f

theorem ev_list {es : List Expr} {ds : List D} {pos : Pos} (h : Evs C A env Z θ σ es ds) (hz : ds.length ≤ 1000) : Ev C A env Z θ σ (eval (.List es pos) env) (.list ds) := fun s i => by
  refine wpAny_List ((h.spliced pos).use i fun vs s1 k1 i1 r1 => ⟨by rw [r1.length]; simp only [sizeLine]; omega, k1.trans .push, .list i1.size ⟨0, Heap.get?_push_size _ rfl⟩ ?_⟩)
  exact r1.mono fun b o hb e => ⟨keep_push _ _ _ e, hb⟩
theorem ev_tuple {es : List Expr} {ds : List D} {k : Nat} {pos : Pos} (h : Evs C A env Z θ σ es ds) (hz : ds.length ≤ 1000) : Ev C A env Z θ σ (eval (.Tuple es k pos) env) (.tup ds) := fun s i => by
  refine wpAny_Tuple ((h.spliced pos).use i fun vs s1 k1 i1 r1 => ⟨by rw [r1.length]; simp only [sizeLine]; omega, k1.trans .push, .tup i1.size ⟨_, Heap.get?_push_size _ rfl, rfl, _, rfl⟩ ?_⟩)
  exact r1.mono fun b o hb e => ⟨keep_push _ _ _ e, hb⟩

theorem tv_of {e : Expr} {d : D} {b : Bool} (h : Ev C A env Z θ σ (eval e env) d) (hb : truthD d = some b) (he : isTrue e env (eval e env) = (do let v ← eval e env; standAt e.pos; holding [v] (truthy v))) : Tv C A env Z θ σ (isTrue e env (eval e env)) b := fun s i => by
  refine isTrue_plain (h.use i fun v s1 k1 i1 r1 => ?_) he
  exact wpAny_mono (truthy_ok hb r1) (fun z s2 q => ⟨k1.trans q.1, q.2⟩) fun _ _ f => f
theorem tv_cmp {l r : Expr} {op : CmpOp} {pos : Pos} {a b : D} {c : Bool} (hA : Ro A) (h1 : Ev C A env Z θ σ (eval l env) a) (h2 : Ev C A env Z θ σ (eval r env) b)
    (h : cmpB op a b = some c) (hm : behindInMarks op r = false) : Tv C A env Z θ σ (isTrue (.Compare l [op] [r] pos) env (eval (.Compare l [op] [r] pos) env)) c := fun s i => by
  refine wpAny_isTrue_Compare1 (h1.use i fun v s1 k1 i1 r1 => h2.use i1 fun u s2 k2 i2 r2 => ?_) hm
  refine wpAny_mono (op_cmp hA h s2 v u (k2.rep r1) r2 i2.yl i2.jj) (fun z s3 q => ?_) fun _ _ f => f.elim
  obtain ⟨k3, r3⟩ := q
  rw [r3.bool_inv]
  exact wpAny_truthy_bool ⟨(k1.trans k2).trans k3, rfl⟩
theorem tv_not {x : Expr} {pos : Pos} {b : Bool} (h : Tv C A env Z θ σ (isTrue x env (eval x env)) b) : Tv C A env Z θ σ (isTrue (.UnaryOp .Not x pos) env (eval (.UnaryOp .Not x pos) env)) (!b) := fun s i =>
  isTrue_not (wpAny_mono (h s i) (fun c s1 q => ⟨q.1, by rw [q.2]⟩) fun _ _ f => f)
theorem tv_and {x y : Expr} {pos : Pos} {a b : Bool} (h1 : Tv C A env Z θ σ (isTrue x env (eval x env)) a) (h2 : a = true → Tv C A env Z θ σ (isTrue y env (eval y env)) b) :
    Tv C A env Z θ σ (isTrue (.BoolOp .And [x, y] pos) env (eval (.BoolOp .And [x, y] pos) env)) (a && b) := fun s i => by
  refine isTrue_and (pos := pos) (h1.use i fun s1 k1 i1 => ?_)
  cases a with
  | false => exact ⟨k1, rfl⟩
  | true =>
    refine isTrue_and (pos := pos) ((h2 rfl).use i1 fun s2 k2 i2 => ?_)
    cases b with
    | false => exact ⟨k1.trans k2, rfl⟩
    | true => exact isTrue_and_nil (pos := pos) ⟨k1.trans k2, rfl⟩
theorem tv_or {x y : Expr} {pos : Pos} {a b : Bool} (h1 : Tv C A env Z θ σ (isTrue x env (eval x env)) a) (h2 : a = false → Tv C A env Z θ σ (isTrue y env (eval y env)) b) :
    Tv C A env Z θ σ (isTrue (.BoolOp .Or [x, y] pos) env (eval (.BoolOp .Or [x, y] pos) env)) (a || b) := fun s i => by
  refine isTrue_or (pos := pos) (h1.use i fun s1 k1 i1 => ?_)
  cases a with
  | true => exact ⟨k1, rfl⟩
  | false =>
    refine isTrue_or (pos := pos) ((h2 rfl).use i1 fun s2 k2 i2 => ?_)
    cases b with
    | true => exact ⟨k1.trans k2, rfl⟩
    | false => exact isTrue_or_nil (pos := pos) ⟨k1.trans k2, rfl⟩
theorem ev_ifexp {t x y : Expr} {pos : Pos} {b : Bool} {d : D} (h : Tv C A env Z θ σ (isTrue t env (eval t env)) b) (h1 : b = true → Ev C A env Z θ σ (eval x env) d) (h2 : b = false → Ev C A env Z θ σ (eval y env) d) :
    Ev C A env Z θ σ (eval (.IfExp t x y pos) env) d := fun s i => by
  refine wpAny_IfExp (h.use i fun s1 k1 i1 => ?_)
  cases b with
  | true => exact wpAny_mono (h1 rfl s1 i1) (fun z s2 q => ⟨k1.trans q.1, q.2⟩) fun _ _ f => f
  | false => exact wpAny_mono (h2 rfl s1 i1) (fun z s2 q => ⟨k1.trans q.1, q.2⟩) fun _ _ f => f

theorem ev_sub {v sl : Expr} {pos : Pos} {a b d : D} (h1 : Ev C A env Z θ σ (eval v env) a) (h2 : Ev C A env Z θ σ (eval sl env) b) (hs : ∀ o i, subscripted sl false o i = operate [o, i] (getItem o i)) (e : itemD a b = some d) :
    Ev C A env Z θ σ (eval (.Subscript v sl pos) env) d := fun s i => by
  refine Subscript_ (h1.use i fun v s1 k1 i1 r1 => h2.use i1 fun u s2 k2 i2 r2 => ?_)
  exact wpAny_mono (op_item hs e s2 v u (k2.rep r1) r2 i2.yl i2.jj) (fun z s3 q => ⟨(k1.trans k2).trans q.1, q.2⟩) fun _ _ f => f
theorem ev_slice {v : Expr} {lo hi st : Option Expr} {p pos : Pos} {a dl du ds d : D} (h1 : Ev C A env Z θ σ (eval v env) a) (hl : Ev C A env Z θ σ (evalPart lo env) dl) (hu : Ev C A env Z θ σ (evalPart hi env) du) (hst : Ev C A env Z θ σ (evalPart st env) ds)
    (e : sliceD a dl du ds = some d) : Ev C A env Z θ σ (eval (.Subscript v (.Slice lo hi st p) pos) env) d := fun s i => by
  refine Subscript_ (h1.use i fun v s1 k1 i1 r1 => wpAny_Slice (hl.use i1 fun l s2 k2 i2 r2 => hu.use i2 fun u s3 k3 i3 r3 => hst.use i3 fun t s4 k4 i4 r4 => ?_))
  refine wpAny_mono (op_slice (fun o i => ?_) e (k4.rep (k3.rep (k2.rep r1))) (k4.rep (k3.rep r2)) (k4.rep r3) r4 i4.yl) (fun z s5 q => ⟨(((k1.trans k2).trans k3).trans k4).trans q.1, q.2⟩) fun _ _ f => f
  cases st with
  | none => exact ⟨_, rfl⟩
  | some x => exact ⟨_, rfl⟩
theorem ev_part_none : Ev C A env Z θ σ (evalPart none env) .none := fun s i => wpAny_pure ⟨.refl s, .none⟩

theorem glob_ok {x : Str} {v : Value} (hf : Fm env) (hk : env.kindOf x = some .globalImplicit) (hg : GlobIs C x v) {s : Shared} (kp : Keep C.g s.heap) {Q : Value → Shared → Prop} {E : Value → Shared → Prop} (h : Q v s) : wpAny C.M A (loadName env x) Q E s :=
  ks_loadName_global hf.k hk (hg env hf.g hf.b A Q E s kp h)

theorem ev_call_builtin {x : Str} {p pos : Pos} {es : List Expr} {ds : List D} {d : D} {id : String} (hf : Fm env) (hk : env.kindOf x = some .globalImplicit) (hg : GlobIs C x (.builtin id)) (hd : (x == ("__debug__" : Str)) = false) (h : Evs C A env Z θ σ es ds) (hne : es ≠ [])
    (hop : ∀ s vs, Bs C (Yf C env Z θ) s → RepL C (Yf C env Z θ) s.heap vs ds → wpAny C.M A (call (.builtin id) vs) (fun z s' => Kp C s s' ∧ Rep C (Yf C env Z θ) s'.heap z d) (fun _ _ => False) s) :
    Ev C A env Z θ σ (eval (.Call (.Name x p) es [] pos) env) d := fun s i => by
  refine Call_Name rfl (wpAny_Name (glob_ok hf hk hg i.kp ?_) hd)
  cases es with
  | nil => exact absurd rfl hne
  | cons e r =>
    have hs := h.star
    refine PyProof.Rows.callWith_builtin1 ((h.spliced pos).use i fun vs s1 k1 i1 r1 => ?_) (starEach_cons (and_1 hs)) (any_star (and_2 hs))
    exact wpAny_mono (hop s1 vs i1.bs r1) (fun z s2 q => ⟨k1.trans q.1, q.2⟩) fun _ _ f => f
theorem ev_call_fn {x : Str} {p pos : Pos} {es : List Expr} {ds : List D} {d : D} {a : Addr} {F : List D → Option D} (hf : Fm env) (hk : env.kindOf x = some .globalImplicit) (hg : GlobIs C x (.ref a)) (hd : (x == ("__debug__" : Str)) = false) (h : Evs C A env Z θ σ es ds) (hne : es ≠ [])
    (hF : FnOk C A a F) (e : F ds = some d) : Ev C A env Z θ σ (eval (.Call (.Name x p) es [] pos) env) d := fun s i => by
  refine Call_Name rfl (wpAny_Name (glob_ok hf hk hg i.kp ?_) hd)
  cases es with
  | nil => exact absurd rfl hne
  | cons e' r =>
    have hs := h.star
    have fa : ∀ {s' : Shared}, Keep C.g s'.heap → FnAt a s'.heap := fun k => let ⟨oc, od, fd, sl, ho⟩ := hF.at'; ⟨oc, od, fd, sl, k _ _ ho⟩
    refine callWith_F (first := []) (fa i.kp) ((h.spliced pos).use i fun vs s1 k1 i1 r1 => ⟨fa i1.kp, ?_⟩) (starEach_cons (and_1 hs)) (any_star (and_2 hs))
    exact wpAny_mono (hF.run _ s1 vs ds d i1.bs r1 e) (fun z s2 q => ⟨k1.trans q.1, q.2⟩) fun _ _ f => f
theorem base_plain {o : Expr} {m : Str} (hb : plainBase o = true) : attributeBase o m env (eval o env) = eval o env := by
  cases o with
  | Call _ _ _ _ => exact nob hb
  | _ => rfl
theorem method_ {o : Expr} {name : Str} {apos pos : Pos} {es : List Expr} {s : Shared} {Q : Value → Shared → Prop} {E : Value → Shared → Prop} (hb : plainBase o = true) (hl : (apos.endLine == pos.line) = true) (hs : es.all noStar = true) (hn : es.length < 30)
    (h : wpAny C.M A (eval o env) (fun ov s1 => wpAny C.M A (getMethod ov name (do return (← importBound o env).getD true)) (fun fx s2 => wpAny C.M A (callWith pos fx.1 fx.2 (backTo pos (starEach es env)) []) Q E s2) E s1) E s) :
    wpAny C.M A (eval (.Call (.Attribute o name apos) es [] pos) env) Q E s := by
  have hbase := base_plain (env := env) (m := name) hb
  have hfew : methodCallForm (es.length + ([] : List Keyword).length) (backTo pos (starEach es env)) (backToKw pos (keywordEach [] env)) = true := by
    have e1 : decide (es.length + ([] : List Keyword).length + 0 < 30) = true := to_dec hn
    exact to_and (to_and (all_star hs) rfl) e1
  show wpAny _ _ (attributeBase o name env (eval o env) >>= fun ov => standAt apos.atName >>= fun _ => methodCall o name apos pos env ov (es.length + ([] : List Keyword).length) (backTo pos (starEach es env)) (backToKw pos (keywordEach [] env))) _ _ s
  rw [hbase]
  refine wpAny_bind (wpAny_mono h (fun ov s1 h1 => wpAny_bind (wpAny_standAt ?_)) fun _ _ e => e)
  unfold methodCall
  rw [hfew]
  refine wpAny_bind (wpAny_holding ?_)
  show wpAny _ _ (getMethod ov name _) _ _ s1
  refine wpAny_mono h1 (fun fx s2 h2 => ?_) fun _ _ e => e
  refine wpAny_bind ?_
  unfold methodCallPos
  rw [hl]
  exact wpAny_pure h2
theorem ev_method_builtin {o : Expr} {name : Str} {apos pos : Pos} {es : List Expr} {a : D} {ds : List D} {d : D} {T id : String} (hb : plainBase o = true) (hl : (apos.endLine == pos.line) = true) (hn : es.length < 30) (hne : es ≠ [])
    (h0 : Ev C A env Z θ σ (eval o env) a) (h : Evs C A env Z θ σ es ds) (pa : PlainAttrs T) (slot : Slot T name id) (hty : typeOf (.builtin id) = pure (.type "method_descriptor"))
    (hT : ∀ (s : Shared) v, Rep C (Yf C env Z θ) s.heap v a → s.TypeIs v T ∧ ∀ b, v = .ref b → ∃ o, s.heap.get? b = some o ∧ o.dict = none)
    (hop : ∀ s v vs, Bs C (Yf C env Z θ) s → Rep C (Yf C env Z θ) s.heap v a → RepL C (Yf C env Z θ) s.heap vs ds → wpAny C.M A (call (.builtin id) (v :: vs)) (fun z s' => Kp C s s' ∧ Rep C (Yf C env Z θ) s'.heap z d) (fun _ _ => False) s) :
    Ev C A env Z θ σ (eval (.Call (.Attribute o name apos) es [] pos) env) d := fun s i => by
  refine method_ hb hl h.star hn (h0.use i fun v s1 k1 i1 r1 => getMethod_builtin (hT s1 v r1).1 pa slot hty (hT s1 v r1).2 ?_)
  cases es with
  | nil => exact absurd rfl hne
  | cons e r =>
    have hs := h.star
    refine callWith_method1 ((h.spliced pos).use i1 fun vs s2 k2 i2 r2 => ?_) (starEach_cons (and_1 hs)) (any_star (and_2 hs))
    exact wpAny_mono (hop s2 v vs i2.bs (k2.rep r1) r2) (fun z s3 q => ⟨(k1.trans k2).trans q.1, q.2⟩) fun _ _ f => f
end
end Mine

end

section
open PySem PySem.W PyProof.Rows PySem.Calls
set_option maxRecDepth 100000
set_option linter.unusedVariables false
namespace Mine

noncomputable def setS (x : Str) (sl : Sl) : St → St
  | [] => [(x, sl)]
  | (y, s) :: r => if x == y then (y, sl) :: r else (y, s) :: setS x sl r
noncomputable def upd (θ : Str → List Addr) (x : Str) (as : List Addr) : Str → List Addr := fun y => if y = x then as else θ y
noncomputable def Wl (env : Env) (x : Str) : Addr → Prop := fun a => (env.kindOf x = some .local ∧ a = env.locals) ∨ (env.kindOf x = some .cell ∧ env.cells.lookup x = some a)

theorem lookup_setS (x : Str) (sl : Sl) : ∀ (σ : St) (y : Str), (setS x sl σ).lookup y = if y = x then some sl else σ.lookup y
  | [], y => by
    by_cases h : y = x
    · simp [setS, h]
    · have : (y == x) = false := by simpa using h
      simp [setS, h, List.lookup_cons, this]
  | (z, s) :: r, y => by
    unfold setS
    by_cases hz : x = z
    · subst hz
      simp only [beq_self_eq_true, if_true]
      by_cases h : y = x
      · simp [h]
      · have : (y == x) = false := by simpa using h
        simp [h, List.lookup_cons, this]
    · have hz' : (x == z) = false := by simpa using hz
      simp only [hz', Bool.false_eq_true, if_false]
      by_cases h : y = z
      · subst h
        have : ¬ y = x := fun e => hz e.symm
        simp [this]
      · have h' : (y == z) = false := by simpa using h
        simp only [List.lookup_cons, h']
        exact lookup_setS x sl r y

section
variable {C : Cfg} {A : Around} {env : Env} {Z Z' : Addr → Prop} {θ : Str → List Addr} {σ : St}
theorem Inv.addZ {s s' : Shared} (i : Inv C env Z θ σ s) {N : Addr → Prop} (k : Kp C s s') (hn : ∀ a, N a → s.heap.get? a = none) (hn' : ∀ a, N a → s'.heap.get? a ≠ none) (hnc : ∀ a, N a → ∀ o, s'.heap.get? a = some o → ¬ isCd o) : Inv C env (fun a => Z a ∨ N a) θ σ s' := by
  have i' := i.next k
  have hg : ∀ a, N a → C.g.get? a = none := fun a n => by
    cases e : C.g.get? a with
    | none => rfl
    | some o => have := i.kp a o e; rw [hn a n] at this; cases this
  have old : ∀ a, Yf C env Z θ a → ¬ N a := fun a y n => i.yl a y (hn a n)
  have hY : ∀ a, Yf C env (fun a => Z a ∨ N a) θ a ↔ Yf C env Z θ a ∨ N a := fun a => by
    simp only [Yf]; exact ⟨fun h => by rcases h with (h | h) | h | h <;> simp [h], fun h => by rcases h with (h | h | h) | h <;> simp [h]⟩
  refine ⟨i'.kp, i'.jj, i'.gb, fun a y => ?_, fun a y => ?_, fun a z => ?_, i'.tw, i'.ns, i'.cl, i'.cn, i'.ci, i'.ol, i'.oo, fun x sl e => ?_, fun a y => ((hY a).mp y).elim (i'.yc a) (hnc a)⟩
  · rcases (hY a).mp y with y | n
    · exact i'.yl a y
    · exact hn' a n
  · rcases (hY a).mp y with y | n
    · exact i.yg a y
    · exact hg a n
  · rcases z with z | n
    · exact i.zt a z
    · exact ⟨fun t => old a (.inr (.inl t)) n, fun w => old a (.inr (.inr w)) n⟩
  · have r := i.vs x sl e
    have hm : ∀ b o, ¬ Yf C env Z θ b → s.heap.get? b = some o → s'.heap.get? b = some o ∧ ¬ Yf C env (fun a => Z a ∨ N a) θ b := fun b o hb e => by
      refine ⟨k.kp b o (fun t => hb (.inr (.inl t))) e, fun q => ?_⟩
      rcases (hY b).mp q with y | n
      · exact hb y
      · rw [hn b n] at e; cases e
    have hT : ∀ a, C.Tb a → ¬ Wf env θ a := i.tw
    have own : ∀ a ∈ θ x, ∀ o, s.heap.get? a = some o → s'.heap.get? a = some o := fun a ha o e => k.kp a o (fun t => hT a t (.inr (.inr ⟨x, ha⟩))) e
    generalize hθ : θ x = as at r own
    cases r with
    | un => exact .un
    | var hv hc => exact .var (hv.keep hT k.kp) (hc.mono hm own)

theorem Wf.upd {x : Str} {as : List Addr} {a : Addr} (h : Wf env (upd θ x as) a) : Wf env θ a ∨ a ∈ as := by
  rcases h with h | h | ⟨y, h⟩
  · exact .inl (.inl h)
  · exact .inl (.inr (.inl h))
  · simp only [Mine.upd] at h
    split at h
    · exact .inr h
    · exact .inl (.inr (.inr ⟨y, h⟩))
theorem Yf.upd {x : Str} {as : List Addr} {a : Addr} (h : Yf C env Z (upd θ x as) a) : Yf C env (fun a => Z a ∨ a ∈ as) θ a := by
  rcases h with z | t | w
  · exact .inl (.inl z)
  · exact .inr (.inl t)
  · rcases w.upd with w | m
    · exact .inr (.inr w)
    · exact .inl (.inr m)

theorem Inv.store {s : Shared} {x : Str} {v : Value} {sl : Sl} {as : List Addr} (hf : Fm env) (hk : env.kindOf x = some .local ∨ (env.kindOf x = some .cell ∧ ∃ c, env.cells.lookup x = some c)) (i : Inv C env (fun a => Z a ∨ a ∈ as) θ σ s)
    (hz : ∀ a ∈ as, ¬ Z a) (hc : CRep C (Yf C env (fun a => Z a ∨ a ∈ as) θ) s.heap v sl as) {Q : Unit → Shared → Prop} {E : Value → Shared → Prop}
    (hQ : ∀ s', Inv C env Z (upd θ x as) (setS x sl σ) s' → Go C (Wl env x) s s' → Q () s') : wpAny C.M A (storeName env x v) Q E s := by
  have ne : ∀ a ∈ as, ¬ C.Tb a ∧ ¬ Wf env θ a := fun a ha => i.zt a (.inr ha)
  have main : ∀ (T : Addr) (s' : Shared), Wl env x T → Heap.SameBut T s.heap s'.heap → s'.heap.get? T ≠ none → s'.gens = s.gens → s'.os = s.os → (∃ m, s'.heap.Ns env.locals m) → (∀ y c, env.cells.lookup y = some c → ∃ v, s'.heap.IsCell c v) →
      VarAt env s'.heap x v → (∀ y u, y ≠ x → VarAt env s.heap y u → VarAt env s'.heap y u) → Q () s' := by
    intro T s' hT0 hs hTn hgens hos hns hcl hvx hvy
    have hT : T = env.locals ∨ env.cells.lookup x = some T := hT0.elim (fun h => .inl h.2) fun h => .inr h.2
    have hTW : Wf env θ T := hT.elim .inl fun h => .inr (.inl ⟨x, h⟩)
    have hkk : ∀ b o, b ≠ T → s.heap.get? b = some o → s'.heap.get? b = some o := fun b o hb e => (hs.2 b hb).trans e
    have hYT : ∀ b, ¬ Yf C env (fun a => Z a ∨ a ∈ as) θ b → b ≠ T := fun b hb q => hb (q ▸ .inr (.inr hTW))
    have asT : ∀ a ∈ as, a ≠ T := fun a ha q => (ne a ha).2 (q ▸ hTW)
    have hm : ∀ b o, ¬ Yf C env (fun a => Z a ∨ a ∈ as) θ b → s.heap.get? b = some o → s'.heap.get? b = some o ∧ ¬ Yf C env Z (Mine.upd θ x as) b := fun b o hb e => ⟨hkk b o (hYT b hb) e, fun q => hb q.upd⟩
    have al : ∀ b, s.heap.get? b ≠ none → s'.heap.get? b ≠ none := fun b h q => by
      by_cases hb : b = T
      · subst hb; exact hTn q
      · rw [hs.2 b hb] at q; exact h q
    refine hQ s' ⟨fun b o e => hkk b o (fun q => ?_) (i.kp b o e), ?_, by rw [hgens]; exact i.gb, fun a y => al a (i.yl a y.upd), fun a y => i.yg a y.upd, fun a z => ⟨(i.zt a (.inl z)).1, fun w => ?_⟩, fun a t w => ?_, hns, hcl, i.cn, i.ci, fun y a ha => ?_, fun y z hyz a ha hb => ?_, fun y sl' e => ?_, fun a y o e => ?_⟩ ⟨hos, fun b o hb e => hkk b o (fun q => hb ?_) e, al, by rw [hgens]; exact id⟩
    · subst q; have := i.yg b (.inr (.inr hTW)); rw [this] at e; cases e
    · exact i.jj.keepP (T := fun a => a = T) (fun a q t => i.tw a t (q ▸ hTW)) (fun a o q e => by
        subst q
        rcases hT with rfl | hT
        · obtain ⟨m, hm⟩ := i.ns; exact notCd_ns hm o e
        · obtain ⟨v, hv⟩ := i.cl x a hT; exact notCd_cell hv o e) fun b o hb e => hkk b o hb e
    · rcases w.upd with w | m
      · exact (i.zt a (.inl z)).2 w
      · exact hz a m z
    · rcases w.upd with w | m
      · exact i.tw a t w
      · exact (ne a m).1 t
    · simp only [Mine.upd] at ha
      split at ha
      · exact ⟨fun q => (ne a ha).2 (.inl q), fun y c hc q => (ne a ha).2 (.inr (.inl ⟨y, q ▸ hc⟩))⟩
      · exact i.ol y a ha
    · simp only [Mine.upd] at ha hb
      split at ha
      · rename_i h1
        split at hb
        · rename_i h2; exact hyz (h1.trans h2.symm)
        · exact (ne a ha).2 (.inr (.inr ⟨z, hb⟩))
      · split at hb
        · exact (ne a hb).2 (.inr (.inr ⟨y, ha⟩))
        · exact i.oo y z hyz a ha hb
    · rw [lookup_setS] at e
      simp only [Mine.upd]
      split at e
      · rename_i hy
        subst hy
        cases e
        rw [if_pos rfl]
        exact .var hvx (hc.mono hm fun a ha o e => hkk a o (asT a ha) e)
      · rename_i hy
        rw [if_neg hy]
        have r := i.vs y sl' e
        have own : ∀ a ∈ θ y, ∀ o, s.heap.get? a = some o → s'.heap.get? a = some o := fun a ha o e => hkk a o (fun q => by
          rcases hT with h | h
          · exact (i.ol y a ha).1 (q.trans h)
          · exact (i.ol y a ha).2 x T h q) e
        generalize hθ : θ y = bs at r own
        cases r with
        | un => exact .un
        | var hv hc' => exact .var (hvy y _ hy hv) (hc'.mono hm own)
    · by_cases hb : a = T
      · subst hb
        rcases hT with rfl | hT
        · obtain ⟨m, hm⟩ := hns; exact notCd_ns hm o e
        · obtain ⟨v, hv⟩ := hcl x a hT; exact notCd_cell hv o e
      · exact i.yc a y.upd o ((hs.2 a hb).symm.trans e)
    · exact q ▸ hT0
  rcases hk with hk | ⟨hk, c, hcx⟩
  · obtain ⟨m, hn⟩ := i.ns
    refine wpAny_storeName_local hk hn (fun h' hn' hs => ?_) (by rw [hf.k]; rfl)
    refine main env.locals _ (.inl ⟨hk, rfl⟩) hs ?_ rfl rfl ⟨_, hn'⟩ (fun y c hc => ?_) (.inl ⟨hk, _, hn', by simp⟩) (fun y u hy hv => ?_)
    · obtain ⟨o, _, _, e, _⟩ := hn'; intro q; rw [e] at q; cases q
    · obtain ⟨v, hv⟩ := i.cl y c hc
      exact ⟨v, hv.sameBut hs (i.cn y c hc)⟩
    · rcases hv with ⟨a, m1, hn1, hm1⟩ | ⟨a, c, hc, hx⟩
      · have e1 : m1 = m := by
          obtain ⟨o, es, ep, ho, hd, _, hf1⟩ := hn1
          obtain ⟨o', es', ep', ho', hd', _, hf2⟩ := hn
          rw [ho] at ho'; cases ho'
          rw [hd] at hd'; cases hd'
          funext z
          rw [← hf1 z, ← hf2 z]
        subst e1
        exact .inl ⟨a, _, hn', by simp [hy, hm1]⟩
      · exact .inr ⟨a, c, hc, hx.sameBut hs (i.cn y c hc)⟩
  · obtain ⟨v0, hv0⟩ := i.cl x c hcx
    refine wpAny_storeName_cell hf.k hk hcx hv0 (fun h' hc' hs => ?_)
    refine main c _ (.inr ⟨hk, hcx⟩) hs ?_ rfl rfl ?_ (fun y c2 hc2 => ?_) (.inr ⟨.inl hk, c, hcx, hc'⟩) (fun y u hy hv => ?_)
    · obtain ⟨o, e, _⟩ := hc'; intro q; rw [e] at q; cases q
    · obtain ⟨m, hn⟩ := i.ns
      exact ⟨m, hn.sameBut hs (Ne.symm (i.cn x c hcx))⟩
    · by_cases q : c2 = c
      · subst q; exact ⟨_, hc'⟩
      · obtain ⟨v, hv⟩ := i.cl y c2 hc2
        exact ⟨v, hv.sameBut hs q⟩
    · rcases hv with ⟨a, m1, hn1, hm1⟩ | ⟨a, c2, hc2, hx⟩
      · exact .inl ⟨a, m1, hn1.sameBut hs (Ne.symm (i.cn x c hcx)), hm1⟩
      · refine .inr ⟨a, c2, hc2, hx.sameBut hs fun q => hy ?_⟩
        subst q
        exact i.ci y x c2 hc2 hcx
end
end Mine

end

section
open PySem PySem.W PyProof.Rows PySem.Calls
set_option maxRecDepth 100000
set_option linter.unusedVariables false
namespace Mine

noncomputable def nameOf (e : Expr) : Option Str := match e with
  | .Name x _ => some x
  | _ => none
theorem nameOf_some {e : Expr} {x : Str} (h : nameOf e = some x) : ∃ p, e = .Name x p := by
  cases e with
  | Name y p => exact ⟨p, by rw [so h]⟩
  | _ => exact no h
noncomputable def two {α : Type} (l : List α) : Option (α × α) := match l with
  | [] => none
  | a :: r => match r with
    | [] => none
    | b :: q => match q with
      | [] => some (a, b)
      | _ :: _ => none
theorem two_some {α : Type} {l : List α} {p : α × α} (h : two l = some p) : l = [p.1, p.2] := by
  cases l with
  | nil => exact no h
  | cons a r =>
    cases r with
    | nil => exact no h
    | cons b q =>
      cases q with
      | nil => rw [← so h]
      | cons c s => exact no h
noncomputable def names2 (es : List Expr) : Option (Str × Str) := (two es).bind fun p => (nameOf p.1).bind fun x => (nameOf p.2).map fun y => (x, y)
theorem names2_some {es : List Expr} {n : Str × Str} (h : names2 es = some n) : ∃ px py, es = [.Name n.1 px, .Name n.2 py] := by
  refine bndE h fun p h1 h => ?_
  refine bndE h fun x h2 h => ?_
  obtain ⟨y, h3, rfl⟩ := mpd h
  obtain ⟨px, h2⟩ := nameOf_some h2
  obtain ⟨py, h3⟩ := nameOf_some h3
  exact ⟨px, py, by rw [two_some h1, h2, h3]⟩
noncomputable def pairOf (d : D) : Option (D × D) := D.casesOn (motive_1 := fun _ => Option (D × D)) d none (fun _ => none) (fun _ => none) (fun _ => none) (fun l => two l) (fun l => two l) (fun _ => none) (fun _ _ => none)
noncomputable def bindD (t : Expr) (d : D) (σ : St) : Option St := match t with
  | .Name x _ => some (setS x (.val d) σ)
  | .Tuple es _ _ => (names2 es).bind fun n => (pairOf d).map fun p => setS n.2 (.val p.2) (setS n.1 (.val p.1) σ)
  | _ => none
theorem bindD_inv {t : Expr} {d : D} {σ σ' : St} (e : bindD t d σ = some σ') : (∃ x p, t = .Name x p ∧ σ' = setS x (.val d) σ) ∨ ∃ (n : Str × Str) (p : D × D) (px py : Pos) (m : Nat) (pos : Pos), t = .Tuple [.Name n.1 px, .Name n.2 py] m pos ∧ pairOf d = some p ∧ σ' = setS n.2 (.val p.2) (setS n.1 (.val p.1) σ) := by
  cases t with
  | Name x p => exact .inl ⟨x, p, rfl, (so e).symm⟩
  | Tuple es m pos =>
    refine bndE e fun n h1 e1 => ?_
    obtain ⟨p, h2, e2⟩ := mpd e1
    obtain ⟨px, py, rfl⟩ := names2_some h1
    exact .inr ⟨n, p, px, py, m, pos, rfl, h2, e2.symm⟩
  | _ => exact no e
theorem pairOf_inv {d : D} {p : D × D} (h : pairOf d = some p) : d = .tup [p.1, p.2] ∨ d = .list [p.1, p.2] := by
  cases d with
  | tup l => exact .inl (congrArg _ (two_some h))
  | list l => exact .inr (congrArg _ (two_some h))
  | _ => exact no h
noncomputable def tgtNames (t : Expr) : List Str := match t with
  | .Name x _ => [x]
  | .Tuple es _ _ => ((names2 es).map fun n => [n.1, n.2]).getD []
  | _ => []

noncomputable def CanSt (env : Env) (x : Str) : Prop := env.kindOf x = some .local ∨ (env.kindOf x = some .cell ∧ ∃ c, env.cells.lookup x = some c)

noncomputable def Wk (env : Env) (θ : Str → List Addr) : Addr → Prop := fun a => a = env.locals ∨ (∃ x, env.kindOf x = some .cell ∧ env.cells.lookup x = some a) ∨ ∃ x, a ∈ θ x
theorem Wk.wf {env : Env} {θ : Str → List Addr} {a : Addr} (h : Wk env θ a) : Wf env θ a := h.elim .inl fun h => h.elim (fun ⟨x, _, h⟩ => .inr (.inl ⟨x, h⟩)) fun h => .inr (.inr h)
structure Step (C : Cfg) (env : Env) (θ θ' : Str → List Addr) (s s' : Shared) : Prop where
  go : Go C (fun a => C.Tb a ∨ Wk env θ a) s s'
  nw : ∀ a, (∃ x, a ∈ θ' x) → (∃ x, a ∈ θ x) ∨ s.heap.get? a = none

section
variable {C : Cfg} {A : Around} {env : Env} {Z Z' : Addr → Prop} {θ θ' : Str → List Addr} {σ σ' : St}
theorem Step.refl (s : Shared) : Step C env θ θ s s := ⟨.refl s, fun a h => .inl h⟩
theorem Step.trans {θ'' : Str → List Addr} {s s' s'' : Shared} (a : Step C env θ θ' s s') (b : Step C env θ' θ'' s' s'') : Step C env θ θ'' s s'' := by
  have back : ∀ x, s'.heap.get? x = none → s.heap.get? x = none := fun x h => by
    cases e : s.heap.get? x with
    | none => rfl
    | some o => exact absurd h (a.go.al x (by rw [e]; simp))
  refine ⟨a.go.trans b.go fun x o e h => ?_, fun x h => ?_⟩
  · rcases h with t | h | h | h
    · exact .inl t
    · exact .inr (.inl h)
    · exact .inr (.inr (.inl h))
    · rcases a.nw x h with h | h
      · exact .inr (.inr (.inr h))
      · rw [h] at e; cases e
  · rcases b.nw x h with h | h
    · exact a.nw x h
    · exact .inr (back x h)
theorem Kp.step {s s' : Shared} (k : Kp C s s') (j : C.J s.heap) : Step C env θ θ s s' := ⟨k.go j fun _ t => .inl t, fun a h => .inl h⟩
theorem Wl.wf {x : Str} {a : Addr} (h : Wl env x a) : Wf env θ a := h.elim (fun h => .inl h.2) fun h => .inr (.inl ⟨x, h.2⟩)
theorem Wl.wk {x : Str} {a : Addr} (h : Wl env x a) : Wk env θ a := h.elim (fun h => .inl h.2) fun h => .inr (.inl ⟨x, h⟩)
noncomputable def Wls (env : Env) (l : List Str) : Addr → Prop := fun a => ∃ x ∈ l, Wl env x a
theorem Step.of_upd {s s' : Shared} {x : Str} {as : List Addr} (g : Go C (Wl env x) s s') (hn : ∀ a ∈ as, (∃ x, a ∈ θ x) ∨ s.heap.get? a = none) : Step C env θ (upd θ x as) s s' := by
  refine ⟨g.mono fun a h => .inr h.wk, fun a h => ?_⟩
  · obtain ⟨y, h⟩ := h
    simp only [upd] at h
    split at h
    · exact hn a h
    · exact .inl ⟨y, h⟩

theorem orNil : (fun a => Z a ∨ a ∈ ([] : List Addr)) = Z := by funext a; simp
theorem Inv.store_val {s : Shared} {x : Str} {v : Value} {d : D} (hf : Fm env) (hk : CanSt env x) (i : Inv C env Z θ σ s) (hr : Rep C (Yf C env Z θ) s.heap v d) {Q : Unit → Shared → Prop} {E : Value → Shared → Prop}
    (hQ : ∀ s', Inv C env Z (upd θ x []) (setS x (.val d) σ) s' → Go C (Wl env x) s s' → Q () s') : wpAny C.M A (storeName env x v) Q E s :=
  Inv.store (as := []) hf hk (by rw [orNil]; exact i) (fun _ h => nomatch h) (by rw [orNil]; exact .val hr) hQ
theorem Yf.less {a : Addr} {x : Str} (h : Yf C env Z (Mine.upd θ x []) a) : Yf C env Z θ a := by
  have := h.upd; rwa [orNil] at this
theorem Rep.stored {s s' : Shared} {x : Str} {v : Value} {d : D} (g : Go C (Wl env x) s s') (r : Rep C (Yf C env Z θ) s.heap v d) : Rep C (Yf C env Z (upd θ x [])) s'.heap v d :=
  r.mono fun b o hb e => ⟨g.kp b o (fun q => hb (.inr (.inr q.wf))) e, fun q => hb q.less⟩
noncomputable def updL (θ : Str → List Addr) : List Str → Str → List Addr
  | [] => θ
  | x :: r => updL (upd θ x []) r
theorem updL_same : ∀ (l : List Str) (θ : Str → List Addr), (∀ x ∈ l, θ x = []) → updL θ l = θ
  | [], _, _ => rfl
  | x :: r, θ, h => by
    have e : upd θ x [] = θ := by funext y; simp only [upd]; split; · rename_i q; rw [q, h x (by simp)]
                                  · rfl
    show updL (upd θ x []) r = θ
    rw [e]
    exact updL_same r θ fun y hy => h y (by simp [hy])

theorem unpackItems_list2 {s : Shared} {l : Addr} {v1 v2 : Value} {Q : List Value → Shared → Prop} {E : Value → Shared → Prop} (hh : A.handled = none) (hl : s.heap.PlainList l [v1, v2].toArray)
    (hQ : ∀ h' tk, Keep s.heap h' → Q [v1, v2] { s with heap := h', toks := tk }) : wpAny C.M A (unpackItems (.ref l) 2 none) Q E s := by
  unfold unpackItems
  refine wpAny_bind ?_
  unfold notIterableAtAll
  refine wpAny_bind (wpAny_specialOf hl.isList.typeIs slot_list_iter.lookup ?_)
  refine wpAny_pure ?_
  simp only [Bool.false_eq_true, if_false]
  refine wpAny_bind (wpAny_holding (list_walk (C := C) hh hl.isList fun I h1 k1 hI hI1 hne W st _ _ => ?_))
  have up : ∀ {h h' : Heap}, Keep s.heap h → (∀ b o, b ∉ [I] → h.get? b = some o → h'.get? b = some o) → Keep s.heap h' := fun k1 k b o e => k b o (fun q => by rw [List.mem_singleton.mp q, hI] at e; cases e) (k1 b o e)
  refine wpAny_bind (wpAny_holding ?_)
  show wpAny _ _ (pyNext (.ref I) >>= _) _ _ _
  refine wpAny_bind (W.item 0 _ _ _ (by simp) st fun u1 h2 t2 p1 st2 k2 => ?_)
  obtain rfl : v1 = u1 := by simpa using p1
  refine wpAny_bind (wpAny_holding ?_)
  show wpAny _ _ (pyNext (.ref I) >>= _) _ _ _
  refine wpAny_bind (W.item 1 _ _ _ (by simp) st2 fun u2 h3 t3 p2 st3 k3 => ?_)
  obtain rfl : v2 = u2 := by simpa using p2
  refine wpAny_bind (wpAny_holding (wpAny_pure (wpAny_pure (wpAny_pure ?_))))
  rw [if_neg (by simp)]
  refine wpAny_bind (wpAny_holding (W.done _ _ _ st3 fun h4 t4 k4 => ?_))
  simp only [Option.isSome_none, Bool.false_eq_true, if_false]
  exact wpAny_pure (hQ h4 t4 (up (up (up k1 k2) k3) k4))
theorem assign_Tuple_list2 {s : Shared} {elts : List Expr} {x1} {pos : Pos} {l : Addr} {v1 v2 : Value} {Q : Unit → Shared → Prop} {E : Value → Shared → Prop} (hh : A.handled = none) (hl : s.heap.PlainList l [v1, v2].toArray)
    (hn : (assignEach elts env).length = 2) (hstar : (assignEach elts env).findIdx? (·.1) = none)
    (h : ∀ h' tk, Keep s.heap h' → wpAny C.M A (assignInOrder ((assignEach elts env).map (·.2)) [v1, v2]) Q E { s with heap := h', toks := tk }) :
    wpAny C.M A (assign (.Tuple elts x1 pos) env (.ref l)) Q E s := by
  rw [assign_Tuple]
  refine wpAny_bind (wpAny_standAt ?_)
  unfold unpack
  rw [hn, hstar]
  exact wpAny_bind (wpAny_holding (unpackItems_list2 hh hl h))

theorem assign2 {n : Str × Str} {px py : Pos} {v1 v2 : Value} {a b : D} {s : Shared} {h' : Heap} {tk : Nat} (hf : Fm env) (hk : ∀ x ∈ [n.1, n.2], CanSt env x) (hk1 : Keep s.heap h') (i : Inv C env Z θ σ s) (r1 : Rep C (Yf C env Z θ) s.heap v1 a) (r2 : Rep C (Yf C env Z θ) s.heap v2 b) {Q : Unit → Shared → Prop} {E : Value → Shared → Prop}
    (hQ : ∀ s', Inv C env Z (updL θ [n.1, n.2]) (setS n.2 (.val b) (setS n.1 (.val a) σ)) s' → Go C (Wls env [n.1, n.2]) s s' → Q () s') :
    wpAny C.M A (assignInOrder [assign (.Name n.1 px) env, assign (.Name n.2 py) env] [v1, v2]) Q E { s with heap := h', toks := tk } := by
  have k1 : Kp C s { s with heap := h', toks := tk } := Kp.heap hk1
  refine wpAny_bind (wpAny_holding (wpAny_assign_Name (Inv.store_val hf (hk _ (.head _)) (i.next k1) (k1.rep r1) fun s2 i2 g2 => ?_)))
  refine wpAny_bind (wpAny_holding (wpAny_assign_Name (Inv.store_val hf (hk _ (.tail _ (.head _))) i2 ((k1.rep r2).stored g2) fun s3 i3 g3 => wpAny_pure (hQ s3 i3 ?_))))
  have al1 : ∀ b, s.heap.get? b ≠ none → h'.get? b ≠ none := fun b hb q => by
    cases e : s.heap.get? b with
    | none => exact hb e
    | some o => exact no (q.symm.trans (hk1 b o e))
  exact (Go.mk (C := C) (T := Wls env [n.1, n.2]) (s := s) (s' := { s with heap := h', toks := tk }) rfl (fun b o _ e => hk1 b o e) al1 id).trans ((g2.mono (T' := Wls env [n.1, n.2]) fun a q => ⟨_, .head _, q⟩).trans g3 fun a _ _ q => ⟨_, .tail _ (.head _), q⟩) fun _ _ _ q => q
theorem assign_ok {t : Expr} {v : Value} {d : D} {s : Shared} (hA : Ro A) (hf : Fm env) (hk : ∀ x ∈ tgtNames t, CanSt env x) (e : bindD t d σ = some σ') (i : Inv C env Z θ σ s) (hr : Rep C (Yf C env Z θ) s.heap v d) {Q : Unit → Shared → Prop} {E : Value → Shared → Prop}
    (hQ : ∀ s', Inv C env Z (updL θ (tgtNames t)) σ' s' → Go C (Wls env (tgtNames t)) s s' → Q () s') : wpAny C.M A (assign t env v) Q E s := by
  rcases bindD_inv e with ⟨x, p, rfl, rfl⟩ | ⟨n, p, px, py, m, pos, rfl, h2, rfl⟩
  · exact wpAny_assign_Name (Inv.store_val hf (hk _ (.head _)) i hr fun s' i' g => hQ s' i' (g.mono fun a q => ⟨_, .head _, q⟩))
  · rcases pairOf_inv h2 with rfl | rfl
    · obtain ⟨a, vs, rfl, ha, hg, hl⟩ := hr.tup_inv
      obtain ⟨v1, us, rfl, r1, hl⟩ := hl.cons_inv
      obtain ⟨v2, us, rfl, r2, hl⟩ := hl.cons_inv
      rw [hl.nil_inv] at hg
      exact assign_Tuple_tuple hA.1 hg rfl rfl fun h' hs => assign2 (tk := s.toks) hf hk (fun b o e => hs b o (Nat.ne_of_lt (Heap.lt_size e)) e) i r1 r2 hQ
    · obtain ⟨a, vs, rfl, ha, hg, hl⟩ := hr.list_inv
      obtain ⟨v1, us, rfl, r1, hl⟩ := hl.cons_inv
      obtain ⟨v2, us, rfl, r2, hl⟩ := hl.cons_inv
      rw [hl.nil_inv] at hg
      exact assign_Tuple_list2 hA.1 hg rfl rfl fun h' tk hk1 => assign2 hf hk hk1 i r1 r2 hQ
end
end Mine

end

section
open PySem PySem.W PyProof.Rows PySem.Calls
set_option maxRecDepth 100000
set_option linter.unusedVariables false
namespace Mine

noncomputable def lettingIter : List String := ["enumerate", "zip", "dict_itemiterator", "dict_reverseitemiterator", "odict_iterator", "itertools.zip_longest", "itertools.pairwise"]
noncomputable def PlainIt (h : Heap) (I : Addr) : Prop := ∃ o T, h.get? I = some o ∧ o.cls = .type T ∧ lettingIter.contains T = false ∧ T ≠ "code"

theorem notCd_it {h : Heap} {I : Addr} (x : PlainIt h I) : ∀ o, h.get? I = some o → ¬ isCd o := fun o e c => by
  obtain ⟨o', T, e', hc, _⟩ := x; rw [e] at e'; cases e'; rw [c.1] at hc; cases hc; rename_i hl; exact hl.2 rfl
structure ItAt (C : Cfg) (A : Around) (Y T : Addr → Prop) (I : Addr) (fp : List Addr) (P : Nat → Value → Prop) (S : Nat → Heap → Prop) (ds : List D) (i : Nat) (s : Shared) : Prop where
  W : Walks C.prog C.w A I fp [I] ds.length P S
  st : S i s.heap
  fi : I ∈ fp
  fT : ∀ b ∈ fp, b ≠ I → ¬ T b
  fA : ∀ b ∈ fp, s.heap.get? b ≠ none
  ty : ∀ i h, S i h → PlainIt h I
  it : ∀ j v d, P j v → ds[j]? = some d → Rep C Y s.heap v d
noncomputable def Itb (C : Cfg) (A : Around) (Y T : Addr → Prop) (x : Value) (ds : List D) (s1 : Shared) : Prop :=
  ∀ (Q : Value → Shared → Prop) (E : Value → Shared → Prop), (∀ I s2 fp P S, Kp C s1 s2 → s1.heap.get? I = none → s2.heap.get? I ≠ none → ItAt C A (fun a => Y a ∨ a = I) T I fp P S ds 0 s2 → Q (.ref I) s2) → wpAny C.M A (pyIter x) Q E s1
noncomputable def EvI (C : Cfg) (A : Around) (env : Env) (Z : Addr → Prop) (θ : Str → List Addr) (σ : St) (T : Addr → Prop) (e : Expr) (ds : List D) : Prop :=
  ∀ s, Inv C env Z θ σ s → wpAny C.M A (eval e env) (fun x s1 => Kp C s s1 ∧ Itb C A (Yf C env Z θ) T x ds s1) (fun _ _ => False) s

noncomputable def rangeL (a b : Int) : List D := (List.range (b - a).toNat).map fun (i : Nat) => .int (a + i)

theorem ne_none {α : Type} {x : Option α} {o : α} (h : x = some o) : x ≠ none := fun q => no (q.symm.trans h)
section
variable {C : Cfg} {A : Around} {env : Env} {Y T : Addr → Prop} {Z : Addr → Prop} {θ : Str → List Addr} {σ : St}
theorem itb_list {s : Shared} {x : Value} {ds : List D} (hA : Ro A) (hT : ∀ a, T a → Y a) (hr : Rep C Y s.heap x (.list ds)) : Itb C A Y T x ds s := by
  intro Q E hQ
  obtain ⟨l, vs, rfl, ha, hg, hl⟩ := hr.list_inv
  refine list_walk (C := C) hA.1 hg.isList fun I h1 hk hI hI' hne W st fp hsz => hQ I _ [I, l] _ _ (Kp.heap hk) hI (let ⟨_, ho⟩ := hI'; ne_none ho) ⟨hl.length ▸ (show Walks C.prog C.w A I [I, l] [I] vs.length _ _ from W), st, .head _, fun b hb hbI => ?_, fun b hb => ?_, fun i h st => ?_, fun j v d hP hd => ?_⟩
  · rcases List.mem_cons.mp hb with hb | hb
    · exact absurd hb hbI
    · rw [List.mem_singleton.mp hb]; exact fun t => ha (hT _ t)
  · rcases List.mem_cons.mp hb with rfl | hb
    · exact let ⟨_, ho⟩ := hI'; ne_none ho
    · rw [List.mem_singleton.mp hb]; exact let ⟨_, ho⟩ := hg; ne_none (hk _ _ ho)
  · obtain ⟨⟨o, ho, hc, _⟩, _⟩ := st
    exact ⟨o, _, ho, hc, by decide, by decide⟩
  · obtain ⟨d', hd', hr⟩ := hl.get' (at_arr hP)
    rw [so (hd.symm.trans hd')]
    exact hr.mono fun b o hb e => ⟨hk b o e, fun q => q.elim hb fun q => by rw [q, hI] at e; cases e⟩
theorem kvIs_key {kvs : List (Int × Value)} {ds : List (Int × Int)} (h : KvIs kvs ds) {i : Nat} {k : Int} {v : Value} (e : kvs[i]? = some (k, v)) : (ds.map fun p => D.int p.1)[i]? = some (.int k) := by
  induction h generalizing i with
  | nil => exact no e
  | cons k' v' t hl ih =>
    cases i with
    | zero => exact congrArg (fun p => some (D.int p)) (congrArg Prod.fst (so e))
    | succ i => exact ih e
theorem kvIs_length {kvs : List (Int × Value)} {ds : List (Int × Int)} (h : KvIs kvs ds) : kvs.length = ds.length := by
  induction h with
  | nil => rfl
  | cons _ _ _ _ ih => exact congrArg Nat.succ ih
theorem itb_dict {s : Shared} {x : Value} {ds : List (Int × Int)} (hA : Ro A) (hT : ∀ a, T a → Y a) (hr : Rep C Y s.heap x (.dict ds)) : Itb C A Y T x (ds.map fun p => .int p.1) s := by
  intro Q E hQ
  obtain ⟨l, kvs, rfl, ha, hsm, hg, hl⟩ := hr.dict_inv
  obtain ⟨ep, hat⟩ := hg.dictAt
  obtain ⟨o, es, epp, ho, _⟩ := id hg
  have hlt : l < s.heap.objs.size := Heap.lt_size ho
  have hne := Nat.ne_of_lt hlt
  refine wpAny_pyIter_dict hsm hat (hQ s.heap.objs.size _ [s.heap.objs.size, l] (fun i v => ∃ k x, kvs[i]? = some (k, x) ∧ C.ik.is k v = true) (fun i h => h.IsKeyIter s.heap.objs.size l i kvs.length ep ∧ Heap.DictAt C.ik h l kvs ep) (Kp.heap (keep_push _)) (none_of_size (Nat.le_refl _)) ?_ ⟨by rw [List.length_map, ← kvIs_length hl]; exact Walks.dictKeys (knd := C.ik) hA.1 _ l hne kvs ep, ⟨⟨_, Heap.get?_push_size _ rfl, rfl, rfl⟩, hat.push _⟩, .head _, fun b hb hbI => ?_, fun b hb => ?_, fun i h st => ?_, fun j v d hP hd => ?_⟩)
  · exact ne_none (Heap.get?_push_size _ rfl)
  · rcases List.mem_cons.mp hb with hb | hb
    · exact absurd hb hbI
    · rw [List.mem_singleton.mp hb]; exact fun t => ha (hT _ t)
  · rcases List.mem_cons.mp hb with rfl | hb
    · exact ne_none (Heap.get?_push_size _ rfl)
    · rw [List.mem_singleton.mp hb]; exact ne_none (keep_push _ _ _ ho)
  · obtain ⟨⟨o, ho, hc, _⟩, _⟩ := st
    exact ⟨o, _, ho, hc, by decide, by decide⟩
  · obtain ⟨k, x, hx, hk⟩ := hP
    rw [so (hd.symm.trans (kvIs_key hl hx))]
    obtain ⟨t, rfl⟩ := Value.isInt_shape hk
    exact .int _ _
theorem itb_range {s : Shared} {r : Addr} {a b : Int} {t u v : Tok} (hA : Ro A) (hr : IsRange s.heap r a b 1 t u v) (ha : -1000000 ≤ a ∧ a ≤ 1000000) (hb : -1000000 ≤ b ∧ b ≤ 1000000) : Itb C A Y T (.ref r) (rangeL a b) s := by
  intro Q E hQ
  have hn : Builtin.Range.rangeSize a b 1 = ((rangeL a b).length : Int) := by
    rw [rangeSize_one]; simp [rangeL]; omega
  refine wpAny_pyIter_range hr (small_one (by omega) (by omega) (by omega) (by omega)) ?_
  rw [hn]
  refine hQ s.heap.objs.size _ [s.heap.objs.size] _ _ (Kp.heap (keep_push _)) (none_of_size (Nat.le_refl _)) ?_ ⟨Walks.range hA.1 _ a 1 _, ?_, .head _, fun b hb hbI => absurd (List.mem_singleton.mp hb) hbI, fun b hb => ?_, fun i h st => ?_, fun j v d hP hd => ?_⟩
  · exact ne_none (Heap.get?_push_size _ rfl)
  · have : IsRangeIter (s.heap.push { cls := .type "range_iterator", data := .fields #[rawInt a, rawInt ((rangeL a b).length : Int), rawInt 1] }) s.heap.objs.size a ((rangeL a b).length : Int) 1 := Heap.get?_push_size _ rfl
    simpa using this
  · rw [List.mem_singleton.mp hb]; exact ne_none (Heap.get?_push_size _ rfl)
  · exact ⟨_, _, st, rfl, by decide⟩
  · obtain ⟨t, rfl⟩ := hP
    obtain ⟨k, h1, rfl⟩ := mpd ((List.getElem?_map ..).symm.trans hd)
    obtain ⟨_, h2⟩ := List.getElem?_eq_some_iff.mp h1
    rw [← h2, List.getElem_range, Int.mul_one]
    exact .int _ _

theorem evi_list {e : Expr} {ds : List D} (hA : Ro A) (hT : ∀ a, T a → Yf C env Z θ a) (h : Ev C A env Z θ σ (eval e env) (.list ds)) : EvI C A env Z θ σ T e ds := fun s i =>
  h.use i fun v s1 k1 i1 r1 => ⟨k1, itb_list hA hT r1⟩
theorem evi_dict {e : Expr} {ds : List (Int × Int)} (hA : Ro A) (hT : ∀ a, T a → Yf C env Z θ a) (h : Ev C A env Z θ σ (eval e env) (.dict ds)) : EvI C A env Z θ σ T e (ds.map fun p => .int p.1) := fun s i =>
  h.use i fun v s1 k1 i1 r1 => ⟨k1, itb_dict hA hT r1⟩
noncomputable def rngOf (ns : List Int) : Option (Int × Int) := match ns with
  | [] => none
  | n :: r => match r with
    | [] => some (0, n)
    | m :: q => match q with
      | [] => some (n, m)
      | _ :: _ => none
theorem asInts_some {ds : List D} {ns : List Int} (h : asInts ds = some ns) : ds = ns.map .int := by
  induction ds generalizing ns with
  | nil => rw [← so h]; rfl
  | cons d ds ih =>
    obtain ⟨i, h1, h⟩ := bnd h
    obtain ⟨l, h2, rfl⟩ := mpd h
    rw [asI_some h1, ih h2]; rfl
theorem evi_range {x : Str} {p pos : Pos} {es : List Expr} {ds : List D} {ns : List Int} {b : Int × Int} (hA : Ro A) (hf : Fm env) (hk : env.kindOf x = some .globalImplicit) (hg : GlobIs C x (.type "range")) (hd : (x == ("__debug__" : Str)) = false) (h : Evs C A env Z θ σ es ds) (hn : asInts ds = some ns) (hr : rngOf ns = some b)
    (ha : -1000000 ≤ b.1 ∧ b.1 ≤ 1000000) (hb : -1000000 ≤ b.2 ∧ b.2 ≤ 1000000) : EvI C A env Z θ σ T (.Call (.Name x p) es [] pos) (rangeL b.1 b.2) := fun s i => by
  refine Call_Name rfl (wpAny_Name (glob_ok hf hk hg i.kp ?_) hd)
  have hds := asInts_some hn
  cases es with
  | nil => cases h; cases hn; exact no hr
  | cons e r =>
    have hs := h.star
    refine PyProof.Rows.callWith_type1 ((h.spliced pos).use i fun vs s1 k1 i1 r1 => ?_) (starEach_cons (and_1 hs)) (any_star (and_2 hs))
    subst hds
    cases ns with
    | nil => exact no hr
    | cons n q =>
      obtain ⟨v, us, rfl, q1, r2⟩ := r1.cons_inv
      obtain ⟨t, rfl⟩ := q1.int_inv
      cases q with
      | nil =>
        rw [r2.nil_inv, ← so hr]
        rw [← so hr] at hb
        show wpAny _ _ _ (fun z s' => Kp C s s' ∧ Itb C A (Yf C env Z θ) T z (rangeL 0 n) s') _ _
        exact call_range_1 ⟨k1.trans .push, itb_range hA (IsRange.new ..) ⟨by decide, by decide⟩ hb⟩
      | cons m q =>
        obtain ⟨v, us, rfl, q2, r3⟩ := r2.cons_inv
        obtain ⟨t2, rfl⟩ := q2.int_inv
        cases q with
        | nil =>
          rw [r3.nil_inv, ← so hr]
          rw [← so hr] at ha hb
          exact call_range_2 ⟨k1.trans .push, itb_range hA (IsRange.new ..) ha hb⟩
        | cons _ _ => exact no hr

theorem ItAt.next {I : Addr} {fp : List Addr} {P : Nat → Value → Prop} {S : Nat → Heap → Prop} {ds : List D} {i : Nat} {s : Shared} (t : ItAt C A Y T I fp P S ds i s) (hi : i < ds.length) (hI : Y I) {Q : Option Value → Shared → Prop} {E : Value → Shared → Prop}
    (h : ∀ v h' tk, Rep C Y h' v ds[i] → (∀ b o, b ≠ I → s.heap.get? b = some o → h'.get? b = some o) → h'.get? I ≠ none → ItAt C A Y T I fp P S ds (i + 1) { s with heap := h', toks := tk } → Q (some v) { s with heap := h', toks := tk }) : wpAny C.M A (pyNext (.ref I)) Q E s := by
  refine t.W.item i s Q E hi t.st fun v h' tk hP st hk => ?_
  have hk' : ∀ b o, b ≠ I → s.heap.get? b = some o → h'.get? b = some o := fun b o hb e => hk b o (by simpa using hb) e
  have hrep : ∀ j u d, P j u → ds[j]? = some d → Rep C Y h' u d := fun j u d hP hd => (t.it j u d hP hd).mono fun b o hb e => ⟨hk' b o (fun q => hb (q ▸ hI)) e, hb⟩
  have hI' : h'.get? I ≠ none := by obtain ⟨o, _, e, _⟩ := t.ty _ _ st; rw [e]; simp
  refine h v h' tk (hrep i v _ hP (by simp [hi])) hk' hI' ⟨t.W, st, t.fi, t.fT, fun b hb q => ?_, t.ty, hrep⟩
  by_cases hbI : b = I
  · subst hbI; exact hI' q
  · cases e : s.heap.get? b with
    | none => exact t.fA b hb e
    | some o => have := hk' b o hbI e; rw [this] at q; cases q
theorem ItAt.done {I : Addr} {fp : List Addr} {P : Nat → Value → Prop} {S : Nat → Heap → Prop} {ds : List D} {s : Shared} (t : ItAt C A Y T I fp P S ds ds.length s) {Q : Option Value → Shared → Prop} {E : Value → Shared → Prop}
    (h : ∀ h' tk, (∀ b o, b ≠ I → s.heap.get? b = some o → h'.get? b = some o) → Q none { s with heap := h', toks := tk }) : wpAny C.M A (pyNext (.ref I)) Q E s :=
  t.W.done s Q E t.st fun h' tk hk => h h' tk fun b o hb e => hk b o (by simpa using hb) e
theorem ItAt.keep {I : Addr} {fp : List Addr} {P : Nat → Value → Prop} {S : Nat → Heap → Prop} {ds : List D} {i : Nat} {s s' : Shared} {Y' T' : Addr → Prop} (t : ItAt C A Y T I fp P S ds i s) (hk : KeepP T' s.heap s'.heap) (al : ∀ b, s.heap.get? b ≠ none → s'.heap.get? b ≠ none) (hT : ∀ b o, s.heap.get? b = some o → T' b → T b) (hI : ¬ T' I)
    (hY : ∀ b o, ¬ Y b → s.heap.get? b = some o → ¬ T' b ∧ ¬ Y' b) : ItAt C A Y' T I fp P S ds i s' := by
  refine ⟨t.W, t.W.frame i _ _ t.st fun b hb o e => hk b o (fun q => ?_) e, t.fi, t.fT, fun b hb => al b (t.fA b hb), t.ty, fun j v d hP hd => (t.it j v d hP hd).mono fun b o hb e => ⟨hk b o (hY b o hb e).1 e, (hY b o hb e).2⟩⟩
  by_cases hbI : b = I
  · subst hbI; exact hI q
  · exact t.fT b hb hbI (hT b o e q)
end
end Mine

end

section
open PySem PySem.W PyProof.Rows PySem.Calls
set_option maxRecDepth 100000
set_option linter.unusedVariables false
namespace Mine

section
variable {prog : Program} {w : World} {A : Around} {E : Value → Shared → Prop} {s : Shared}
noncomputable abbrev testsT (ifs : List Expr) (env : Env) : Sem Bool := forIn ifs true fun c r => if r = true then do let ok ← isTrue c env (eval c env); pure (ForInStep.yield ok) else pure (ForInStep.yield r)

theorem compTurn_wp {elt : Expr} {gens : List Comprehension} {scope : Scope} {pos : Pos} {k : Nat} {it acc : Value} {env : Env} {tgt iter : Expr} {ifs : List Expr} {Q : PySem.Fin → Shared → Prop} (hg : gens[k]? = some ⟨tgt, iter, ifs, 0⟩)
    (h : wpAny (model prog w) A (pyNext it) (fun r s1 => match r with
      | none => Q (.done .next) s1
      | some v => wpAny (model prog w) A (letOwnedTupleGo tgt it v) (fun _ s2 => wpAny (model prog w) A (assign tgt env v) (fun _ s3 => wpAny (model prog w) A (testsT ifs env) (fun ok s4 =>
          if ok = true then match gens[k + 1]? with
            | some g' => g'.is_async = 0 ∧ (∀ x, foldedSetIterable g'.iter env x = pure x) ∧ wpAny (model prog w) A (eval g'.iter env) (fun x s5 => wpAny (model prog w) A (pyIter x) (fun it' s6 => wpAny (model prog w) A (runOwn (.compStart (.ListComp elt gens scope pos) (k + 1) it' acc env) env) (fun _ s7 => Q (.again (.compLoop (.ListComp elt gens scope pos) k it acc env)) s7) E s6) E s5) E s4
            | none => wpAny (model prog w) A (eval elt env) (fun x s5 => wpAny (model prog w) A (call (.builtin "list.append") [acc, x]) (fun _ s6 => Q (.again (.compLoop (.ListComp elt gens scope pos) k it acc env)) s6) E s5) E s4
          else Q (.again (.compLoop (.ListComp elt gens scope pos) k it acc env)) s4) E s3) E s2) E s1) E s) :
    wpAny (model prog w) A (compTurn (.ListComp elt gens scope pos) k it acc env) Q E s := by
  unfold compTurn
  simp only [hg]
  refine wpAny_bind (wpAny_standAt ?_)
  refine wpAny_bind (wpAny_mono h (fun r s1 h1 => ?_) fun _ _ e => e)
  cases r with
  | none => exact wpAny_pure h1
  | some v =>
    refine wpAny_bind (wpAny_mono h1 (fun _ s2 h2 => wpAny_bind (wpAny_mono h2 (fun _ s3 h3 => wpAny_bind (wpAny_mono h3 (fun ok s4 h4 => ?_) fun _ _ e => e)) fun _ _ e => e)) fun _ _ e => e)
    cases ok with
    | false => simp only [Bool.false_eq_true, if_false] at h4 ⊢; exact wpAny_pure h4
    | true =>
      simp only [if_true] at h4 ⊢
      cases hk : gens[k + 1]? with
      | none =>
        simp only [hk] at h4 ⊢
        refine wpAny_bind (wpAny_bind (wpAny_mono h4 (fun x s5 h5 => wpAny_bind (wpAny_mono h5 (fun _ s6 h6 => wpAny_pure (wpAny_pure h6)) fun _ _ e => e)) fun _ _ e => e))
      | some g' =>
        simp only [hk] at h4 ⊢
        obtain ⟨ha, hs, h4⟩ := h4
        simp only [ha]
        refine wpAny_bind (wpAny_mono h4 (fun x s5 h5 => wpAny_bind (wpAny_standAt (wpAny_bind (wpAny_of_eq (hs x) (wpAny_bind (wpAny_holding (wpAny_mono h5 (fun it' s6 h6 => wpAny_bind (wpAny_mono h6 (fun _ s7 h7 => wpAny_pure h7) fun _ _ e => e)) fun _ _ e => e)))))) ) fun _ _ e => e)

theorem letOwned_ok {t : Expr} {I : Addr} {v : Value} {Q : Unit → Shared → Prop} (hI : PlainIt s.heap I) (h : Q () s) : wpAny (model prog w) A (letOwnedTupleGo t (.ref I) v) Q E s := by
  have key : wpAny (model prog w) A (do
      let (.ref r, .ref a) := (Value.ref I, v) | return
      let o ← load r
      match o.cls, o.data with
      | .type n, .fields vs =>
        if ["enumerate", "zip", "dict_itemiterator", "dict_reverseitemiterator", "odict_iterator", "itertools.zip_longest", "itertools.pairwise"].contains n && vs[0]? == some (rawInt a) then
          rule "for.unpacks-the-owned-tuple"
          updateField r 0 .none
      | _, _ => pure () : Sem Unit) Q E s := by
    obtain ⟨o, T, ho, hc, hT, _⟩ := hI
    cases v <;> first | exact wpAny_pure h | skip
    refine wpAny_bind (wpAny_load ho ?_)
    rw [hc]
    cases o.data <;> first | exact wpAny_pure h | skip
    simp only [lettingIter] at hT
    simp only [hT, Bool.false_and, Bool.false_eq_true, if_false]
    exact wpAny_pure h
  cases t <;> first | exact wpAny_pure h | exact key

theorem compStart_ok {elt : Expr} {gens : List Comprehension} {scope : Scope} {pos : Pos} {k : Nat} {it acc : Value} {env : Env} {tgt iter : Expr} {ifs : List Expr} {R : Result → Shared → Prop} (hg : gens[k]? = some ⟨tgt, iter, ifs, 0⟩)
    (h0 : codeAny (model prog w) A (.compLoop (.ListComp elt gens scope pos) k it acc env) R s)
    (h : wpAny (model prog w) A (pyIter it) (fun it' s' => codeAny (model prog w) A (.compLoop (.ListComp elt gens scope pos) k it' acc env) R s') (notedBy (model prog w) A env fun x s' => R (.error x) s') s) :
    codeAny (model prog w) A (.compStart (.ListComp elt gens scope pos) k it acc env) R s := by
  refine codeAny_of_tree ?_
  show wpAny _ _ ((compStart (.ListComp elt gens scope pos) k it acc env).onRaise (fun x => do noteFrame x env; standAt theWindowsPlace)) _ _ s
  refine wpAny_notedAt ?_
  have hc : (clausesOf (.ListComp elt gens scope pos))[k]? = some ⟨tgt, iter, ifs, 0⟩ := hg
  unfold compStart
  simp only [hc]
  refine wpAny_bind (wpAny_askSetting ?_)
  refine wpAny_ite ?_
  split
  · first
      | exact wpAny_bind (wpAny_pure (wpAny_pure (And.intro rfl h0)))
      | exact wpAny_pure (And.intro rfl h0)
  · refine wpAny_bind (wpAny_rule (wpAny_bind (wpAny_standAt (wpAny_bind (wpAny_mono h (fun it' s' h' => wpAny_pure (And.intro rfl h')) fun _ _ x => x)))))
end
end Mine

end

section
open PySem PySem.W PyProof.Rows PySem.Calls
set_option maxRecDepth 100000
set_option linter.unusedVariables false
namespace Mine

noncomputable def compLoop (step : St → Option (List D × St)) (tgt : Expr) (tests : St → Option Bool) : List D → St → Option (List D × St)
  | [], σ => some ([], σ)
  | d :: r, σ => (bindD tgt d σ).bind fun σ1 => (tests σ1).bind fun b => (bif b then step σ1 else some ([], σ1)).bind fun p => (compLoop step tgt tests r p.2).bind fun q => some (p.1 ++ q.1, q.2)
noncomputable def testsD (tv : St → Expr → Option Bool) : List Expr → St → Option Bool
  | [], _ => some true
  | e :: r, σ => (tv σ e).bind fun b => bif b then testsD tv r σ else some false
noncomputable def plainSrc (e : Expr) : Bool := !(Nat.beq e.ctorIdx 7)
noncomputable def compAll (ev : St → Expr → Option D) (tv : St → Expr → Option Bool) (itr : St → Expr → Option (List D)) (elt : Expr) : List Comprehension → St → List D → Option (List D × St)
  | [], _, _ => none
  | [g], σ, items => if g.is_async = 0 then compLoop (fun σ => (ev σ elt).map fun d => ([d], σ)) g.target (testsD tv g.ifs) items σ else none
  | g :: g' :: gs, σ, items => if g.is_async = 0 then compLoop (fun σ => if plainSrc g'.iter then (itr σ g'.iter).bind fun its => compAll ev tv itr elt (g' :: gs) σ its else none) g.target (testsD tv g.ifs) items σ else none

section
variable {C : Cfg} {A : Around} {env : Env} {Z Z' : Addr → Prop} {θ θ' : Str → List Addr} {σ σ' : St}
theorem foldedSet_plain {e : Expr} (h : plainSrc e = true) (x : Value) : foldedSetIterable e env x = pure x := by
  cases e with
  | Set _ _ _ => exact nob h
  | _ => rfl

theorem tests_no : ∀ (l : List Expr) (s1 : Shared) {s : Shared}, Kp C s s1 → wpAny C.M A (forIn l false fun c r => if r = true then do let ok ← isTrue c env (eval c env); pure (ForInStep.yield ok) else pure (ForInStep.yield r)) (fun z s' => Kp C s s' ∧ z = false) (fun _ _ => False) s1 := by
  intro l
  induction l with
  | nil => exact fun s1 s k1 => wpAny_pure ⟨k1, rfl⟩
  | cons y l ih =>
    intro s1 s k1
    rw [List.forIn_cons, if_neg Bool.false_ne_true]
    exact wpAny_bind (wpAny_pure (ih s1 k1))
theorem tests_ok {tv : St → Expr → Option Bool} (htv : ∀ e b, tv σ e = some b → Tv C A env Z θ σ (isTrue e env (eval e env)) b) {ifs : List Expr} {b : Bool} (e : testsD tv ifs σ = some b) : Tv C A env Z θ σ (testsT ifs env) b := by
  induction ifs generalizing b with
  | nil => rw [← so e]; exact fun s i => wpAny_pure ⟨.refl s, rfl⟩
  | cons x r ih =>
    intro s i
    refine bndE e fun c h1 h2 => ?_
    unfold testsT
    rw [List.forIn_cons, if_pos rfl]
    refine wpAny_bind (wpAny_bind ((htv x c h1).use i fun s1 k1 i1 => wpAny_pure ?_))
    cases c with
    | true => exact wpAny_mono (ih h2 s1 i1) (fun z s2 q => ⟨k1.trans q.1, q.2⟩) fun _ _ f => f
    | false => rw [← so h2]; exact tests_no r s1 k1

theorem Inv.lessZ {s : Shared} (i : Inv C env Z' θ σ s) (h : ∀ a, Z a → Z' a) : Inv C env Z θ σ s := by
  have hY : ∀ a, Yf C env Z θ a → Yf C env Z' θ a := fun a y => y.elim (fun z => .inl (h a z)) .inr
  refine ⟨i.kp, i.jj, i.gb, fun a y => i.yl a (hY a y), fun a y => i.yg a (hY a y), fun a z => i.zt a (h a z), i.tw, i.ns, i.cl, i.cn, i.ci, i.ol, i.oo, fun x sl e => ?_, fun a y => i.yc a (hY a y)⟩
  have r := i.vs x sl e
  generalize θ x = as at r
  cases r with
  | un => exact .un
  | var hv hc => exact .var hv (hc.mono (fun b o hb e => ⟨e, fun q => hb (hY b q)⟩) fun _ _ _ e => e)

noncomputable def CT (C : Cfg) (env : Env) (Dd : Addr) : Addr → Prop := fun a => C.Tb a ∨ a = env.locals ∨ a = Dd

theorem Inv.turnZ {s s' : Shared} {I : Addr} (i : Inv C env Z θ σ s) (hI : Z I) (hk : ∀ b o, b ≠ I → s.heap.get? b = some o → s'.heap.get? b = some o) (hI' : s'.heap.get? I ≠ none) (gb : s'.gens = s.gens) (hcd : ∀ o, s.heap.get? I = some o → ¬ isCd o) (hcd' : ∀ o, s'.heap.get? I = some o → ¬ isCd o) : Inv C env Z θ σ s' := by
  refine i.step (T := fun a => a = I) (fun a q => .inl (q ▸ hI)) (fun b o hb e => hk b o hb e) (fun b q _ => q ▸ hI') ?_ (by rw [gb]; exact i.gb) (fun a q o e => hcd' o (q ▸ e))
  exact i.jj.keepP (T := fun a => a = I) (fun a q t => (i.zt I hI).1 (q ▸ t)) (fun a o q e => hcd o (q ▸ e)) fun b o hb e => hk b o hb e

noncomputable abbrev ZI (Z : Addr → Prop) (I : Addr) : Addr → Prop := fun a => Z a ∨ a = I
theorem Inv.dropZ {s s' : Shared} {I : Addr} (i : Inv C env (ZI Z I) θ σ s) (hz : ¬ Z I) (hk : ∀ b o, b ≠ I → s.heap.get? b = some o → s'.heap.get? b = some o) (gb : s'.gens = s.gens) (hcd : ∀ o, s.heap.get? I = some o → ¬ isCd o) : Inv C env Z θ σ s' := by
  have hI := i.zt I (.inr rfl)
  have hY : ∀ a, Yf C env Z θ a → Yf C env (ZI Z I) θ a := fun a y => y.elim (fun z => .inl (.inl z)) .inr
  have hYI : ¬ Yf C env Z θ I := fun y => by
    rcases y with y | y | y
    · exact hz y
    · exact hI.1 y
    · exact hI.2 y
  have neY : ∀ a, Yf C env Z θ a → a ≠ I := fun a y q => hYI (q ▸ y)
  refine ⟨fun b o e => hk b o (fun q => ?_) (i.kp b o e), ?_, by rw [gb]; exact i.gb, fun a y q => ?_, fun a y => i.yg a (hY a y), fun a z => i.zt a (.inl z), i.tw, ?_, ?_, i.cn, i.ci, i.ol, i.oo, fun x sl e => ?_, fun a y o e => ?_⟩
  · subst q; have := i.yg b (.inl (.inr rfl)); rw [this] at e; cases e
  · exact i.jj.keepP (T := fun a => a = I) (fun a q t => hI.1 (q ▸ t)) (fun a o q e => hcd o (q ▸ e)) fun b o hb e => hk b o hb e
  · cases e : s.heap.get? a with
    | none => exact i.yl a (hY a y) e
    | some o => rw [hk a o (neY a y) e] at q; cases q
  · obtain ⟨m, hm⟩ := i.ns; exact ⟨m, Ns.at1 hm fun o e => hk _ o (fun q => hI.2 (.inl q.symm)) e⟩
  · intro x c hc; obtain ⟨v, hv⟩ := i.cl x c hc; exact ⟨v, IsCell.at1 hv fun o e => hk _ o (fun q => hI.2 (.inr (.inl ⟨x, q ▸ hc⟩))) e⟩
  · have r := i.vs x sl e
    have own : ∀ a ∈ θ x, ∀ o, s.heap.get? a = some o → s'.heap.get? a = some o := fun a ha o e => hk a o (fun q => hI.2 (.inr (.inr ⟨x, q ▸ ha⟩))) e
    generalize hθ : θ x = as at r own
    cases r with
    | un => exact .un
    | var hv hc => exact .var (hv.at1 (fun o e => hk _ o (fun q => hI.2 (.inl q.symm)) e) fun c hc o e => hk _ o (fun q => hI.2 (.inr (.inl ⟨x, q ▸ hc⟩))) e) (hc.mono (fun b o hb e => ⟨hk b o (fun q => hb (q ▸ .inl (.inr rfl))) e, fun q => hb (hY b q)⟩) own)
  · cases q : s.heap.get? a with
    | none => exact absurd q (i.yl a (hY a y))
    | some o' => rw [hk a o' (neY a y) q] at e; cases e; exact i.yc a (hY a y) _ q

theorem yf_zi {I : Addr} : (fun a => Yf C env Z θ a ∨ a = I) = Yf C env (ZI Z I) θ := by
  funext a
  simp only [Yf, eq_iff_iff]
  constructor
  · rintro ((h | h) | h)
    · exact .inl (.inl h)
    · exact .inr h
    · exact .inl (.inr h)
  · rintro ((h | h) | h)
    · exact .inl (.inl h)
    · exact .inr h
    · exact .inl (.inr h)

variable {elt : Expr} {gens : List Comprehension} {scope : Scope} {pos : Pos} {ev : St → Expr → Option D} {tv : St → Expr → Option Bool} {itr : St → Expr → Option (List D)}

noncomputable def compStep (ev : St → Expr → Option D) (tv : St → Expr → Option Bool) (itr : St → Expr → Option (List D)) (elt : Expr) (gs : List Comprehension) (σ : St) : Option (List D × St) := match gs with
  | [] => (ev σ elt).map fun d => ([d], σ)
  | g' :: gs => if plainSrc g'.iter then (itr σ g'.iter).bind fun its => compAll ev tv itr elt (g' :: gs) σ its else none
theorem compAll_cons {g : Comprehension} {gs : List Comprehension} {items : List D} : compAll ev tv itr elt (g :: gs) σ items = if g.is_async = 0 then compLoop (compStep ev tv itr elt gs) g.target (testsD tv g.ifs) items σ else none := by
  cases gs <;> rfl

noncomputable def CLoop (C : Cfg) (A : Around) (env : Env) (θ : Str → List Addr) (ev : St → Expr → Option D) (tv : St → Expr → Option Bool) (itr : St → Expr → Option (List D)) (elt : Expr) (gens : List Comprehension) (scope : Scope) (pos : Pos) (Dd : Addr) (gs : List Comprehension) (k n : Nat) : Prop :=
  ∀ (all : List D) (i : Nat), all.length - i = n → i ≤ all.length → ∀ (Z : Addr → Prop) (σ : St) (out : List D) (σ' : St) (s : Shared) (I : Addr) (fp : List Addr) (P : Nat → Value → Prop) (S : Nat → Heap → Prop) (vs : List Value) (ds : List D) (R : Result → Shared → Prop),
      compAll ev tv itr elt gs σ (all.drop i) = some (out, σ') → Inv C env (ZI Z I) θ σ s → Z Dd → ¬ Z I → s.heap.PlainList Dd vs.toArray → RepL C (Yf C env (ZI Z I) θ) s.heap vs ds → ds.length + out.length ≤ sizeLine →
      ItAt C A (Yf C env (ZI Z I) θ) (CT C env Dd) I fp P S all i s →
      (∀ s' vs', Inv C env Z θ σ' s' → s'.heap.PlainList Dd vs'.toArray → RepL C (Yf C env Z θ) s'.heap vs' (ds ++ out) → s'.os = s.os → KeepP (fun a => CT C env Dd a ∨ a = I) s.heap s'.heap → R (.ok .next) s') →
      codeAny C.M A (.compLoop (.ListComp elt gens scope pos) k (.ref I) (.ref Dd) env) R s
theorem comp_loop (hA : Ro A) (hf : Fm env) (hev : ∀ Z σ e d, ev σ e = some d → Ev C A env Z θ σ (eval e env) d) (htv : ∀ Z σ e b, tv σ e = some b → Tv C A env Z θ σ (isTrue e env (eval e env)) b)
    (hit : ∀ Z σ T e ds, (∀ a, T a → Yf C env Z θ a ∧ ∀ y, a ∉ θ y) → itr σ e = some ds → EvI C A env Z θ σ T e ds)
    (hth : ∀ g ∈ gens, ∀ x ∈ tgtNames g.target, θ x = [] ∧ env.kindOf x = some .local) (Dd : Addr) :
    ∀ (gs : List Comprehension) (k : Nat), gens.drop k = gs → ∀ n : Nat, CLoop C A env θ ev tv itr elt gens scope pos Dd gs k n := by
  intro gs
  induction gs with
  | nil => intro k hk n all i _ _ Z σ out σ' s I fp P S vs ds R e; cases e
  | cons g gs ihg =>
  intro k hk
  have hgk : gens[k]? = some g := by
    have := congrArg (fun l => l[0]?) hk
    simpa using this
  have hgk1 : gens[k + 1]? = gs.head? := by
    have := congrArg (fun l => l[1]?) hk
    simpa [List.head?_eq_getElem?] using this
  have hdrop : gens.drop (k + 1) = gs := by
    rw [← List.drop_drop, hk]; rfl
  have hgm : g ∈ gens := List.mem_of_getElem? hgk
  have htg := hth g hgm
  obtain ⟨tgt, iter, ifs, as⟩ := g
  intro n
  induction n with
  | zero =>
    intro all i hn hi Z σ out σ' s I fp P S vs ds R e inv hZD hZI hacc hrep hsz hit' hR
    obtain rfl : i = all.length := by omega
    rw [compAll_cons] at e
    refine ifsE e fun h0 e => ?_
    have h0 : as = 0 := h0
    subst h0
    rw [List.drop_length] at e
    cases e
    · refine codeAny_of_tree ?_
      show wpAny _ A ((compTurn (.ListComp elt gens scope pos) k (.ref I) (.ref Dd) env).onRaise (fun x => do noteFrame x env; theTreesLotGoes x)) _ _ s
      refine wpAny_noted (compTurn_wp hgk (hit'.done fun h' tk hk => ?_))
      have hne : Dd ≠ I := fun q => hZI (q ▸ hZD)
      have inv' : Inv C env Z θ σ { s with heap := h', toks := tk } := inv.dropZ (s' := { s with heap := h', toks := tk }) hZI hk rfl (notCd_it (hit'.ty _ _ hit'.st))
      refine hR _ vs inv' (IsList.at1 hacc fun o e => hk _ o hne e) ?_ rfl fun b o hb e => hk b o (fun q => hb (.inr q)) e
      rw [List.append_nil]
      exact hrep.mono fun b o hb e => ⟨hk b o (fun q => hb (q ▸ .inl (.inr rfl))) e, fun q => hb (q.elim (fun z => .inl (.inl z)) .inr)⟩
  | succ n ihn =>
    intro all i hn hi Z σ out σ' s I fp P S vs ds R e inv hZD hZI hacc hrep hsz hit' hR
    have hlt : i < all.length := by omega
    rw [compAll_cons] at e
    refine ifsE e fun h0 e => ?_
    have h0 : as = 0 := h0
    subst h0
    rw [List.drop_eq_getElem_cons hlt] at e
    obtain ⟨σ1, hb, e⟩ := bnd e
    refine bndE e fun b ht e => ?_
    refine bndE e fun p hp e => ?_
    refine bndE e fun q hq e => ?_
    cases e
    have hne : Dd ≠ I := fun q => hZI (q ▸ hZD)
    have hYI : Yf C env (ZI Z I) θ I := .inl (.inr rfl)
    have hYD : Yf C env (ZI Z I) θ Dd := .inl (.inl hZD)
    have zD := inv.zt Dd (.inl hZD)
    have zI := inv.zt I (.inr rfl)
    refine codeAny_of_tree ?_
    show wpAny _ A ((compTurn (.ListComp elt gens scope pos) k (.ref I) (.ref Dd) env).onRaise (fun x => do noteFrame x env; theTreesLotGoes x)) _ _ s
    refine wpAny_noted (compTurn_wp hgk (hit'.next hlt hYI fun v h' tk rv hk1 hI1 it1 => ?_))
    have inv1 : Inv C env (ZI Z I) θ σ { s with heap := h', toks := tk } := inv.turnZ (s' := { s with heap := h', toks := tk }) (.inr rfl) hk1 hI1 rfl (notCd_it (hit'.ty _ _ hit'.st)) (notCd_it (it1.ty _ _ it1.st))
    refine letOwned_ok (it1.ty _ _ it1.st) (assign_ok hA hf (fun x hx => .inl (htg x hx).2) hb inv1 rv fun s2 inv2 g2 => ?_)
    rw [updL_same _ _ fun x hx => (htg x hx).1] at inv2
    have hl2 : ∀ a, Wls env (tgtNames tgt) a → a = env.locals := fun a ⟨x, hx, h⟩ => by
      rcases h with h | h
      · exact h.2
      · rw [(htg x hx).2] at h; cases h.1
    refine (tests_ok (fun e b => htv (ZI Z I) σ1 e b) ht).use inv2 fun s3 k3 inv3 => ?_
    have k13 : KeepP (fun a => C.Tb a ∨ a = env.locals) h' s3.heap := fun b o hb e => k3.kp b o (fun t => hb (.inl t)) (g2.kp b o (fun q => hb (.inr (hl2 b q))) e)
    have hDl : Dd ≠ env.locals := fun q => zD.2 (.inl q)
    have hIl : I ≠ env.locals := fun q => zI.2 (.inl q)
    have acc3 : s3.heap.PlainList Dd vs.toArray := IsList.at1 hacc fun o e => k13 _ o (fun q => q.elim zD.1 hDl) (hk1 _ o hne e)
    have rep3 : RepL C (Yf C env (ZI Z I) θ) s3.heap vs ds := hrep.mono fun b o hb e => ⟨k13 b o (fun q => hb (q.elim (fun t => .inr (.inl t)) fun q => .inr (.inr (.inl q)))) (hk1 b o (fun q => hb (q ▸ hYI)) e), hb⟩
    have os3 : s3.os = s.os := k3.os.trans g2.os
    -- one turn more
    have again : ∀ (s5 : Shared) (vs5 : List Value) (T' : Addr → Prop), Inv C env (ZI Z I) θ p.2 s5 → s5.heap.PlainList Dd vs5.toArray → RepL C (Yf C env (ZI Z I) θ) s5.heap vs5 (ds ++ p.1) → s5.os = s.os → KeepP T' s3.heap s5.heap → (∀ b o, s3.heap.get? b = some o → T' b → CT C env Dd b) →
        codeAny C.M A (.compLoop (.ListComp elt gens scope pos) k (.ref I) (.ref Dd) env) R s5 := by
      intro s5 vs5 T' inv5 acc5 rep5 os5 k5 hT'
      have k15 : KeepP (fun a => CT C env Dd a) h' s5.heap := fun b o hb e => by
        have e3 := k13 b o (fun q => hb (q.elim .inl fun q => .inr (.inl q))) e
        exact k5 b o (fun q => hb (hT' b o e3 q)) e3
      have al : ∀ b, h'.get? b ≠ none → s5.heap.get? b ≠ none := fun b hb q => by
        by_cases hc : CT C env Dd b
        · rcases hc with t | rfl | rfl
          · obtain ⟨p', hp', rfl⟩ := List.mem_map.mp t
            obtain ⟨o, ho, _⟩ := inv5.jj p' hp'
            rw [ho] at q; cases q
          · obtain ⟨m, o, _, _, e, _⟩ := inv5.ns; rw [e] at q; cases q
          · obtain ⟨n, e⟩ := acc5; rw [e] at q; cases q
        · cases e : h'.get? b with
          | none => exact hb e
          | some o => rw [k15 b o hc e] at q; cases q
      have it5 : ItAt C A (Yf C env (ZI Z I) θ) (CT C env Dd) I fp P S all (i + 1) s5 := it1.keep (s' := s5) k15 al (fun b o _ q => q) (fun q => by
          rcases q with t | q | q
          · exact zI.1 t
          · exact hIl q
          · exact hne q.symm) fun b o hb e => ⟨fun q => hb (by
          rcases q with t | q | q
          · exact .inr (.inl t)
          · exact .inr (.inr (.inl q))
          · exact q ▸ hYD), hb⟩
      refine ihn all (i + 1) (by omega) hlt Z p.2 q.1 q.2 s5 I fp P S vs5 (ds ++ p.1) R (by rw [compAll_cons, if_pos rfl]; exact hq) inv5 hZD hZI acc5 rep5 (by rw [List.length_append]; rw [List.length_append] at hsz; omega) it5 fun s' vs' inv' acc' rep' os' k' => ?_
      refine hR s' vs' inv' acc' (by rw [← List.append_assoc]; exact rep') (os'.trans os5) fun b o hb e => k' b o hb (k15 b o (fun q => hb (.inl q)) (hk1 b o (fun q => hb (.inr q)) e))
    cases b with
    | false =>
      cases hp
      rw [if_neg Bool.false_ne_true]
      exact ⟨rfl, again s3 vs (fun _ => False) inv3 acc3 (by rw [List.append_nil]; exact rep3) os3 (fun b o _ e => e) fun b o _ f => f.elim⟩
    | true =>
      rw [if_pos rfl, hgk1]
      cases gs with
      | nil =>
        obtain ⟨d, hd, rfl⟩ := mpd hp
        refine (hev (ZI Z I) σ1 elt d hd).use inv3 fun v4 s4 k4 inv4 r4 => ?_
        have acc4 : s4.heap.PlainList Dd vs.toArray := IsList.at1 acc3 fun o e => k4.kp _ o zD.1 e
        rw [List.length_append] at hsz
        refine wpAny_list_append_plain (hsz := by rw [List.size_toArray, rep3.length]; exact Nat.le_trans (Nat.le_add_right _ _) hsz) acc4 fun h5 hl5 hs5 => ?_
        have hk5 : ∀ b o, b ≠ Dd → s4.heap.get? b = some o → h5.get? b = some o := fun b o hb e => (hs5.2 b hb).trans e
        have inv5 : Inv C env (ZI Z I) θ σ1 { s4 with heap := h5 } := inv4.turnZ (s' := { s4 with heap := h5 }) (.inl hZD) hk5 (by obtain ⟨n, e⟩ := hl5; show h5.get? Dd ≠ none; rw [e]; simp) rfl (notCd_list acc4) (notCd_list hl5)
        have up : ∀ b o, ¬ Yf C env (ZI Z I) θ b → s4.heap.get? b = some o → h5.get? b = some o ∧ ¬ Yf C env (ZI Z I) θ b := fun b o hb e => ⟨hk5 b o (fun q => hb (q ▸ hYD)) e, hb⟩
        refine ⟨rfl, again { s4 with heap := h5 } (vs ++ [v4]) (fun a => C.Tb a ∨ a = Dd) inv5 (by simpa using hl5) ((k4.repL rep3).mono up |>.append (.cons (r4.mono up) .nil)) (k4.os.trans os3) (fun b o hb e => hk5 b o (fun q => hb (.inr q)) (k4.kp b o (fun q => hb (.inl q)) e)) fun b o _ q => q.elim .inl fun q => .inr (.inr q)⟩
      | cons g' gs' =>
        refine ifsE hp fun hpl hp => ?_
        refine bndE hp fun its hits hp => ?_
        have ha' : g'.is_async = 0 := by
          rw [compAll_cons] at hp
          exact (Mine.ifs hp).1
        have hg'k : gens[k + 1]? = some ⟨g'.target, g'.iter, g'.ifs, 0⟩ := by
          obtain ⟨t', i', f', a'⟩ := g'
          simp only at ha'
          rw [hgk1, ha']; rfl
        refine ⟨ha', fun x => foldedSet_plain hpl x, ?_⟩
        refine wpAny_mono (hit (ZI Z I) σ1 (CT C env Dd) g'.iter its (fun a q => ?_) hits s3 inv3) (fun x s4 h4 => ?_) fun _ _ f => f.elim
        · rcases q with t | rfl | rfl
          · exact ⟨.inr (.inl t), fun y hy => inv.tw a t (.inr (.inr ⟨y, hy⟩))⟩
          · exact ⟨.inr (.inr (.inl rfl)), fun y hy => (inv.ol y _ hy).1 rfl⟩
          · exact ⟨hYD, fun y hy => zD.2 (.inr (.inr ⟨y, hy⟩))⟩
        · obtain ⟨k4, hx⟩ := h4
          have inv4 := inv3.next k4
          refine hx _ _ fun I2 s5 fp2 P2 S2 k5 hI2 hI2' it2 => ?_
          have inv5 : Inv C env (ZI (ZI Z I) I2) θ σ1 s5 := inv4.addZ (N := fun a => a = I2) k5 (fun a q => q ▸ hI2) (fun a q => q ▸ hI2') (fun a q o e => notCd_it (it2.ty _ _ it2.st) o (q ▸ e))
          have hzI2 : ¬ ZI Z I I2 := fun z => inv4.yl I2 (.inl z) hI2
          have hzI2' : ¬ C.Tb I2 := fun t => inv4.yl I2 (.inr (.inl t)) hI2
          have acc5 : s5.heap.PlainList Dd vs.toArray := IsList.at1 acc3 fun o e => k5.kp _ o zD.1 (k4.kp _ o zD.1 e)
          have rep5 : RepL C (Yf C env (ZI (ZI Z I) I2) θ) s5.heap vs ds := (k4.repL rep3).mono fun b o hb e => ⟨k5.kp b o (fun t => hb (.inr (.inl t))) e, fun q => by
            rcases q with (z | z) | q
            · exact hb (.inl z)
            · rw [z, hI2] at e; cases e
            · exact hb (.inr q)⟩
          rw [yf_zi] at it2
          have go : ∀ s6, s6.heap = s5.heap → s6.os = s5.os → Inv C env (ZI (ZI Z I) I2) θ σ1 s6 → ItAt C A (Yf C env (ZI (ZI Z I) I2) θ) (CT C env Dd) I2 fp2 P2 S2 its 0 s6 → codeAny C.M A (.compLoop (.ListComp elt gens scope pos) (k + 1) (.ref I2) (.ref Dd) env)
              (fun r s' => match r with
                | .ok f => (Fin.again (.compLoop (.ListComp elt gens scope pos) k (.ref I) (.ref Dd) env) : PySem.Fin) = .again (.compLoop (.ListComp elt gens scope pos) k (.ref I) (.ref Dd) env) ∧ codeAny C.M A (.compLoop (.ListComp elt gens scope pos) k (.ref I) (.ref Dd) env) R s'
                | .error e => False) s6 := by
            intro s6 h6 o6 inv6 it6
            refine ihg (k + 1) hdrop _ its 0 rfl (Nat.zero_le _) (ZI Z I) σ1 p.1 p.2 s6 I2 fp2 P2 S2 vs ds _ hp inv6 (.inl hZD) hzI2 (h6 ▸ acc5) (h6 ▸ rep5) (by rw [List.length_append] at hsz; omega) it6 fun s7 vs7 inv7 acc7 rep7 os7 k7 => ⟨rfl, ?_⟩
            refine again s7 vs7 (fun a => CT C env Dd a ∨ a = I2) inv7 acc7 rep7 (os7.trans (o6.trans (k5.os.trans (k4.os.trans os3)))) (fun b o hb e => k7 b o hb (by rw [h6]; exact k5.kp b o (fun t => hb (.inl (.inl t))) (k4.kp b o (fun t => hb (.inl (.inl t))) e))) fun b o e q => q.elim id fun q => ?_
            have e4 := k4.kp b o (fun t => by rw [q] at t; exact hzI2' t) e
            rw [q, hI2] at e4; cases e4
          refine wpAny_runOwn (codeAny_mono (compStart_ok hg'k (go s5 rfl rfl inv5 it2) (it2.W.self 0 s5 _ _ it2.st (go s5 rfl rfl inv5 it2))) fun r s' h => ?_)
          cases r with
          | ok f => exact ⟨rfl, h.2⟩
          | error e => exact h.elim
end
end Mine

end

section
open PySem PySem.W PyProof.Rows PySem.Calls
set_option maxRecDepth 100000
set_option linter.unusedVariables false
namespace Mine

noncomputable def freeIn (scope : Scope) (x : Str) : Bool := scope.names.lookup x == some .free
noncomputable def captured (scope : Scope) (σ : St) : St := σ.filter fun p => freeIn scope p.1
noncomputable def relScope (scope sc : Scope) : Scope :=
  { scope with names := scope.names.map fun (n, k) => if (k == .free && sc.kind == .function && sc.names.lookup n == some .cell) then (n, .cell) else (n, k) }
noncomputable def compOk (scope sc : Scope) (gens : List Comprehension) : Bool :=
  scope.kind == .function && (scope.names.all fun p => p.2 != .cell && (p.2 != .local || scope.names.lookup p.1 == some .local) && (p.2 != .free || (scope.names.lookup p.1 == some .free && (sc.names.lookup p.1 == some .cell || sc.names.lookup p.1 == some .free)))) &&
  gens.all fun g => (tgtNames g.target).all fun x => scope.names.lookup x == some .local

section
variable {C : Cfg} {A : Around} {env : Env} {Z Z' : Addr → Prop} {θ θ' : Str → List Addr} {σ σ' : St}
theorem closure_loop {names : List (Str × NameKind)} : ∀ (acc : List (Str × Addr)), (∀ n, (n, NameKind.free) ∈ names → ∃ c, env.cells.lookup n = some c) → (∀ n c, acc.lookup n = some c → env.cells.lookup n = some c) →
    ∃ cl, (forIn names acc (fun x r => match x with
        | (name, kind) => if (kind == NameKind.free) = true then do
            let c ← cellOf env name
            pure (ForInStep.yield ((name, c) :: r))
          else pure (ForInStep.yield r)) : Sem (List (Str × Addr))) = pure cl ∧ (∀ n c, cl.lookup n = some c → env.cells.lookup n = some c ∧ ((n, NameKind.free) ∈ names ∨ acc.lookup n = some c)) ∧
      (∀ n c, ((n, NameKind.free) ∈ names ∨ acc.lookup n ≠ none) → env.cells.lookup n = some c → cl.lookup n = some c) := by
  induction names with
  | nil => exact fun acc h ha => ⟨acc, rfl, fun n c e => ⟨ha n c e, .inr e⟩, fun n c h e => by
      rcases h with h | h
      · cases h
      · cases e2 : acc.lookup n with
        | none => exact absurd e2 h
        | some c' => have := ha n c' e2; rw [e] at this; cases this; rfl⟩
  | cons p r ih =>
    intro acc h ha
    obtain ⟨n, k⟩ := p
    rw [List.forIn_cons]
    by_cases hk : k = .free
    · subst hk
      obtain ⟨c, hc⟩ := h n (by simp)
      have hcell : cellOf env n = pure c := by unfold cellOf; rw [hc]
      obtain ⟨cl, e1, e2, e3⟩ := ih ((n, c) :: acc) (fun m hm => h m (by simp [hm])) (fun m c' e => by
        rw [List.lookup_cons] at e
        split at e
        · rename_i q; cases e; rw [eq_of_beq q]; exact hc
        · exact ha m c' e)
      refine ⟨cl, ?_, fun m c' e => ?_, fun m c' hm e => ?_⟩
      · simp only [beq_self_eq_true, if_true, hcell]
        exact e1
      · obtain ⟨h1, h2⟩ := e2 m c' e
        refine ⟨h1, ?_⟩
        rcases h2 with h2 | h2
        · exact .inl (by simp [h2])
        · rw [List.lookup_cons] at h2
          split at h2
          · rename_i q; exact .inl (by rw [eq_of_beq q]; simp)
          · exact .inr h2
      · refine e3 m c' ?_ e
        by_cases q : m = n
        · subst q; exact .inr (by simp)
        · rcases hm with hm | hm
          · simp [q] at hm; exact .inl hm
          · refine .inr ?_
            rw [List.lookup_cons, show (m == n) = false by simpa using q]; exact hm
    · have hb : (k == NameKind.free) = false := by simpa using hk
      obtain ⟨cl, e1, e2, e3⟩ := ih acc (fun m hm => h m (by simp [hm])) ha
      refine ⟨cl, ?_, fun m c' e => ?_, fun m c' hm e => e3 m c' ?_ e⟩
      · simp only [hb, Bool.false_eq_true, if_false]
        exact e1
      · obtain ⟨h1, h2⟩ := e2 m c' e
        exact ⟨h1, h2.imp (by simp +contextual) id⟩
      · rcases hm with hm | hm
        · rcases List.mem_cons.mp hm with q | hm
          · cases q; exact absurd rfl hk
          · exact .inl hm
        · exact .inr hm
theorem closure_ok {scope : Scope} (h : ∀ n, (n, NameKind.free) ∈ scope.names → ∃ c, env.cells.lookup n = some c) :
    ∃ cl, closureFor scope env = pure cl ∧ (∀ n c, cl.lookup n = some c → env.cells.lookup n = some c ∧ (n, NameKind.free) ∈ scope.names) ∧ (∀ n c, (n, NameKind.free) ∈ scope.names → env.cells.lookup n = some c → cl.lookup n = some c) := by
  obtain ⟨cl, e1, e2, e3⟩ := closure_loop (env := env) (names := scope.names) [] h (fun n c e => by simp at e)
  refine ⟨cl, ?_, fun n c e => ?_, fun n c hn e => e3 n c (.inl hn) e⟩
  · unfold closureFor
    simp only
    rw [e1]; rfl
  · obtain ⟨h1, h2⟩ := e2 n c e
    exact ⟨h1, h2.elim id fun q => by simp at q⟩

theorem lookup_rel {scope sc : Scope} {x : Str} : (relScope scope sc).names.lookup x = (scope.names.lookup x).map fun k => if (k == .free && sc.kind == .function && sc.names.lookup x == some .cell) then NameKind.cell else k := by
  unfold relScope
  simp only
  generalize scope.names = names
  induction names with
  | nil => rfl
  | cons p r ih =>
    obtain ⟨n, k⟩ := p
    simp only [List.map_cons]
    by_cases hx : x = n
    · subst hx
      by_cases hc : (k == NameKind.free && sc.kind == .function && sc.names.lookup x == some .cell) = true
      · simp only [if_pos hc, List.lookup_cons, beq_self_eq_true, Option.map_some]
      · simp only [if_neg hc, List.lookup_cons, beq_self_eq_true, Option.map_some]
    · have h' : (x == n) = false := by simpa using hx
      by_cases hc : (k == NameKind.free && sc.kind == .function && sc.names.lookup n == some .cell) = true
      · simp only [hc, if_true, List.lookup_cons, h']; exact ih
      · simp only [hc, if_neg Bool.false_ne_true, List.lookup_cons, h']; exact ih
theorem relabel_rel (scope : Scope) (env : Env) : relabel scope env = relScope scope env.scope := rfl
theorem lookup_captured {scope : Scope} {x : Str} : ∀ {σ : St}, (captured scope σ).lookup x = if freeIn scope x then σ.lookup x else none
  | [] => by simp [captured]
  | (y, sl) :: r => by
    have ih := @lookup_captured scope x r
    unfold captured at ih ⊢
    rw [List.filter_cons]
    by_cases hx : x = y
    · subst hx
      by_cases hf : freeIn scope x = true
      · simp [hf]
      · rw [if_neg hf, ih, if_neg hf, if_neg hf]
    · have h' : (x == y) = false := by simpa using hx
      by_cases hf : freeIn scope y = true
      · rw [if_pos hf, List.lookup_cons, h', List.lookup_cons, h']; exact ih
      · rw [if_neg hf, List.lookup_cons, h']; exact ih
end
end Mine

end

section
open PySem PySem.W PyProof.Rows PySem.Calls
set_option maxRecDepth 100000
set_option linter.unusedVariables false
namespace Mine

section
variable {C : Cfg} {A : Around} {env : Env} {Z Z' : Addr → Prop} {θ θ' : Str → List Addr} {σ σ' : St}

noncomputable def thC (scope : Scope) (θ : Str → List Addr) : Str → List Addr := fun x => if freeIn scope x then θ x else []
noncomputable def zC (C : Cfg) (env cenv : Env) (Z : Addr → Prop) (θ θc : Str → List Addr) (Dd : Addr) : Addr → Prop := fun a => (Yf C env Z θ a ∧ ¬ C.Tb a ∧ ¬ Wf cenv θc a) ∨ a = Dd

structure CompOk (env : Env) (scope : Scope) (gens : List Comprehension) : Prop where
  kind : scope.kind = .function
  ncell : ∀ y ∈ scope.names, y.2 ≠ .cell
  loc : ∀ y ∈ scope.names, y.2 = .local → scope.names.lookup y.1 = some .local
  fre : ∀ n, (n, NameKind.free) ∈ scope.names → scope.names.lookup n = some .free ∧ (env.kindOf n = some .cell ∨ env.kindOf n = some .free)
  tgt : ∀ g ∈ gens, ∀ x ∈ tgtNames g.target, scope.names.lookup x = some .local
theorem compOk_of {scope : Scope} {gens : List Comprehension} (h : compOk scope env.scope gens = true) : CompOk env scope gens := by
  simp only [compOk, Bool.and_eq_true, List.all_eq_true, beq_iff_eq, bne_iff_ne, ne_eq, Bool.or_eq_true] at h
  obtain ⟨⟨h1, h2⟩, h3⟩ := h
  refine ⟨h1, fun y hy => ((h2 y hy).1.1), fun y hy e => ?_, fun n hn => ?_, fun g hg x hx => h3 g hg x hx⟩
  · rcases (h2 y hy).1.2 with q | q
    · exact absurd e q
    · exact q
  · rcases (h2 _ hn).2 with q | q
    · exact absurd rfl q
    · exact ⟨q.1, q.2⟩
theorem lookup_mem {α : Type} : ∀ {l : List (Str × α)} {x : Str} {v : α}, l.lookup x = some v → (x, v) ∈ l
  | [], _, _, e => by simp at e
  | (y, w) :: r, x, v, e => by
    rw [List.lookup_cons] at e
    split at e
    · rename_i q; cases e; rw [eq_of_beq q]; simp
    · exact .tail _ (lookup_mem e)

theorem Inv.comp {s s4 : Shared} {scope : Scope} {gens : List Comprehension} {cl : List (Str × Addr)} {L Dd I : Addr} (hf : Fm env) (ok : CompOk env scope gens) (i : Inv C env Z θ σ s) (k : Kp C s s4)
    (c1 : ∀ n c, cl.lookup n = some c → env.cells.lookup n = some c ∧ (n, NameKind.free) ∈ scope.names) (c2 : ∀ n c, (n, NameKind.free) ∈ scope.names → env.cells.lookup n = some c → cl.lookup n = some c)
    (hL : s.heap.get? L = none) (hD : s.heap.get? Dd = none) (hI : s.heap.get? I = none) (hLD : L ≠ Dd) (hLI : L ≠ I) {m} (hLn : s4.heap.Ns L m) (hDn : s4.heap.get? Dd ≠ none) (hIn : s4.heap.get? I ≠ none) (hDc : ∀ o, s4.heap.get? Dd = some o → ¬ isCd o) (hIc : ∀ o, s4.heap.get? I = some o → ¬ isCd o) :
    Inv C (compEnvC scope cl L env) (ZI (zC C env (compEnvC scope cl L env) Z θ (thC scope θ) Dd) I) (thC scope θ) (captured scope σ) s4 ∧
    (∀ b o, ¬ Yf C env Z θ b → s.heap.get? b = some o → ¬ Yf C (compEnvC scope cl L env) (ZI (zC C env (compEnvC scope cl L env) Z θ (thC scope θ) Dd) I) (thC scope θ) b) ∧
    (∀ b, Yf C env Z θ b → Yf C (compEnvC scope cl L env) (zC C env (compEnvC scope cl L env) Z θ (thC scope θ) Dd) (thC scope θ) b) := by
  have gn : ∀ {a}, s.heap.get? a = none → C.g.get? a = none := fun {a} h => by
    cases e : C.g.get? a with
    | none => rfl
    | some o => have := i.kp a o e; rw [h] at this; cases this
  have ne : ∀ {a b}, Yf C env Z θ a → s.heap.get? b = none → a ≠ b := fun y h q => i.yl _ y (q ▸ h)
  have th : ∀ x a, a ∈ thC scope θ x → a ∈ θ x := fun x a h => by
    unfold thC at h
    split at h
    · exact h
    · cases h
  have wf : ∀ a, Wf (compEnvC scope cl L env) (thC scope θ) a → a = L ∨ Wf env θ a := fun a h => by
    rcases h with h | ⟨x, h⟩ | ⟨x, h⟩
    · exact .inl h
    · exact .inr (.inr (.inl ⟨x, (c1 x a h).1⟩))
    · exact .inr (.inr (.inr ⟨x, th x a h⟩))
  have yf : ∀ a, Yf C (compEnvC scope cl L env) (ZI (zC C env (compEnvC scope cl L env) Z θ (thC scope θ) Dd) I) (thC scope θ) a → Yf C env Z θ a ∨ a = L ∨ a = Dd ∨ a = I := fun a h => by
    rcases h with ((h | h) | h) | h | h
    · exact .inl h.1
    · exact .inr (.inr (.inl h))
    · exact .inr (.inr (.inr h))
    · exact .inl (.inr (.inl h))
    · rcases wf a h with h | h
      · exact .inr (.inl h)
      · exact .inl (.inr (.inr h))
  have out : ∀ b o, ¬ Yf C env Z θ b → s.heap.get? b = some o → ¬ Yf C (compEnvC scope cl L env) (ZI (zC C env (compEnvC scope cl L env) Z θ (thC scope θ) Dd) I) (thC scope θ) b := fun b o hb e q => by
    rcases yf b q with q | rfl | rfl | rfl
    · exact hb q
    · rw [hL] at e; cases e
    · rw [hD] at e; cases e
    · rw [hI] at e; cases e
  have nwf : ∀ {a}, s.heap.get? a = none → a ≠ L → ¬ Wf (compEnvC scope cl L env) (thC scope θ) a := fun h hl w => by
    rcases wf _ w with w | w
    · exact hl w
    · exact i.yl _ (.inr (.inr w)) h
  have ntb : ∀ {a}, s.heap.get? a = none → ¬ C.Tb a := fun h t => i.yl _ (.inr (.inl t)) h
  refine ⟨⟨fun b o e => k.kp b o (Cfg.g_tb e) (i.kp b o e), k.jj i.jj, k.gb i.gb, fun a y => ?_, fun a y => ?_, fun a z => ?_, fun a t w => ?_, ⟨m, hLn⟩, fun x c hc => ?_, fun x c hc q => ?_, fun x y c h1 h2 => i.ci x y c (c1 x c h1).1 (c1 y c h2).1, fun x a ha => ⟨fun q => ?_, fun y c hc q => ?_⟩, fun x y hxy a ha hb => i.oo x y hxy a (th x a ha) (th y a hb), fun x sl e => ?_, fun a y o e => ?_⟩, out, fun b y => ?_⟩
  · rcases yf a y with y | rfl | rfl | rfl
    · exact k.al i.jj a (i.yl a y)
    · obtain ⟨o, _, _, e, _⟩ := hLn; rw [e]; simp
    · exact hDn
    · exact hIn
  · rcases yf a y with y | rfl | rfl | rfl
    · exact i.yg a y
    · exact gn hL
    · exact gn hD
    · exact gn hI
  · rcases z with (z | rfl) | rfl
    · exact ⟨z.2.1, z.2.2⟩
    · exact ⟨ntb hD, nwf hD (Ne.symm hLD)⟩
    · exact ⟨ntb hI, nwf hI (Ne.symm hLI)⟩
  · rcases wf a w with rfl | w
    · exact ntb hL t
    · exact i.tw a t w
  · obtain ⟨v, hv⟩ := i.cl x c (c1 x c hc).1
    exact ⟨v, IsCell.at1 hv fun o e => k.kp _ o (fun t => i.tw _ t (.inr (.inl ⟨x, (c1 x c hc).1⟩))) e⟩
  · exact ne (.inr (.inr (.inr (.inl ⟨x, (c1 x c hc).1⟩)))) hL q
  · exact ne (.inr (.inr (.inr (.inr ⟨x, th x a ha⟩)))) hL q
  · exact (i.ol x a (th x a ha)).2 y c (c1 y c hc).1 q
  · rw [lookup_captured] at e
    split at e
    · rename_i hfr
      have r := i.vs x sl e
      have hth : thC scope θ x = θ x := by unfold thC; rw [if_pos hfr]
      rw [hth]
      have own : ∀ a ∈ θ x, ∀ o, s.heap.get? a = some o → s4.heap.get? a = some o := fun a ha o e => k.kp a o (fun t => i.tw a t (.inr (.inr ⟨x, ha⟩))) e
      generalize θ x = as at r own
      cases r with
      | un => exact .un
      | var hv hc =>
        refine .var ?_ (hc.mono (fun b o hb e => ⟨k.kp b o (fun t => hb (.inr (.inl t))) e, out b o hb e⟩) own)
        have hfm : (x, NameKind.free) ∈ scope.names := lookup_mem (by simpa [freeIn] using hfr)
        have hsl : scope.names.lookup x = some .free := by simpa [freeIn] using hfr
        have hk := (ok.fre x hfm).2
        rcases hv with ⟨q, _⟩ | ⟨hk2, c, hcx, hx⟩
        · rw [q] at hk; rcases hk with h | h <;> cases h
        · have hkc : Env.kindOf (compEnvC scope cl L env) x = some (if (NameKind.free == .free && env.scope.kind == .function && env.scope.names.lookup x == some .cell) then NameKind.cell else .free) := by
            show (relabel scope env).names.lookup x = _
            rw [relabel_rel, lookup_rel, hsl]; rfl
          refine .inr ⟨?_, c, c2 x c hfm hcx, IsCell.at1 hx fun o e => k.kp _ o (fun t => i.tw _ t (.inr (.inl ⟨x, hcx⟩))) e⟩
          rw [hkc]
          rcases hk2 with h | ⟨h, h'⟩
          · left
            have : env.scope.names.lookup x = some .cell := h
            simp [this, hf.k]
          · by_cases hc' : (NameKind.free == .free && env.scope.kind == .function && env.scope.names.lookup x == some .cell) = true
            · left; rw [if_pos hc']
            · right; rw [if_neg hc']; exact ⟨rfl, h'⟩
    · cases e
  · rcases yf a y with y | rfl | rfl | rfl
    · exact (i.next k).yc a y o e
    · exact notCd_ns hLn o e
    · exact hDc o e
    · exact hIc o e
  · by_cases t : C.Tb b
    · exact .inr (.inl t)
    · by_cases w : Wf (compEnvC scope cl L env) (thC scope θ) b
      · exact .inr (.inr w)
      · exact .inl (.inl ⟨y, t, w⟩)
theorem Fm.comp {scope : Scope} {gens : List Comprehension} {cl : List (Str × Addr)} {L : Addr} (hf : Fm env) (ok : CompOk env scope gens) (c2 : ∀ n c, (n, NameKind.free) ∈ scope.names → env.cells.lookup n = some c → cl.lookup n = some c) : Fm (compEnvC scope cl L env) := by
  refine ⟨ok.kind, hf.g, hf.b, fun x hx => ?_⟩
  have e : Env.kindOf (compEnvC scope cl L env) x = (scope.names.lookup x).map fun k => if (k == .free && env.scope.kind == .function && env.scope.names.lookup x == some .cell) then NameKind.cell else k := by
    show (relabel scope env).names.lookup x = _
    rw [relabel_rel, lookup_rel]
  have hfr : scope.names.lookup x = some .free := by
    rw [e] at hx
    cases q : scope.names.lookup x with
    | none => rw [q] at hx; simp at hx
    | some k =>
      rw [q] at hx
      by_cases hk : k = .free
      · rw [hk]
      · have hb : (k == NameKind.free) = false := by simpa using hk
        simp only [Option.map_some, hb, Bool.false_and, Bool.false_eq_true, if_false] at hx
        rcases hx with h | h
        · cases h; exact absurd rfl (ok.ncell _ (lookup_mem q))
        · cases h; exact absurd rfl hk
  have hm := lookup_mem hfr
  obtain ⟨c, hc⟩ := hf.c x (ok.fre x hm).2
  exact ⟨c, c2 x c hm hc⟩
end
end Mine

end

section
open PySem PySem.W PyProof.Rows PySem.Calls
set_option maxRecDepth 100000
set_option linter.unusedVariables false
namespace Mine

section
variable {C : Cfg} {A : Around} {env : Env} {Z Z' : Addr → Prop} {θ θ' : Str → List Addr} {σ σ' : St}
theorem Kp.back {s s' : Shared} (k : Kp C s s') (j : C.J s.heap) {a : Addr} (h : s'.heap.get? a = none) : s.heap.get? a = none := by
  cases e : s.heap.get? a with
  | none => rfl
  | some o => exact absurd h (k.al j a (by rw [e]; simp))
structure EvSound (C : Cfg) (A : Around) (sc : Scope) (ev : St → Expr → Option D) (tv : St → Expr → Option Bool) (itr : St → Expr → Option (List D)) : Prop where
  ev : ∀ env, Fm env → env.scope = sc → ∀ Z θ σ e d, ev σ e = some d → Ev C A env Z θ σ (eval e env) d
  tv : ∀ env, Fm env → env.scope = sc → ∀ Z θ σ e b, tv σ e = some b → Tv C A env Z θ σ (isTrue e env (eval e env)) b
  it : ∀ env, Fm env → env.scope = sc → ∀ Z θ σ T e ds, (∀ a, T a → Yf C env Z θ a ∧ ∀ y, a ∉ θ y) → itr σ e = some ds → EvI C A env Z θ σ T e ds

theorem comp_core {elt iter tgt : Expr} {ifs : List Expr} {gs : List Comprehension} {scope : Scope} {pos p : Pos} {use : Option (Value → Sem Unit)} {its out : List D} {ev : St → Expr → Option D} {tv : St → Expr → Option Bool} {itr : St → Expr → Option (List D)} {Q : Value → Shared → Prop} {E : Value → Shared → Prop} {s : Shared}
    (hA : Ro A) (hf : Fm env) (ok : CompOk env scope (⟨tgt, iter, ifs, 0⟩ :: gs)) (hs : EvSound C A (relScope scope env.scope) ev tv itr) (hsrc : plainSrc iter = true) (hfirst : EvI C A env Z θ σ C.Tb iter its)
    (hall : compAll ev tv itr elt (⟨tgt, iter, ifs, 0⟩ :: gs) (captured scope σ) its = some (out, σ')) (hsz : out.length ≤ 1000000) (i : Inv C env Z θ σ s)
    (hQ : ∀ s' Dd L, Inv C env (ZI Z L) θ σ s' → Kp C s s' → Rep C (Yf C env (ZI Z L) θ) s'.heap (.ref Dd) (.list out) → (∃ m, s'.heap.Ns L m) → s.heap.get? L = none → s.heap.get? Dd = none → compPost C.M A E use Q (.ref Dd) L (.ok .next) s') :
    wpAny C.M A (comprehension (.ListComp elt (⟨tgt, iter, ifs, 0⟩ :: gs) scope pos) scope env p (newList []) false (eval iter env) use) Q E s := by
  obtain ⟨cl, hclos, c1, c2⟩ := closure_ok (env := env) (scope := scope) fun n hn => hf.c n (ok.fre n hn).2
  refine wpAny_comprehension_free rfl (fun x => foldedSet_plain hsrc x) hclos ok.kind ok.loc ?_
  refine wpAny_mono (hfirst s i) (fun x s1 h1 => ?_) fun _ _ f => f.elim
  obtain ⟨k1, hx⟩ := h1
  have i1 := i.next k1
  refine hx _ _ fun I s2 fp P S k2 hI hI' it2 => ?_
  have i2 := i1.next k2
  refine wpAny_newObj_type (wpAny_newFunctionEnv ok.ncell (by intro y hy; simp at hy) (fun h4 hns hsb => ?_) ok.kind)
  dsimp only at hns hsb ⊢
  generalize hH3 : s2.heap.push { cls := .type "list", dict := none, data := .seq ([] : List Value).toArray } = H3 at hns hsb ⊢
  generalize hDd : s2.heap.objs.size = Dd
  generalize hL : H3.objs.size = L at hns hsb ⊢
  have hLD : L = Dd + 1 := by rw [← hL, ← hH3, Heap.size_push, hDd]
  have hDn2 : s2.heap.get? Dd = none := none_of_size (Nat.le_of_eq hDd)
  have hLn2 : s2.heap.get? L = none := none_of_size (by rw [hLD, ← hDd]; exact Nat.le_succ _)
  have up4 : ∀ b o, s2.heap.get? b = some o → h4.get? b = some o := fun b o e => (hsb.2 b (fun q => by rw [q, hLn2] at e; cases e)).trans (keep_push _ _ _ (hH3 ▸ keep_push _ _ _ e))
  have hneLD : Dd ≠ L := by rw [hLD]; exact Nat.ne_of_lt (Nat.lt_succ_self _)
  have acc4 : h4.PlainList Dd ([] : List Value).toArray := ⟨0, (hsb.2 Dd hneLD).trans (keep_push _ _ _ (by rw [← hH3, ← hDd]; exact Heap.get?_push_size _ rfl))⟩
  have k24 : Kp C s2 { s2 with heap := h4 } := Kp.heap (tk := s2.toks) up4
  have k4 : Kp C s { s2 with heap := h4 } := (k1.trans k2).trans k24
  have kk := k1.trans k2
  have hDn := kk.back i.jj hDn2
  have hLn := kk.back i.jj hLn2
  have hIn := k1.back i.jj hI
  have hIn2 : ∀ {a}, s2.heap.get? a = none → a ≠ I := fun h q => hI' (q ▸ h)
  have hI4 : h4.get? I ≠ none := by
    cases e : s2.heap.get? I with
    | none => exact absurd e hI'
    | some o => rw [up4 I o e]; simp
  obtain ⟨inv4, outY, inY⟩ := Inv.comp (s4 := { s2 with heap := h4 }) (cl := cl) (L := L) (Dd := Dd) (I := I) hf ok i k4 c1 c2 hLn hDn hIn (Ne.symm hneLD) (hIn2 hLn2) hns (by obtain ⟨n, e⟩ := acc4; show h4.get? Dd ≠ none; rw [e]; simp) hI4 (notCd_list acc4) (fun o e => by
      obtain ⟨o', T, e', hc⟩ := it2.ty _ _ it2.st
      have e4 := up4 _ _ e'
      rw [show h4.get? I = some o from e] at e4
      cases e4
      exact notCd_it ⟨o, T, e', hc⟩ o e')
  have fmc : Fm (compEnvC scope cl L env) := hf.comp ok c2
  have it4 : ItAt C A (Yf C (compEnvC scope cl L env) (ZI (zC C env (compEnvC scope cl L env) Z θ (thC scope θ) Dd) I) (thC scope θ)) (CT C (compEnvC scope cl L env) Dd) I fp P S its 0 { s2 with heap := h4 } := by
    refine ⟨it2.W, it2.W.frame 0 _ _ it2.st fun b hb o e => up4 b o e, it2.fi, fun b hb hbI q => ?_, fun b hb q => ?_, it2.ty, fun j v d hP hd => (it2.it j v d hP hd).mono fun b o hb e => ⟨up4 b o e, fun q => ?_⟩⟩
    · rcases q with t | q | q
      · exact it2.fT b hb hbI t
      · exact it2.fA b hb (by rw [q]; exact hLn2)
      · exact it2.fA b hb (by rw [q]; exact hDn2)
    · cases e : s2.heap.get? b with
      | none => exact it2.fA b hb e
      | some o => have := up4 b o e; rw [this] at q; cases q
    · rcases q with ((q | q) | q) | q | q
      · exact hb (.inl q.1)
      · rw [q, hDn2] at e; cases e
      · exact hb (.inr q)
      · exact hb (.inl (.inr (.inl q)))
      · rcases q with q | ⟨x, q⟩ | ⟨x, q⟩
        · rw [q] at e
          have : s2.heap.get? L = some o := e
          rw [hLn2] at this; cases this
        · exact hb (.inl (.inr (.inr (.inr (.inl ⟨x, (c1 x b q).1⟩)))))
        · unfold thC at q
          split at q
          · exact hb (.inl (.inr (.inr (.inr (.inr ⟨x, q⟩)))))
          · cases q
  have hth : ∀ g ∈ (⟨tgt, iter, ifs, 0⟩ :: gs : List Comprehension), ∀ x ∈ tgtNames g.target, thC scope θ x = [] ∧ (compEnvC scope cl L env).kindOf x = some .local := fun g hg x hx => by
    have hl := ok.tgt g hg x hx
    refine ⟨?_, ?_⟩
    · unfold thC freeIn; rw [hl]; rfl
    · show (relabel scope env).names.lookup x = _
      rw [relabel_rel, lookup_rel, hl]; rfl
  have loop : ∀ s5, s5 = { s2 with heap := h4 } → codeAny C.M A (.compLoop (.ListComp elt (⟨tgt, iter, ifs, 0⟩ :: gs) scope pos) 0 (.ref I) (.ref Dd) (compEnvC scope cl L env)) (compPost C.M A E use Q (.ref Dd) L) s5 := by
    rintro s5 rfl
    refine comp_loop (gens := ⟨tgt, iter, ifs, 0⟩ :: gs) hA fmc (fun Z σ e d => hs.ev _ fmc rfl Z _ σ e d) (fun Z σ e b => hs.tv _ fmc rfl Z _ σ e b) (fun Z σ T e ds => hs.it _ fmc rfl Z _ σ T e ds) hth Dd (⟨tgt, iter, ifs, 0⟩ :: gs) 0 rfl _ its 0 rfl (Nat.zero_le _) (zC C env (compEnvC scope cl L env) Z θ (thC scope θ) Dd) (captured scope σ) out σ' _ I fp P S [] [] _ hall inv4 (.inr rfl) ?_ acc4 .nil (by simp only [List.length_nil, sizeLine]; omega) it4 fun s' vs' inv' acc' rep' os' k' => ?_
    · rintro (q | q)
      · exact i.yl I q.1 hIn
      · exact hIn2 hDn2 q.symm
    · have kf : Kp C s s' := ⟨os'.trans k4.os, fun b o hb e => k' b o (fun q => by
          rcases q with (t | q | q) | q
          · exact hb t
          · rw [show b = L from q, hLn] at e; cases e
          · rw [q, hDn] at e; cases e
          · rw [q, hIn] at e; cases e) (k4.kp b o hb e), fun _ => inv'.gb, fun _ => inv'.jj⟩
      have hLs : ∃ m, s'.heap.Ns L m := inv'.ns
      refine hQ s' Dd L (i.addZ (N := fun a => a = L) kf (fun a q => q ▸ hLn) (fun a q => ?_) fun a q o e => (let ⟨m, hm⟩ := hLs; notCd_ns hm o (q ▸ e))) kf (.list (vs := vs') (fun q => ?_) acc' (rep'.mono fun b o hb e => ⟨e, fun q => ?_⟩)) hLs hLn hDn
      · obtain ⟨m, o, _, _, e, _⟩ := hLs; rw [q, e]; simp
      · rcases q with (q | q) | q
        · exact i.yl Dd (.inl q) hDn
        · exact hneLD q
        · exact i.yl Dd (.inr q) hDn
      · rcases q with (q | q) | q
        · exact hb (inY b (.inl q))
        · exact hb (.inr (.inr (.inl q)))
        · exact hb (inY b (.inr q))
  show codeAny C.M A (.compStart (.ListComp elt (⟨tgt, iter, ifs, 0⟩ :: gs) scope pos) 0 (.ref I) (.ref Dd) (compEnvC scope cl L env)) (compPost C.M A E use Q (.ref Dd) L) { s2 with heap := h4 }
  exact compStart_ok (k := 0) rfl (loop _ rfl) (it2.W.self 0 _ _ _ (it2.W.frame 0 _ _ it2.st fun b hb o e => up4 b o e) (loop _ rfl))

theorem ev_comp_new {elt iter tgt : Expr} {ifs : List Expr} {gs : List Comprehension} {scope : Scope} {pos : Pos} {its out : List D} {ev : St → Expr → Option D} {tv : St → Expr → Option Bool} {itr : St → Expr → Option (List D)}
    (hA : Ro A) (hf : Fm env) (ok : CompOk env scope (⟨tgt, iter, ifs, 0⟩ :: gs)) (hs : EvSound C A (relScope scope env.scope) ev tv itr) (hsrc : plainSrc iter = true) (hfirst : EvI C A env Z θ σ C.Tb iter its)
    (hall : compAll ev tv itr elt (⟨tgt, iter, ifs, 0⟩ :: gs) (captured scope σ) its = some (out, σ')) (hsz : out.length ≤ 1000000) {s : Shared} (i : Inv C env Z θ σ s) : wpAny C.M A (eval (.ListComp elt (⟨tgt, iter, ifs, 0⟩ :: gs) scope pos) env) (fun v s' => Kp C s s' ∧ Rep C (Yf C env Z θ) s'.heap v (.list out) ∧ ∃ a, v = .ref a ∧ s.heap.get? a = none) (fun _ _ => False) s := by
  rw [eval_ListComp]
  refine comp_core (use := none) hA hf ok hs hsrc hfirst hall hsz i fun s' Dd L i' k' r' hm hL hD => ?_
  obtain ⟨m, hm⟩ := hm
  refine ⟨m, hm, fun h' hs' => ?_⟩
  have hk : ∀ b o, b ≠ L → s'.heap.get? b = some o → h'.get? b = some o := fun b o hb e => (hs'.2 b hb).trans e
  have tbL : ¬ C.Tb L := fun t => i.yl L (.inr (.inl t)) hL
  refine ⟨⟨k'.os, fun b o hb e => hk b o (fun q => by rw [q, hL] at e; cases e) (k'.kp b o hb e), k'.gb, fun j => (k'.jj j).keepP (T := fun a => a = L) (fun a q t => tbL (q ▸ t)) (fun a o q e => notCd_ns hm o (q ▸ e)) fun b o hb e => hk b o hb e⟩, ?_, Dd, rfl, hD⟩
  exact r'.mono fun b o hb e => ⟨hk b o (fun q => hb (q ▸ .inl (.inr rfl))) e, fun q => hb (q.elim (fun z => .inl (.inl z)) .inr)⟩
theorem ev_comp {elt iter tgt : Expr} {ifs : List Expr} {gs : List Comprehension} {scope : Scope} {pos : Pos} {its out : List D} {ev : St → Expr → Option D} {tv : St → Expr → Option Bool} {itr : St → Expr → Option (List D)}
    (hA : Ro A) (hf : Fm env) (ok : CompOk env scope (⟨tgt, iter, ifs, 0⟩ :: gs)) (hs : EvSound C A (relScope scope env.scope) ev tv itr) (hsrc : plainSrc iter = true) (hfirst : EvI C A env Z θ σ C.Tb iter its)
    (hall : compAll ev tv itr elt (⟨tgt, iter, ifs, 0⟩ :: gs) (captured scope σ) its = some (out, σ')) (hsz : out.length ≤ 1000000) : Ev C A env Z θ σ (eval (.ListComp elt (⟨tgt, iter, ifs, 0⟩ :: gs) scope pos) env) (.list out) := fun s i =>
  wpAny_mono (ev_comp_new hA hf ok hs hsrc hfirst hall hsz i) (fun v s' q => ⟨q.1, q.2.1⟩) fun _ _ f => f
end
end Mine

end

section
open PySem PySem.W PyProof.Rows PySem.Calls
set_option maxRecDepth 100000
set_option linter.unusedVariables false
namespace Mine

noncomputable def getKv (kvs : List (Int × Int)) (k d : Int) : Int := ((kvs.find? fun p => p.1 = k).map (·.2)).getD d

section
variable {C : Cfg} {A : Around} {env : Env} {Z Z' : Addr → Prop} {θ θ' : Str → List Addr} {σ σ' : St}

theorem load_own {x : Str} {pos : Pos} {sl : Sl} {s : Shared} (hf : Fm env) (i : Inv C env Z θ σ s) (hd : (x == ("__debug__" : Str)) = false) (h : σ.lookup x = some sl) (hu : sl ≠ .un) {Q : Value → Shared → Prop} {E : Value → Shared → Prop}
    (hQ : ∀ v, VarAt env s.heap x v → CRep C (Yf C env Z θ) s.heap v sl (θ x) → Q v s) : wpAny C.M A (eval (.Name x pos) env) Q E s := by
  have r := i.vs x sl h
  generalize θ x = as at r hQ
  cases r with
  | un => exact absurd rfl hu
  | var hv hc => exact wpAny_Name (load_var hf.k hv (hQ _ hv hc)) hd

theorem CRep.dct_inv {Y : Addr → Prop} {h : Heap} {v : Value} {ds : List (Int × Int)} {as : List Addr} (r : CRep C Y h v (.dct ds) as) : ∃ a kvs, v = .ref a ∧ as = [a] ∧ (a == sysModules) = false ∧ h.DictOf C.ik a kvs ∧ KvIs kvs ds := by
  cases r with | dct a b c => exact ⟨_, _, rfl, rfl, a, b, c⟩
theorem CRep.acc_inv {Y : Addr → Prop} {h : Heap} {v : Value} {m : Int} {ps : List (Str × Str)} {as : List Addr} (r : CRep C Y h v (.acc m ps) as) : ∃ x d vs t1 t2 ep, v = .ref x ∧ as = [x, d] ∧ h.get? x = some (C.accO d vs.toArray ep) ∧ h.get? d = some (C.sizD m t1 t2) ∧ C.accK x d ∧ RepL C Y h vs (ps.map pairD) := by
  cases r with | acc a b c d => exact ⟨_, _, _, _, _, _, rfl, rfl, a, b, c, d⟩
theorem kvIs_vals {kvs : List (Int × Value)} {ds : List (Int × Int)} (h : KvIs kvs ds) {i : Nat} {k : Int} {v : Value} (e : kvs[i]? = some (k, v)) : ∃ t, v = .int ((ds.map (·.2)).getD i 0) t := by
  induction h generalizing i with
  | nil => exact no e
  | cons k' v' t hl ih =>
    cases i with
    | zero => exact ⟨t, (congrArg Prod.snd (so e)).symm⟩
    | succ i => exact ih e

theorem ev_minvals {x m : Str} {p apos p2 pos : Pos} {o : Expr} {kvs : List (Int × Int)} {r : Int} (hA : Ro A) (hf : Fm env) (hk : env.kindOf x = some .globalImplicit) (hg : GlobIs C x (.builtin "min")) (hd : (x == ("__debug__" : Str)) = false)
    (hb : plainBase o = true) (hl : (apos.endLine == p2.line) = true) (ho : Ev C A env Z θ σ (eval o env) (.dict kvs)) (hm : m = Str.ofString "values") (hr : minL (kvs.map (·.2)) = some r) :
    Ev C A env Z θ σ (eval (.Call (.Name x p) [.Call (.Attribute o m apos) [] [] p2] [] pos) env) (.int r) := fun s i => by
  subst hm
  refine Call_Name rfl (wpAny_Name (glob_ok hf hk hg i.kp ?_) hd)
  refine PyProof.Rows.callWith_builtin1 (spliced_more ?_ rfl) rfl rfl
  refine method_ hb hl rfl (by decide) (ho.use i fun v s1 k1 i1 r1 => ?_)
  obtain ⟨l, ks, rfl, ha, hsm, hg', hkv⟩ := r1.dict_inv
  refine getMethod_builtin hg'.typeIs F.plainAttrs_dict F.slot_dict_values F.type_dict_values (fun a e => ?_) ?_
  · cases e
    obtain ⟨o, es, ep, ho, hex, _⟩ := hg'
    exact ⟨o, ho, hex.2.1⟩
  · refine callWith_method0 (call_meetsIn F.slot_dict_values hg'.typeIs F.entry_dict_values (F.args_dict_values_1 _) (meets_dict_values C.ik l hsm) ⟨⟨ks, hg'⟩, ?_⟩)
    refine spliced_none ?_
    obtain ⟨ep, hat⟩ := hg'.dictAt
    have hlt := hat.lt_size
    have hV : (s1.heap.push { cls := .type "dict_values", data := .fields #[.ref l] }).IsValuesView s1.heap.objs.size l := ⟨_, Heap.get?_push_size _ rfl, rfl, rfl⟩
    have hat' := hat.push { cls := .type "dict_values", data := .fields #[.ref l] }
    have hlen := kvIs_length hkv
    have hv : ∀ (i : Nat) (v : Value), (∃ k, ks[i]? = some (k, v)) → ∃ t, v = Value.int ((kvs.map (·.2)).getD i 0) t := fun i v ⟨k, hk⟩ => kvIs_vals hkv hk
    refine call_min_walk (wpAny_pyIter_values hV hat' ?_)
    refine ⟨_, _, _, _, _, _, _, rfl, Walks.dictValues (knd := C.ik) (A := A.in1) hA.1 _ l (Nat.ne_of_lt (by rw [Heap.size_push]; exact Nat.lt_succ_of_lt hlt)) ks ep, ⟨⟨_, Heap.get?_push_size _ rfl, rfl, rfl⟩, hat'.push _⟩, ?_, ?_, cmp_ints _ hv, fun v h' tk hP hk' => ?_⟩
    · intro b hb
      rw [Heap.size_push]
      rcases List.mem_cons.mp hb with rfl | hb
      · exact Nat.lt_succ_self _
      · rw [List.mem_singleton.mp hb, Heap.size_push]; exact Nat.lt_succ_of_lt (Nat.lt_succ_of_lt hlt)
    · cases kvs with
      | nil => exact no hr
      | cons a b => rw [hlen]; exact Nat.succ_pos _
    · have hkk : Keep s1.heap h' := fun b o e => hk' b o (by have := Heap.lt_size e; rw [List.mem_singleton, Heap.size_push]; exact Nat.ne_of_lt (Nat.lt_succ_of_lt this)) (keep_push _ _ _ (keep_push _ _ _ e))
      refine ⟨k1.trans (Kp.heap hkk), ?_⟩
      obtain ⟨t, rfl⟩ := hv _ _ hP
      cases kvs with
      | nil => exact no hr
      | cons a b =>
        rw [List.map_cons, minL_eq] at hr
        rw [← so hr, argBest_min (fun i => ((a :: b).map (·.2)).getD i 0), hlen, List.length_map]
        exact .int _ _

theorem kvIs_get {kvs : List (Int × Value)} {ds : List (Int × Int)} (h : KvIs kvs ds) (k d : Int) (t : Tok) : ∃ t', (valueAt kvs k).getD (.int d t) = .int (getKv ds k d) t' := by
  unfold getKv
  cases e : (ds.find? fun p => p.1 = k).map (·.2) with
  | none => rw [kvIs_find_none h k e]; exact ⟨t, rfl⟩
  | some v => obtain ⟨t', ht⟩ := kvIs_find h k e; rw [ht]; exact ⟨t', rfl⟩
theorem ev_get {x m : Str} {p apos pos : Pos} {e1 e2 : Expr} {kvs : List (Int × Int)} {k d : Int} (hA : Ro A) (hf : Fm env) (hd : (x == ("__debug__" : Str)) = false) (hx : σ.lookup x = some (.dct kvs)) (hl : (apos.endLine == pos.line) = true) (hm : m = Str.ofString "get")
    (hs : Evs C A env Z θ σ [e1, e2] [.int k, .int d]) : Ev C A env Z θ σ (eval (.Call (.Attribute (.Name x p) m apos) [e1, e2] [] pos) env) (.int (getKv kvs k d)) := fun s i => by
  subst hm
  refine method_ rfl hl hs.star (show 2 < 30 by decide) (load_own hf i hd hx nofun fun v _ hc => ?_)
  obtain ⟨l, ks, rfl, hθ, hsm, hg, hkv⟩ := hc.dct_inv
  refine getMethod_builtin hg.typeIs F.plainAttrs_dict F.slot_dict_get F.type_dict_get (fun a e => ?_) ?_
  · cases e
    obtain ⟨o, es, ep, ho, hex, _⟩ := hg
    exact ⟨o, ho, hex.2.1⟩
  · have hst := hs.star
    refine callWith_method1 ((hs.spliced pos).use i fun vs s1 k1 i1 r1 => ?_) (starEach_cons (and_1 hst)) (any_star (and_2 hst))
    obtain ⟨v1, us, rfl, q1, q⟩ := r1.cons_inv
    obtain ⟨v2, us, rfl, q2, q3⟩ := q.cons_inv
    rw [q3.nil_inv]
    obtain ⟨t1, rfl⟩ := q1.int_inv
    obtain ⟨t2, rfl⟩ := q2.int_inv
    have hg1 : s1.heap.DictOf C.ik l ks := DictOf.at1 hg fun o e => k1.kp _ o (fun t => i.tw _ t (.inr (.inr ⟨x, by rw [hθ]; exact .head _⟩))) e
    obtain ⟨t', ht'⟩ := kvIs_get hkv k d t2
    refine call_meetsIn F.slot_dict_get hg1.typeIs F.entry_dict_get (F.args_dict_get_3 _ _ _) (meets_dict_get_default C.ik l (k := k) (show C.ik.is k (.int k t1) = true from is_int (t := t1)) hsm (.int d t2)) ⟨_, hg1.mapOf, ?_⟩
    show Kp C s _ ∧ Rep C _ _ ((valueAt ks k).getD (.int d t2)) _
    rw [ht']
    exact ⟨k1.trans .tok, .int _ _⟩
noncomputable def AttrOk (C : Cfg) (A : Around) (m : Str) (t : Nat) (ds : List D) (d : D) : Prop :=
  ∀ (Y : Addr → Prop) (s : Shared) (v : Value), Bs C Y s → Rep C Y s.heap v (.obj t ds) → wpAny C.M A (getAttr v m true) (fun z s' => Kp C s s' ∧ Rep C Y s'.heap z d) (fun _ _ => False) s
theorem ev_attr {o : Expr} {m : Str} {pos : Pos} {t : Nat} {ds : List D} {d : D} (hb : plainBase o = true) (h : Ev C A env Z θ σ (eval o env) (.obj t ds)) (ha : AttrOk C A m t ds d) : Ev C A env Z θ σ (eval (.Attribute o m pos) env) d := fun s i => by
  have hbase := base_plain (env := env) (m := m) hb
  show wpAny _ _ (attributeBase o m env (eval o env) >>= fun ov => standAt pos.atName >>= fun _ => holding [ov] (getAttr ov m true) >>= fun r => letTemporaryGo o ov r >>= fun _ => pure r) _ _ s
  rw [hbase]
  refine wpAny_bind (h.use i fun v s1 k1 i1 r1 => wpAny_bind (wpAny_standAt (wpAny_bind (wpAny_holding ?_))))
  exact wpAny_mono (ha _ s1 v i1.bs r1) (fun z s2 q => wpAny_bind (wpAny_letTemporaryGo (wpAny_pure ⟨k1.trans q.1, q.2⟩))) fun _ _ f => f
noncomputable def MethOk (C : Cfg) (A : Around) (m : Str) (t : Nat) (ds : List D) (args : List D) (d : D) : Prop :=
  ∀ (pl : Sem Bool) (Y : Addr → Prop) (s : Shared) (v : Value), Bs C Y s → Rep C Y s.heap v (.obj t ds) → wpAny C.M A (getMethod v m pl) (fun fx s1 => Kp C s s1 ∧ ∃ q oq, fx.1 = .ref q ∧ s1.heap.get? q = some oq ∧ (∃ fd, oq.data = .func fd) ∧ ¬ C.Tb q ∧
    ∀ s2 vs, Bs C Y s2 → Kp C s1 s2 → RepL C Y s2.heap vs args → wpAny C.M A (call (.ref q) (fx.2 ++ vs)) (fun z s' => Kp C s2 s' ∧ Rep C Y s'.heap z d) (fun _ _ => False) s2) (fun _ _ => False) s
theorem ev_meth {o : Expr} {m : Str} {apos pos : Pos} {es : List Expr} {t : Nat} {ds args : List D} {d : D} (hb : plainBase o = true) (hl : (apos.endLine == pos.line) = true) (hn : es.length < 30) (hne : es ≠ [])
    (h : Ev C A env Z θ σ (eval o env) (.obj t ds)) (hs : Evs C A env Z θ σ es args) (ha : MethOk C A m t ds args d) : Ev C A env Z θ σ (eval (.Call (.Attribute o m apos) es [] pos) env) d := fun s i => by
  refine method_ hb hl hs.star hn (h.use i fun v s1 k1 i1 r1 => ?_)
  refine wpAny_mono (ha _ _ s1 v i1.bs r1) (fun fx s2 q => ?_) fun _ _ f => f.elim
  obtain ⟨k2, q, oq, e, hq, ⟨fd, hfd⟩, htb, hcall⟩ := q
  obtain ⟨f, first⟩ := fx
  simp only at e hcall
  subst e
  have i2 := i1.next k2
  cases es with
  | nil => exact absurd rfl hne
  | cons e r =>
    have hst := hs.star
    have fa : ∀ {s' : Shared}, Kp C s2 s' → FnAt q s'.heap := fun k => by
      obtain ⟨oc, od, dt, sl⟩ := oq
      simp only at hfd
      subst hfd
      exact ⟨oc, od, fd, sl, k.kp _ _ htb hq⟩
    refine callWith_F (fa (.refl _)) ((hs.spliced pos).use i2 fun vs s3 k3 i3 r3 => ⟨fa k3, ?_⟩) (starEach_cons (and_1 hst)) (any_star (and_2 hst))
    exact wpAny_mono (hcall s3 vs i3.bs k3 r3) (fun z s4 q => ⟨((k1.trans k2).trans k3).trans q.1, q.2⟩) fun _ _ f => f

noncomputable def AccLenOk (C : Cfg) (A : Around) (m : Int) (ps : List (Str × Str)) (n : Int) : Prop :=
  ∀ (Y : Addr → Prop) (s : Shared) (v : Value) as, Bs C Y s → (∀ a ∈ as, Y a ∧ ¬ C.Tb a) → CRep C Y s.heap v (.acc m ps) as → wpAny C.M A (call (.builtin "len") [v]) (fun z s' => Kp C s s' ∧ Rep C Y s'.heap z (.int n)) (fun _ _ => False) s
noncomputable def AccStrOk (C : Cfg) (A : Around) (m : Int) (ps : List (Str × Str)) (x : Str) : Prop :=
  ∀ (Y : Addr → Prop) (s : Shared) (v : Value) as, Bs C Y s → (∀ a ∈ as, Y a ∧ ¬ C.Tb a) → CRep C Y s.heap v (.acc m ps) as → wpAny C.M A (call (.type "str") [v]) (fun z s' => Kp C s s' ∧ Rep C Y s'.heap z (.str x)) (fun _ _ => False) s
theorem own_yt {s : Shared} (i : Inv C env Z θ σ s) (x : Str) : ∀ a ∈ θ x, Yf C env Z θ a ∧ ¬ C.Tb a := fun a ha => ⟨.inr (.inr (.inr (.inr ⟨x, ha⟩))), fun t => i.tw a t (.inr (.inr ⟨x, ha⟩))⟩
theorem ev_acc_len {x f : Str} {p fp pos : Pos} {m n : Int} {ps : List (Str × Str)} (hf : Fm env) (hk : env.kindOf f = some .globalImplicit) (hg : GlobIs C f (.builtin "len")) (hdf : (f == ("__debug__" : Str)) = false) (hd : (x == ("__debug__" : Str)) = false) (hx : σ.lookup x = some (.acc m ps)) (h : AccLenOk C A m ps n) :
    Ev C A env Z θ σ (eval (.Call (.Name f fp) [.Name x p] [] pos) env) (.int n) := fun s i => by
  refine Call_Name rfl (wpAny_Name (glob_ok hf hk hg i.kp ?_) hdf)
  refine PyProof.Rows.callWith_builtin1 (spliced_more (load_own hf i hd hx nofun fun v _ hc => spliced_none ?_) rfl) rfl rfl
  exact h _ s v _ i.bs (own_yt i x) hc
theorem ev_acc_str {x f : Str} {p fp pos : Pos} {m : Int} {t : Str} {ps : List (Str × Str)} (hf : Fm env) (hk : env.kindOf f = some .globalImplicit) (hg : GlobIs C f (.type "str")) (hdf : (f == ("__debug__" : Str)) = false) (hd : (x == ("__debug__" : Str)) = false) (hx : σ.lookup x = some (.acc m ps)) (h : AccStrOk C A m ps t) :
    Ev C A env Z θ σ (eval (.Call (.Name f fp) [.Name x p] [] pos) env) (.str t) := fun s i => by
  refine Call_Name rfl (wpAny_Name (glob_ok hf hk hg i.kp ?_) hdf)
  refine PyProof.Rows.callWith_type1 (spliced_more (load_own hf i hd hx nofun fun v _ hc => spliced_none ?_) rfl) rfl rfl
  exact h _ s v _ i.bs (own_yt i x) hc
theorem ev_neg {x : Expr} {pos : Pos} {a : Int} (h : Ev C A env Z θ σ (eval x env) (.int a)) : Ev C A env Z θ σ (eval (.UnaryOp .USub x pos) env) (.int (-a)) := fun s i => by
  refine wpAny_UnaryOp (h.use i fun v s1 k1 i1 r1 => ?_)
  obtain ⟨t, rfl⟩ := r1.int_inv
  exact neg_int ⟨k1.trans .tok, .int _ _⟩
end
end Mine

end

section
open PySem PySem.W PyProof.Rows PySem.Calls
set_option maxRecDepth 100000
set_option linter.unusedVariables false
namespace Mine

inductive Gl where
  | len | sum | all | min | isinstance | sorted | range | str | bool
  | fn (a : Addr)
  | acc (a : Addr)
noncomputable def Gl.val : Gl → Value
  | .len => .builtin "len"
  | .sum => .builtin "sum"
  | .all => .builtin "all"
  | .min => .builtin "min"
  | .isinstance => .builtin "isinstance"
  | .sorted => .builtin "sorted"
  | .range => .type "range"
  | .str => .type "str"
  | .bool => .type "bool"
  | .fn a => .ref a
  | .acc a => .ref a

structure Tab where
  glob : List (Str × Gl)
  fn : Addr → List D → Option D
  attr : Nat → List D → Str → Option D
  meth : Nat → List D → Str → List D → Option D
  accLen : Int → List (Str × Str) → Option Int
  accStr : Int → List (Str × Str) → Option Str
  accCall : Str → Int → List (Str × Str) → List D → Option (List (Str × Str) × D)

noncomputable def AccCallOk (C : Cfg) (A : Around) (m : Str) (mg : Int) (ps : List (Str × Str)) (args : List D) (ps' : List (Str × Str)) (d : D) : Prop :=
  ∀ (pl : Sem Bool) (Y : Addr → Prop) (s : Shared) (v : Value) as, Bs C Y s → (∀ a ∈ as, Y a ∧ ¬ C.Tb a) → CRep C Y s.heap v (.acc mg ps) as → wpAny C.M A (getMethod v m pl) (fun fx s1 => Kp C s s1 ∧ ∃ q oq, fx.1 = .ref q ∧ C.g.get? q = some oq ∧ (∃ fd, oq.data = .func fd) ∧
    ∀ s2 vs, Bs C Y s2 → CRep C Y s2.heap v (.acc mg ps) as → RepL C Y s2.heap vs args → wpAny C.M A (call (.ref q) (fx.2 ++ vs)) (fun z s' => s'.os = s2.os ∧ AllBare s'.gens ∧ C.J s'.heap ∧ KeepP (fun a => C.Tb a ∨ a ∈ as) s2.heap s'.heap ∧ CRep C Y s'.heap v (.acc mg ps') as ∧ Rep C Y s'.heap z d) (fun _ _ => False) s2) (fun _ _ => False) s
structure AccNewOk (C : Cfg) (A : Around) (a : Addr) : Prop where
  keeper : Looks C.M C.g (keeperOf (.ref a)) .machine
  run : ∀ (Y : Addr → Prop) (s : Shared) (i : Int) (t : Tok), Bs C Y s → wpAny C.M A (call (.ref a) [.int i t]) (fun z s1 => Kp C s s1 ∧ ∃ x d ep t1 t2, z = .ref x ∧ s.heap.get? x = none ∧ s.heap.get? d = none ∧ s1.heap.get? x = some (C.accO d #[] ep) ∧ s1.heap.get? d = some (C.sizD i t1 t2) ∧ C.accK x d) (fun _ _ => False) s

structure TabOk (C : Cfg) (A : Around) (T : Tab) : Prop where
  glob : ∀ x g, T.glob.lookup x = some g → GlobIs C x g.val ∧ (x == ("__debug__" : Str)) = false
  fn : ∀ x a ds d, T.glob.lookup x = some (.fn a) → T.fn a ds = some d → FnOk C A a (T.fn a)
  attr : ∀ t ds m d, T.attr t ds m = some d → AttrOk C A m t ds d
  meth : ∀ t ds m as d, T.meth t ds m as = some d → MethOk C A m t ds as d
  accLen : ∀ m ps n, T.accLen m ps = some n → AccLenOk C A m ps n
  accStr : ∀ m ps x, T.accStr m ps = some x → AccStrOk C A m ps x
  accCall : ∀ m mg ps args ps' d, T.accCall m mg ps args = some (ps', d) → AccCallOk C A m mg ps args ps' d
  accNew : ∀ x a, T.glob.lookup x = some (.acc a) → AccNewOk C A a

noncomputable def one {α : Type} (l : List α) : Option α := match l with
  | [] => none
  | a :: r => match r with
    | [] => some a
    | _ :: _ => none
theorem one_some {α : Type} {l : List α} {a : α} (h : one l = some a) : l = [a] := by
  cases l with
  | nil => exact no h
  | cons b r =>
    cases r with
    | nil => rw [so h]
    | cons _ _ => exact no h
noncomputable def evs (ev : Expr → Option D) : List Expr → Option (List D)
  | [] => some []
  | e :: r => gd (noStar e) ((ev e).bind fun d => (evs ev r).map (d :: ·))
noncomputable def evPart (ev : Expr → Option D) : Option Expr → Option D
  | none => some .none
  | some e => ev e
noncomputable def evT (ev : Expr → Option D) : Nat → Expr → Option Bool
  | 0, _ => none
  | n + 1, e => match e with
    | .UnaryOp op x _ => match op with
      | .Not => (evT ev n x).map not
      | .USub => none
      | .UAdd => none
      | .Invert => none
    | .BoolOp op vs _ => (two vs).bind fun p => (evT ev n p.1).bind fun a => match op with
      | .And => bif a then evT ev n p.2 else some false
      | .Or => bif a then some true else evT ev n p.2
    | .Compare l ops rs _ => (one ops).bind fun op => (one rs).bind fun r => gd (!behindInMarks op r) ((ev l).bind fun a => (ev r).bind fun b => cmpB op a b)
    | .IfExp _ _ _ _ => none
    | e => (ev e).bind truthD
noncomputable def glF (T : Tab) (sc : Scope) (f : Expr) : Option Gl := (nameOf f).bind fun x => gd (sc.names.lookup x == some .globalImplicit) (T.glob.lookup x)
noncomputable def small (n : Int) : Bool := decide (-1000000 ≤ n ∧ n ≤ 1000000)
noncomputable def itemsOf (d : D) : Option (List D) := D.casesOn (motive_1 := fun _ => Option (List D)) d none (fun _ => none) (fun _ => none) (fun _ => none) (fun l => some l) (fun _ => none) (fun kvs => some (kvs.map fun p => .int p.1)) (fun _ _ => none)
noncomputable def rngD (ev : Expr → Option D) (es : List Expr) : Option (List D) := (evs ev es).bind fun ds => (asInts ds).bind fun ns => (rngOf ns).bind fun b => gd (small b.1 && small b.2) (some (rangeL b.1 b.2))
noncomputable def isRng (g : Option Gl) : Bool := match g with
  | none => false
  | some g => Nat.beq g.ctorIdx 6
noncomputable def evI (T : Tab) (sc : Scope) (ev : Expr → Option D) (σ : St) (e : Expr) : Option (List D) := match e with
  | .Call f es kws _ => bif isRng (glF T sc f) && kws.isEmpty then rngD ev es else (ev e).bind itemsOf
  | _ => (ev e).bind itemsOf
noncomputable def notSlice (e : Expr) : Bool := !(Nat.beq e.ctorIdx 26)
noncomputable def slVal (s : Sl) : Option D := match s with
  | .val d => some d
  | .un => none
  | .lst _ => none
  | .dct _ => none
  | .acc _ _ => none
noncomputable def slDct (s : Sl) : Option (List (Int × Int)) := match s with
  | .dct d => some d
  | .un => none
  | .lst _ => none
  | .val _ => none
  | .acc _ _ => none
noncomputable def slAcc (s : Sl) : Option (Int × List (Str × Str)) := match s with
  | .acc m ps => some (m, ps)
  | .un => none
  | .lst _ => none
  | .val _ => none
  | .dct _ => none
theorem slVal_some {s : Sl} {d : D} (h : slVal s = some d) : s = .val d := by cases s with | val d => rw [so h] | _ => exact no h
theorem slDct_some {s : Sl} {d} (h : slDct s = some d) : s = .dct d := by cases s with | dct d => rw [so h] | _ => exact no h
theorem slAcc_some {s : Sl} {d} (h : slAcc s = some d) : s = .acc d.1 d.2 := by cases s with | acc m ps => rw [← so h] | _ => exact no h
noncomputable def accOf (σ : St) (e : Expr) : Option (Int × List (Str × Str)) := (nameOf e).bind fun x => gd (!(x == ("__debug__" : Str))) ((σ.lookup x).bind slAcc)
noncomputable def valsOf (e : Expr) : Option Expr := match e with
  | .Call f es kws p2 => match f with
    | .Attribute o m apos => gd (es.isEmpty && kws.isEmpty && (m == Str.ofString "values" && plainBase o && (apos.endLine == p2.line))) (some o)
    | _ => none
  | _ => none
noncomputable def minC (ev : Expr → Option D) (es : List Expr) : Option D := match two es with
  | some p => gd (noStar p.1 && noStar p.2) ((ev p.1).bind fun x => (ev p.2).bind fun y => min2D x y)
  | none => (one es).bind fun e => (valsOf e).bind fun o => (ev o).bind fun d => D.casesOn (motive_1 := fun _ => Option D) d none (fun _ => none) (fun _ => none) (fun _ => none) (fun _ => none) (fun _ => none) (fun kvs => (minL (kvs.map (·.2))).map .int) (fun _ _ => none)
noncomputable def op1C (f : D → Option D) (ev : Expr → Option D) (es : List Expr) : Option D := (one es).bind fun e => gd (noStar e) ((ev e).bind f)
noncomputable def lenC (T : Tab) (ev : Expr → Option D) (σ : St) (es : List Expr) : Option D := (one es).bind fun e => match accOf σ e with
  | some a => (T.accLen a.1 a.2).map .int
  | none => op1C lenD ev es
noncomputable def isiC (T : Tab) (sc : Scope) (ev : Expr → Option D) (es : List Expr) : Option D := (two es).bind fun p => (glF T sc p.2).bind fun g => gd (noStar p.1 && Nat.beq g.ctorIdx 8) ((ev p.1).bind isBoolD)
noncomputable def callG (T : Tab) (sc : Scope) (ev : Expr → Option D) (σ : St) (g : Gl) (es : List Expr) : Option D := match g with
  | .len => lenC T ev σ es
  | .sum => op1C sumD ev es
  | .all => op1C allD ev es
  | .min => minC ev es
  | .isinstance => isiC T sc ev es
  | .sorted => none
  | .range => none
  | .str => (one es).bind fun e => (accOf σ e).bind fun a => (T.accStr a.1 a.2).map .str
  | .bool => none
  | .fn a => gd (!es.isEmpty) ((evs ev es).bind (T.fn a))
  | .acc _ => none
noncomputable def callD (T : Tab) (sc : Scope) (ev : Expr → Option D) (σ : St) (f : Expr) (es : List Expr) : Option D := (glF T sc f).bind fun g => callG T sc ev σ g es
noncomputable def getC (ev : Expr → Option D) (σ : St) (o : Expr) (es : List Expr) : Option D := (nameOf o).bind fun x => gd (!(x == ("__debug__" : Str))) (((σ.lookup x).bind slDct).bind fun kvs => (two es).bind fun _ => (evs ev es).bind fun ds => (asInts ds).bind fun ns => (two ns).map fun q => .int (getKv kvs q.1 q.2))
noncomputable def methG (T : Tab) (a : D) (m : Str) (ds : List D) : Option D := D.casesOn (motive_1 := fun _ => Option D) a none (fun _ => none) (fun _ => none)
  (fun x => (one ds).bind fun y => bif m == Str.ofString "join" then joinD (.str x) y else bif m == Str.ofString "split" then splitD (.str x) y else bif m == Str.ofString "index" then sindexD (.str x) y else none)
  (fun l => (one ds).bind fun y => bif m == Str.ofString "index" then indexD (.list l) y else bif m == Str.ofString "count" then countD (.list l) y else none)
  (fun _ => none) (fun _ => none) (fun t os => T.meth t os m ds)
noncomputable def methD (T : Tab) (ev : Expr → Option D) (σ : St) (o : Expr) (m : Str) (es : List Expr) : Option D :=
  bif m == Str.ofString "get" then getC ev σ o es else gd (!es.isEmpty) ((ev o).bind fun a => (evs ev es).bind fun ds => methG T a m ds)
noncomputable def compD (ev : St → Expr → Option D) (tv : St → Expr → Option Bool) (itr : St → Expr → Option (List D)) (it : Expr → Option (List D)) (sc : Scope) (σ : St) (elt : Expr) (gens : List Comprehension) (scope : Scope) : Option D := match gens with
  | [] => none
  | g :: gs => gd (compOk scope sc (g :: gs) && plainSrc g.iter && decide (g.is_async = 0)) ((it g.iter).bind fun its => (compAll ev tv itr elt (g :: gs) (captured scope σ) its).bind fun r => if r.1.length ≤ 1000000 then some (.list r.1) else none)
noncomputable def constD (c : Const) : Option D := match c with
  | .none => some .none
  | .bool b => some (.bool b)
  | .int i => some (.int i)
  | .str x => some (.str x)
  | _ => none
noncomputable def sliceOf (e : Expr) : Option (Option Expr × Option Expr × Option Expr) := match e with
  | .Slice lo hi st _ => some (lo, hi, st)
  | _ => none
noncomputable def attrD (T : Tab) (a : D) (m : Str) : Option D := D.casesOn (motive_1 := fun _ => Option D) a none (fun _ => none) (fun _ => none) (fun _ => none) (fun _ => none) (fun _ => none) (fun _ => none) (fun t ds => T.attr t ds m)

noncomputable def evE (T : Tab) : Nat → Scope → St → Expr → Option D
  | 0, _, _, _ => none
  | n + 1, sc, σ, e => match e with
    | .Name x _ => gd (!(x == ("__debug__" : Str))) ((σ.lookup x).bind slVal)
    | .Constant c _ _ => constD c
    | .BinOp l op r _ => (evE T n sc σ l).bind fun a => (evE T n sc σ r).bind fun b => binD op a b
    | .Compare l ops rs _ => (one ops).bind fun op => (one rs).bind fun r => gd (!behindInMarks op r) ((evE T n sc σ l).bind fun a => (evE T n sc σ r).bind fun b => (cmpB op a b).map .bool)
    | .UnaryOp op x _ => match op with
      | .USub => (evE T n sc σ x).bind fun a => (asI a).map fun i => .int (-i)
      | .Not => none
      | .UAdd => none
      | .Invert => none
    | .IfExp t a b _ => (evT (evE T n sc σ) 8 t).bind fun c => bif c then evE T n sc σ a else evE T n sc σ b
    | .List es _ => (evs (evE T n sc σ) es).bind fun ds => if ds.length ≤ 1000 then some (.list ds) else none
    | .Tuple es _ _ => (evs (evE T n sc σ) es).bind fun ds => if ds.length ≤ 1000 then some (.tup ds) else none
    | .Subscript v s _ => (evE T n sc σ v).bind fun a => bif notSlice s then (evE T n sc σ s).bind fun b => itemD a b else
      (sliceOf s).bind fun q => (evPart (evE T n sc σ) q.1).bind fun x => (evPart (evE T n sc σ) q.2.1).bind fun y => (evPart (evE T n sc σ) q.2.2).bind fun z => sliceD a x y z
    | .ListComp elt gens scope _ => compD (fun σ e => evE T n (relScope scope sc) σ e) (fun σ e => evT (evE T n (relScope scope sc) σ) 8 e) (fun σ e => evI T (relScope scope sc) (evE T n (relScope scope sc) σ) σ e) (evI T sc (evE T n sc σ) σ) sc σ elt gens scope
    | .Call f es kws pos => gd kws.isEmpty (match f with
      | .Attribute o m apos => gd (plainBase o && (apos.endLine == pos.line) && decide (es.length < 30)) (methD T (evE T n sc σ) σ o m es)
      | f => callD T sc (evE T n sc σ) σ f es)
    | .Attribute o m _ => gd (plainBase o) ((evE T n sc σ o).bind fun a => attrD T a m)
    | _ => none
end Mine

end

section
open PySem PySem.W PyProof.Rows PySem.Calls
set_option maxRecDepth 100000
set_option linter.unusedVariables false
namespace Mine

section
variable {C : Cfg} {A : Around} {env : Env} {Z : Addr → Prop} {θ : Str → List Addr} {σ : St} {T : Tab} {ev : Expr → Option D}
theorem evs_ok (hev : ∀ e d, ev e = some d → Ev C A env Z θ σ (eval e env) d) {es : List Expr} {ds : List D} (e : evs ev es = some ds) : Evs C A env Z θ σ es ds := by
  induction es generalizing ds with
  | nil => rw [← so e]; exact .nil
  | cons x r ih =>
    refine gdE e fun hs e => ?_
    refine bndE e fun d h1 e => ?_
    obtain ⟨l, h2, rfl⟩ := mpd e
    exact .cons hs (hev x d h1) (ih h2)
theorem evPart_ok (hev : ∀ e d, ev e = some d → Ev C A env Z θ σ (eval e env) d) {x : Option Expr} {d : D} (e : evPart ev x = some d) : Ev C A env Z θ σ (evalPart x env) d := by
  cases x with
  | none => rw [← so e]; exact ev_part_none
  | some x => exact hev x d e
theorem tv_whole (hev : ∀ e d, ev e = some d → Ev C A env Z θ σ (eval e env) d) {e : Expr} {b : Bool} (h : (ev e).bind truthD = some b) (he : isTrue e env (eval e env) = (do let v ← eval e env; standAt e.pos; holding [v] (truthy v))) : Tv C A env Z θ σ (isTrue e env (eval e env)) b :=
  let ⟨d, h1, h2⟩ := bnd h; tv_of (hev e d h1) h2 he
theorem evT_ok (hA : Ro A) (hev : ∀ e d, ev e = some d → Ev C A env Z θ σ (eval e env) d) (n : Nat) {e : Expr} {b : Bool} (h : evT ev n e = some b) : Tv C A env Z θ σ (isTrue e env (eval e env)) b := by
  induction n generalizing e b with
  | zero => exact no h
  | succ n ih =>
    cases e with
    | UnaryOp op x _ =>
      cases op with
      | Not => obtain ⟨c, h1, rfl⟩ := mpd h; exact tv_not (ih h1)
      | _ => exact no h
    | BoolOp op vs _ =>
      refine bndE h fun p hp h => ?_
      refine bndE h fun a h1 h => ?_
      rw [two_some hp]
      cases op with
      | And =>
        cases a with
        | true => exact tv_and (ih h1) fun _ => ih h
        | false => rw [← so h]; exact tv_and (b := true) (ih h1) nofun
      | Or =>
        cases a with
        | true => rw [← so h]; exact tv_or (b := true) (ih h1) nofun
        | false => exact tv_or (ih h1) fun _ => ih h
    | Compare l ops rs _ =>
      refine bndE h fun op hop h => ?_
      refine bndE h fun r hr h => ?_
      refine gdE h fun hm h => ?_
      refine bndE h fun a h1 h => ?_
      refine bndE h fun c h2 h => ?_
      rw [one_some hop, one_some hr]
      exact tv_cmp hA (hev _ _ h1) (hev _ _ h2) h (not_t hm)
    | IfExp _ _ _ _ => exact no h
    | _ => exact tv_whole hev h rfl
theorem glF_ok {sc : Scope} {f : Expr} {g : Gl} (hT : TabOk C A T) (hs : env.scope = sc) (h : glF T sc f = some g) : ∃ x p, f = .Name x p ∧ env.kindOf x = some .globalImplicit ∧ GlobIs C x g.val ∧ (x == ("__debug__" : Str)) = false ∧ T.glob.lookup x = some g := by
  refine bndE h fun x h1 h => ?_
  refine gdE h fun hk h9 => ?_
  obtain ⟨p, rfl⟩ := nameOf_some h1
  obtain ⟨h2, h3⟩ := hT.glob x g h9
  subst hs
  exact ⟨x, p, rfl, eq_of_beq hk, h2, h3, h9⟩
theorem small_ok {n : Int} (h : small n = true) : -1000000 ≤ n ∧ n ≤ 1000000 := of_decide_eq_true h
theorem asD_ok (hA : Ro A) {Tp : Addr → Prop} (hTp : ∀ a, Tp a → Yf C env Z θ a) (hev : ∀ e d, ev e = some d → Ev C A env Z θ σ (eval e env) d) {e : Expr} {ds : List D} (h : (ev e).bind itemsOf = some ds) : EvI C A env Z θ σ Tp e ds := by
  refine bndE h fun d h1 h => ?_
  have h2 := hev e d h1
  clear h1
  cases d with
  | list l => rw [← so h]; exact evi_list hA hTp h2
  | dict l => rw [← so h]; exact evi_dict hA hTp h2
  | _ => exact no h
theorem evI_ok (hA : Ro A) (hf : Fm env) (hT : TabOk C A T) {sc : Scope} (hs : env.scope = sc) {Tp : Addr → Prop} {e : Expr} {ds : List D} (hTp : ∀ a, Tp a → Yf C env Z θ a) (hev : ∀ e d, ev e = some d → Ev C A env Z θ σ (eval e env) d) (h : evI T sc ev σ e = some ds) : EvI C A env Z θ σ Tp e ds := by
  have whole := fun e => asD_ok (e := e) (ds := ds) hA hTp hev
  cases e with
  | Call f es kws p =>
    have h' : (bif isRng (glF T sc f) && kws.isEmpty then rngD ev es else (ev (.Call f es kws p)).bind itemsOf) = some ds := h
    cases hc : isRng (glF T sc f) && kws.isEmpty with
    | false => rw [hc] at h'; exact whole _ h'
    | true =>
      rw [hc] at h'
      rw [List.isEmpty_iff.mp (and_2 hc)]
      have hg := and_1 hc
      cases hgl : glF T sc f with
      | none => rw [hgl] at hg; exact nob hg
      | some g =>
        rw [hgl] at hg
        obtain ⟨x, px, rfl, hk, hgl, hd, _⟩ := glF_ok hT hs hgl
        refine bndE h' fun l h1 h2 => ?_
        refine bndE h2 fun ns h3 h2 => ?_
        refine bndE h2 fun b h4 h2 => ?_
        refine gdE h2 fun h5 h2 => ?_
        rw [← so h2]
        cases g with
        | range => exact evi_range hA hf hk hgl hd (evs_ok hev h1) h3 h4 (small_ok (and_1 h5)) (small_ok (and_2 h5))
        | _ => exact nob hg
  | _ => exact whole _ h

theorem op1_builtin {x id : Str} {p pos : Pos} {e : Expr} {a d : D} {b : String} (hf : Fm env) (hk : env.kindOf x = some .globalImplicit) (hg : GlobIs C x (.builtin b)) (hd : (x == ("__debug__" : Str)) = false) (hn : noStar e = true) (h : Ev C A env Z θ σ (eval e env) a)
    (hop : Op1 C A (Yf C env Z θ) (fun v => call (.builtin b) [v]) a d) : Ev C A env Z θ σ (eval (.Call (.Name x p) [e] [] pos) env) d :=
  ev_call_builtin hf hk hg hd (.cons hn h .nil) nofun fun s vs b r => by
    obtain ⟨u, us, rfl, q1, q2⟩ := r.cons_inv
    rw [q2.nil_inv]
    exact hop s u q1 b.yl b.jj
theorem op2_builtin {x : Str} {p pos : Pos} {e e2 : Expr} {a a2 d : D} {b : String} (hf : Fm env) (hk : env.kindOf x = some .globalImplicit) (hg : GlobIs C x (.builtin b)) (hd : (x == ("__debug__" : Str)) = false) (hn : noStar e = true) (hn2 : noStar e2 = true) (h : Ev C A env Z θ σ (eval e env) a) (h2 : Ev C A env Z θ σ (eval e2 env) a2)
    (hop : Op2 C A (Yf C env Z θ) (fun v u => call (.builtin b) [v, u]) a a2 d) : Ev C A env Z θ σ (eval (.Call (.Name x p) [e, e2] [] pos) env) d :=
  ev_call_builtin hf hk hg hd (.cons hn h (.cons hn2 h2 .nil)) nofun fun s vs b r => by
    obtain ⟨u, us, rfl, q1, q2⟩ := r.cons_inv
    obtain ⟨u2, us, rfl, q2, q3⟩ := q2.cons_inv
    rw [q3.nil_inv]
    exact hop s u u2 q1 q2 b.yl b.jj
theorem ev_isBool {x y : Str} {p p2 pos : Pos} {e : Expr} {a d : D} (hf : Fm env) (hk : env.kindOf x = some .globalImplicit) (hg : GlobIs C x (.builtin "isinstance")) (hd : (x == ("__debug__" : Str)) = false) (hk2 : env.kindOf y = some .globalImplicit) (hg2 : GlobIs C y (.type "bool")) (hd2 : (y == ("__debug__" : Str)) = false) (hn : noStar e = true) (h : Ev C A env Z θ σ (eval e env) a)
    (hop : isBoolD a = some d) : Ev C A env Z θ σ (eval (.Call (.Name x p) [e, .Name y p2] [] pos) env) d := fun s i => by
  refine Call_Name rfl (wpAny_Name (glob_ok hf hk hg i.kp ?_) hd)
  refine PyProof.Rows.callWith_builtin1 (spliced_more (h.use i fun v s1 k1 i1 r1 => spliced_more (wpAny_Name (glob_ok hf hk2 hg2 i1.kp (spliced_none ?_)) hd2) rfl) (starEach_cons hn)) (starEach_cons hn) (any_star (es := [.Name y p2]) rfl)
  exact wpAny_mono (op_isBool hop s1 v r1 i1.yl i1.jj) (fun z s2 q => ⟨k1.trans q.1, q.2⟩) fun _ _ f => f

theorem op1C_ok {x id : Str} {p pos : Pos} {es : List Expr} {d : D} {b : String} {f : D → Option D} (hf : Fm env) (hev : ∀ e d, ev e = some d → Ev C A env Z θ σ (eval e env) d) (hk : env.kindOf x = some .globalImplicit) (hg : GlobIs C x (.builtin b)) (hd : (x == ("__debug__" : Str)) = false) (h : op1C f ev es = some d)
    (hop : ∀ a, f a = some d → Op1 C A (Yf C env Z θ) (fun v => call (.builtin b) [v]) a d) : Ev C A env Z θ σ (eval (.Call (.Name x p) es [] pos) env) d := by
  refine bndE h fun e he h => ?_
  refine gdE h fun hn h => ?_
  refine bndE h fun a h1 h => ?_
  rw [one_some he]
  exact op1_builtin (id := x) hf hk hg hd hn (hev _ _ h1) (hop a h)
theorem accOf_ok {e : Expr} {a : Int × List (Str × Str)} (h : accOf σ e = some a) : ∃ x p, e = .Name x p ∧ (x == ("__debug__" : Str)) = false ∧ σ.lookup x = some (.acc a.1 a.2) := by
  refine bndE h fun x h1 h => ?_
  refine gdE h fun h2 h => ?_
  refine bndE h fun sl h3 h9 => ?_
  obtain ⟨p, rfl⟩ := nameOf_some h1
  exact ⟨x, p, rfl, not_t h2, slAcc_some h9 ▸ h3⟩
theorem valsOf_ok {e o : Expr} (h : valsOf e = some o) : ∃ m apos p2, e = .Call (.Attribute o m apos) [] [] p2 ∧ m = Str.ofString "values" ∧ plainBase o = true ∧ (apos.endLine == p2.line) = true := by
  cases e with
  | Call f es kws p2 =>
    cases f with
    | Attribute o' m apos =>
      refine gdE h fun h1 h => ?_
      rw [← so h, List.isEmpty_iff.mp (and_1 (and_1 h1)), List.isEmpty_iff.mp (and_2 (and_1 h1))]
      exact ⟨m, apos, p2, rfl, eq_of_beq (and_1 (and_1 (and_2 h1))), and_2 (and_1 (and_2 h1)), and_2 (and_2 h1)⟩
    | _ => exact no h
  | _ => exact no h
theorem minC_ok {x : Str} {p pos : Pos} {es : List Expr} {d : D} (hA : Ro A) (hf : Fm env) (hev : ∀ e d, ev e = some d → Ev C A env Z θ σ (eval e env) d) (hk : env.kindOf x = some .globalImplicit) (hg : GlobIs C x (.builtin "min")) (hd : (x == ("__debug__" : Str)) = false) (h : minC ev es = some d) : Ev C A env Z θ σ (eval (.Call (.Name x p) es [] pos) env) d := by
  unfold minC at h
  cases h2 : two es with
  | some q =>
    rw [h2] at h
    refine gdE h fun hn h => ?_
    refine bndE h fun a h3 h => ?_
    refine bndE h fun b h4 h => ?_
    rw [two_some h2]
    exact op2_builtin hf hk hg hd (and_1 hn) (and_2 hn) (hev _ _ h3) (hev _ _ h4) (op_min2 hA h)
  | none =>
    rw [h2] at h
    refine bndE h fun e he h => ?_
    refine bndE h fun o ho h => ?_
    refine bndE h fun dd hdd h => ?_
    have h3 := hev _ _ hdd
    clear hdd
    obtain ⟨m, apos, p2, h4, hm, hb, hl⟩ := valsOf_ok ho
    rw [one_some he, h4]
    cases dd with
    | dict kvs =>
      obtain ⟨r, h5, rfl⟩ := mpd h
      exact ev_minvals hA hf hk hg hd hb hl h3 hm h5
    | _ => exact no h
theorem callD_ok (hA : Ro A) (hf : Fm env) (hT : TabOk C A T) {sc : Scope} (hs : env.scope = sc) {f : Expr} {es : List Expr} {pos : Pos} {d : D} (hev : ∀ e d, ev e = some d → Ev C A env Z θ σ (eval e env) d) (h : callD T sc ev σ f es = some d) : Ev C A env Z θ σ (eval (.Call f es [] pos) env) d := by
  refine bndE h fun g hg h => ?_
  obtain ⟨x, p, rfl, hk, hgl, hd, hlk⟩ := glF_ok hT hs hg
  clear hg
  cases g with
  | len =>
    refine bndE h fun e he h1 => ?_
    cases ha : accOf σ e with
    | some a =>
      rw [ha] at h1
      obtain ⟨n, h2, rfl⟩ := mpd h1
      obtain ⟨y, py, rfl, hz, hx⟩ := accOf_ok ha
      rw [one_some he]
      exact ev_acc_len hf hk hgl hd hz hx (hT.accLen _ _ _ h2)
    | none => rw [ha] at h1; exact op1C_ok (id := x) hf hev hk hgl hd h1 fun a => op_len
  | sum => exact op1C_ok (id := x) hf hev hk hgl hd h fun a => op_sum hA
  | all => exact op1C_ok (id := x) hf hev hk hgl hd h fun a => op_all hA
  | min => exact minC_ok hA hf hev hk hgl hd h
  | isinstance =>
    refine bndE h fun q hq h => ?_
    refine bndE h fun g hg h => ?_
    refine gdE h fun hn h => ?_
    refine bndE h fun a h1 h9 => ?_
    obtain ⟨y, p2, hy, hk2, hgl2, hd2, _⟩ := glF_ok hT hs hg
    rw [two_some hq, hy]
    cases g with
    | bool => exact ev_isBool hf hk hgl hd hk2 hgl2 hd2 (and_1 hn) (hev _ _ h1) h9
    | _ => exact nob (and_2 hn)
  | str =>
    refine bndE h fun e he h => ?_
    refine bndE h fun a ha h => ?_
    obtain ⟨n, h2, rfl⟩ := mpd h
    obtain ⟨y, py, rfl, hz, hx⟩ := accOf_ok ha
    rw [one_some he]
    exact ev_acc_str hf hk hgl hd hz hx (hT.accStr _ _ _ h2)
  | fn a =>
    refine gdE h fun hne h => ?_
    refine bndE h fun ds h1 h2 => ?_
    exact ev_call_fn hf hk hgl hd (evs_ok hev h1) (fun q => by rw [q] at hne; exact nob hne) (hT.fn x a ds d hlk h2) h2
  | _ => exact no h

theorem str_T {x : Str} (s : Shared) (v : Value) (r : Rep C (Yf C env Z θ) s.heap v (.str x)) : s.TypeIs v "str" ∧ ∀ b, v = .ref b → ∃ o, s.heap.get? b = some o ∧ o.dict = none := by
  obtain ⟨t, rfl⟩ := r.str_inv
  exact ⟨typeIs_str _ _ _, nofun⟩
theorem list_T {x : List D} (s : Shared) (v : Value) (r : Rep C (Yf C env Z θ) s.heap v (.list x)) : s.TypeIs v "list" ∧ ∀ b, v = .ref b → ∃ o, s.heap.get? b = some o ∧ o.dict = none := by
  obtain ⟨a, vs, rfl, _, hg, _⟩ := r.list_inv
  exact ⟨hg.isList.typeIs, fun b e => by cases e; obtain ⟨n, e⟩ := hg; exact ⟨_, e, rfl⟩⟩
theorem meth1 {o e : Expr} {name : Str} {apos pos : Pos} {a y d : D} {T id : String} (hb : plainBase o = true) (hl : (apos.endLine == pos.line) = true) (h0 : Ev C A env Z θ σ (eval o env) a) (h : Evs C A env Z θ σ [e] [y]) (pa : PlainAttrs T) (slot : Slot T name id) (hty : typeOf (.builtin id) = pure (.type "method_descriptor"))
    (hT : ∀ (s : Shared) v, Rep C (Yf C env Z θ) s.heap v a → s.TypeIs v T ∧ ∀ b, v = .ref b → ∃ o, s.heap.get? b = some o ∧ o.dict = none) (hop : Op2 C A (Yf C env Z θ) (fun v u => call (.builtin id) [v, u]) a y d) : Ev C A env Z θ σ (eval (.Call (.Attribute o name apos) [e] [] pos) env) d :=
  ev_method_builtin hb hl (show 1 < 30 by decide) nofun h0 h pa slot hty hT fun s v vs b r1 r2 => by
    obtain ⟨u, us, rfl, q1, q2⟩ := r2.cons_inv
    rw [q2.nil_inv]
    exact hop s v u r1 q1 b.yl b.jj
theorem evs_one {es : List Expr} {ds : List D} {y : D} (h : Evs C A env Z θ σ es ds) (hd : one ds = some y) : ∃ e, es = [e] ∧ Evs C A env Z θ σ [e] [y] := by
  rw [one_some hd] at h
  cases h with | cons a b c => cases c; exact ⟨_, rfl, .cons a b .nil⟩
theorem biff {α : Type} {b : Bool} {x y : Option α} {z : α} (h : (bif b then x else y) = some z) : (b = true ∧ x = some z) ∨ (b = false ∧ y = some z) := by
  cases b with
  | true => exact .inl ⟨rfl, h⟩
  | false => exact .inr ⟨rfl, h⟩
theorem methG_ok (hT : TabOk C A T) {o : Expr} {m : Str} {es : List Expr} {apos pos : Pos} {a d : D} {ds : List D} (hb : plainBase o = true) (hl : (apos.endLine == pos.line) = true) (hn : es.length < 30) (hne : es ≠ []) (ho : Ev C A env Z θ σ (eval o env) a) (hs : Evs C A env Z θ σ es ds) (h : methG T a m ds = some d) : Ev C A env Z θ σ (eval (.Call (.Attribute o m apos) es [] pos) env) d := by
  cases a with
  | str x =>
    refine bndE h fun y h1 h => ?_
    obtain ⟨e, rfl, hs1⟩ := evs_one hs h1
    rcases biff h with ⟨hm, h⟩ | ⟨_, h⟩
    · rw [eq_of_beq hm]; exact meth1 hb hl ho hs1 F.plainAttrs_str F.slot_str_join F.type_str_join str_T (op_join h)
    · rcases biff h with ⟨hm, h⟩ | ⟨_, h⟩
      · rw [eq_of_beq hm]; exact meth1 hb hl ho hs1 F.plainAttrs_str F.slot_str_split F.type_str_split str_T (op_split h)
      · rcases biff h with ⟨hm, h⟩ | ⟨_, h⟩
        · rw [eq_of_beq hm]; exact meth1 hb hl ho hs1 F.plainAttrs_str F.slot_str_index F.type_str_index str_T (op_sindex h)
        · exact no h
  | list x =>
    refine bndE h fun y h1 h => ?_
    obtain ⟨e, rfl, hs1⟩ := evs_one hs h1
    rcases biff h with ⟨hm, h⟩ | ⟨_, h⟩
    · rw [eq_of_beq hm]; exact meth1 hb hl ho hs1 F.plainAttrs_list F.slot_list_index F.type_list_index list_T (op_index h)
    · rcases biff h with ⟨hm, h⟩ | ⟨_, h⟩
      · rw [eq_of_beq hm]; exact meth1 hb hl ho hs1 F.plainAttrs_list F.slot_list_count F.type_list_count list_T (op_count h)
      · exact no h
  | obj t os => exact ev_meth hb hl hn hne ho hs (hT.meth _ _ _ _ _ h)
  | _ => exact no h
theorem methD_ok (hA : Ro A) (hf : Fm env) (hT : TabOk C A T) {o : Expr} {m : Str} {es : List Expr} {apos pos : Pos} {d : D} (hb : plainBase o = true) (hl : (apos.endLine == pos.line) = true) (hn : es.length < 30) (hev : ∀ e d, ev e = some d → Ev C A env Z θ σ (eval e env) d) (h : methD T ev σ o m es = some d) : Ev C A env Z θ σ (eval (.Call (.Attribute o m apos) es [] pos) env) d := by
  rcases biff h with ⟨hm, h⟩ | ⟨_, h⟩
  · refine bndE h fun x h1 h => ?_
    refine gdE h fun h2 h => ?_
    refine bndE h fun kvs h3 h => ?_
    refine bndE h3 fun sl h4 h3 => ?_
    refine bndE h fun q h5 h => ?_
    refine bndE h fun ds h6 h => ?_
    refine bndE h fun ns h7 h => ?_
    obtain ⟨r, h8, rfl⟩ := mpd h
    obtain ⟨p, rfl⟩ := nameOf_some h1
    have hs := evs_ok hev h6
    rw [asInts_some h7, two_some h8, two_some h5] at hs
    rw [two_some h5]
    exact ev_get hA hf (not_t h2) (slDct_some h3 ▸ h4) hl (eq_of_beq hm) hs
  · refine gdE h fun hne h => ?_
    refine bndE h fun a h1 h => ?_
    refine bndE h fun ds h2 h => ?_
    exact methG_ok hT hb hl hn (fun q => by rw [q] at hne; exact nob hne) (hev _ _ h1) (evs_ok hev h2) h
theorem sub_plain {e : Expr} (h : notSlice e = true) (o i : Value) : subscripted e false o i = operate [o, i] (getItem o i) := by
  cases e with
  | Slice _ _ _ _ => exact nob h
  | _ => rfl
theorem sliceOf_some {e : Expr} {q : Option Expr × Option Expr × Option Expr} (h : sliceOf e = some q) : ∃ p, e = .Slice q.1 q.2.1 q.2.2 p := by
  cases e with
  | Slice a b c p => rw [← so h]; exact ⟨p, rfl⟩
  | _ => exact no h
end

theorem ev_sound {C : Cfg} {A : Around} {T : Tab} (hA : Ro A) (hT : TabOk C A T) : ∀ n sc, EvSound C A sc (fun σ e => evE T n sc σ e) (fun σ e => evT (evE T n sc σ) 8 e) (fun σ e => evI T sc (evE T n sc σ) σ e) := by
  intro n
  have full : ∀ n sc, (∀ env, Fm env → env.scope = sc → ∀ Z θ σ e d, evE T n sc σ e = some d → Ev C A env Z θ σ (eval e env) d) → EvSound C A sc (fun σ e => evE T n sc σ e) (fun σ e => evT (evE T n sc σ) 8 e) (fun σ e => evI T sc (evE T n sc σ) σ e) := fun n sc h =>
    ⟨h, fun env hf hs Z θ σ e b hb => evT_ok hA (fun e d => h env hf hs Z θ σ e d) 8 hb, fun env hf hs Z θ σ Tp e ds hTp hb => evI_ok hA hf hT hs (fun a t => (hTp a t).1) (fun e d => h env hf hs Z θ σ e d) hb⟩
  induction n with
  | zero => exact fun sc => full 0 sc fun env hf hs Z θ σ e d h => no h
  | succ n ih =>
    intro sc
    refine full (n + 1) sc fun env hf hs Z θ σ e d h => ?_
    have hev : ∀ e d, evE T n sc σ e = some d → Ev C A env Z θ σ (eval e env) d := fun e d => (ih sc).ev env hf hs Z θ σ e d
    cases e with
    | Name x p =>
      refine gdE h fun h1 h => ?_
      refine bndE h fun sl h2 h => ?_
      exact ev_name hf.k (slVal_some h ▸ h2) (not_t h1)
    | Constant c k p =>
      cases c with
      | none => rw [← so h]; exact ev_none
      | bool b => rw [← so h]; exact ev_bool
      | int b => rw [← so h]; exact ev_int
      | str b => rw [← so h]; exact ev_str
      | _ => exact no h
    | BinOp l op r p =>
      refine bndE h fun a h1 h => ?_
      refine bndE h fun b h2 h => ?_
      exact ev_bin (hev _ _ h1) (hev _ _ h2) (op_bin hA h)
    | Compare l ops rs p =>
      refine bndE h fun op hop h => ?_
      refine bndE h fun r hr h => ?_
      refine gdE h fun hm h => ?_
      refine bndE h fun a h1 h => ?_
      refine bndE h fun b h2 h => ?_
      obtain ⟨c, h3, rfl⟩ := mpd h
      rw [one_some hop, one_some hr]
      exact ev_cmp (hev _ _ h1) (hev _ _ h2) (op_cmp hA h3) (not_t hm)
    | UnaryOp op x p =>
      cases op with
      | USub =>
        refine bndE h fun a h1 h => ?_
        obtain ⟨i, h2, rfl⟩ := mpd h
        exact ev_neg (asI_some h2 ▸ hev _ _ h1)
      | _ => exact no h
    | IfExp t a b p =>
      refine bndE h fun c h1 h => ?_
      refine ev_ifexp (evT_ok hA hev 8 h1) (fun q => ?_) fun q => ?_
      · subst q; exact hev _ _ h
      · subst q; exact hev _ _ h
    | List es p =>
      refine bndE h fun ds h1 h => ?_
      refine ifsE h fun hz h => ?_
      rw [← so h]
      exact ev_list (evs_ok hev h1) hz
    | Tuple es k p =>
      refine bndE h fun ds h1 h => ?_
      refine ifsE h fun hz h => ?_
      rw [← so h]
      exact ev_tuple (evs_ok hev h1) hz
    | Subscript v sl p =>
      refine bndE h fun a h1 h => ?_
      rcases biff h with ⟨hns, h⟩ | ⟨_, h⟩
      · refine bndE h fun b h2 h => ?_
        exact ev_sub (hev _ _ h1) (hev _ _ h2) (sub_plain hns) h
      · refine bndE h fun q h2 h => ?_
        refine bndE h fun x h3 h => ?_
        refine bndE h fun y h4 h => ?_
        refine bndE h fun z h5 h9 => ?_
        obtain ⟨p', rfl⟩ := sliceOf_some h2
        exact ev_slice (hev _ _ h1) (evPart_ok hev h3) (evPart_ok hev h4) (evPart_ok hev h5) h9
    | ListComp elt gens scope p =>
      cases gens with
      | nil => exact no h
      | cons g gs =>
        refine gdE h fun hc h => ?_
        refine bndE h fun its h1 h => ?_
        refine bndE h fun r h2 h => ?_
        refine ifsE h fun hz h => ?_
        rw [← so h]
        obtain ⟨tgt, iter, ifs, as⟩ := g
        have has : as = 0 := dec (and_2 hc)
        subst has
        obtain ⟨out, σ'⟩ := r
        subst hs
        exact ev_comp hA hf (compOk_of (and_1 (and_1 hc))) (ih _) (and_2 (and_1 hc)) (evI_ok hA hf hT rfl (fun a t => .inr (.inl t)) hev h1) h2 hz
    | Call f es kws p =>
      refine gdE h fun hk h => ?_
      rw [List.isEmpty_iff.mp hk]
      cases f with
      | Attribute o m apos =>
        refine gdE h fun hb h => ?_
        exact methD_ok hA hf hT (and_1 (and_1 hb)) (and_2 (and_1 hb)) (dec (and_2 hb)) hev h
      | _ => exact callD_ok hA hf hT hs hev h
    | Attribute o m p =>
      refine gdE h fun hb h => ?_
      refine bndE h fun a h1 h => ?_
      have ho := hev _ _ h1
      cases a with
      | obj t ds => exact ev_attr hb ho (hT.attr _ _ _ _ h)
      | _ => exact no h
    | _ => exact no h
end Mine

end

section
open PySem PySem.W PyProof.Rows PySem.Calls
set_option maxRecDepth 100000
set_option linter.unusedVariables false
namespace Mine

inductive FlD where
  | next | brk | cont
  | ret (d : D)
inductive FlRep (C : Cfg) (Y : Addr → Prop) (h : Heap) : Flow → FlD → Prop
  | next : FlRep C Y h .next .next
  | brk : FlRep C Y h .brk .brk
  | cont : FlRep C Y h .cont .cont
  | ret {v d} : Rep C Y h v d → FlRep C Y h (.ret v) (.ret d)

noncomputable def Stm (C : Cfg) (A : Around) (env : Env) (σ : St) (t : Sem Flow) (f : FlD) (σ' : St) : Prop :=
  ∀ Z θ s, Inv C env Z θ σ s → wpAny C.M A t (fun fl s' => ∃ θ', Inv C env Z θ' σ' s' ∧ Step C env θ θ' s s' ∧ FlRep C (Yf C env Z θ') s'.heap fl f) (fun _ _ => False) s

noncomputable def forD (step : St → Option (FlD × St)) (tgt : Expr) : List D → St → Option (FlD × St)
  | [], σ => some (.next, σ)
  | d :: r, σ => (bindD tgt d σ).bind fun σ1 => (step σ1).bind fun p => match p.1 with
    | .next => forD step tgt r p.2
    | .cont => forD step tgt r p.2
    | .brk => some (.next, p.2)
    | .ret d => some (.ret d, p.2)

section
variable {C : Cfg} {A : Around} {env : Env} {Z : Addr → Prop} {θ θ' : Str → List Addr} {σ σ' : St}
theorem Stm.use {t : Sem Flow} {f : FlD} (h : Stm C A env σ t f σ') {s : Shared} (i : Inv C env Z θ σ s) {Q : Flow → Shared → Prop} {E : Value → Shared → Prop}
    (hQ : ∀ fl θ' s', Inv C env Z θ' σ' s' → Step C env θ θ' s s' → FlRep C (Yf C env Z θ') s'.heap fl f → Q fl s') : wpAny C.M A t Q E s :=
  wpAny_mono (h Z θ s i) (fun fl s' ⟨θ', a, b, c⟩ => hQ fl θ' s' a b c) fun _ _ f => f.elim
theorem updL_mem : ∀ {l : List Str} {θ : Str → List Addr} {x : Str} {a : Addr}, a ∈ updL θ l x → a ∈ θ x
  | [], _, _, _, h => h
  | y :: r, θ, x, a, h => by
    have h1 := updL_mem (l := r) h
    by_cases hx : x = y
    · rw [show upd θ y [] x = [] from if_pos hx] at h1; cases h1
    · rwa [show upd θ y [] x = θ x from if_neg hx] at h1
theorem Step.of_names {s s' : Shared} {l : List Str} (g : Go C (Wls env l) s s') : Step C env θ (updL θ l) s s' :=
  ⟨g.mono fun a ⟨x, _, h⟩ => .inr h.wk, fun a ⟨x, h⟩ => .inl ⟨x, updL_mem h⟩⟩
theorem Step.turns {s s' : Shared} (st : Step C env θ θ' s s') {b : Addr} (h : s.heap.get? b ≠ none) (w : Wf env θ' b) : Wf env θ b := by
  rcases w with w | w | w
  · exact .inl w
  · exact .inr (.inl w)
  · rcases st.nw b w with w | w
    · exact .inr (.inr w)
    · exact absurd w h

theorem for_loop (hA : Ro A) (hf : Fm env) {tgt : Expr} {body : List Stmt} {step : St → Option (FlD × St)} (hstep : ∀ σ f σ', step σ = some (f, σ') → Stm C A env σ (execs body env) f σ') (hk : ∀ x ∈ tgtNames tgt, CanSt env x)
    {all : List D} {σ0 σe : St} {fe : FlD} (hall : forD step tgt all σ0 = some (fe, σe)) {s0 s : Shared} {I : Addr} {fp : List Addr} {P : Nat → Value → Prop} {S : Nat → Heap → Prop} {R : Result → Shared → Prop} {θ0 : Str → List Addr}
    (hI0 : s0.heap.get? I = none) (hzI : ¬ Z I) (i0 : Inv C env (ZI Z I) θ0 σ0 s) (st0 : Step C env θ0 θ0 s0 s) (it0 : ItAt C A (Yf C env (ZI Z I) θ0) (fun a => C.Tb a ∨ Wf env θ0 a) I fp P S all 0 s)
    (hR : ∀ fl θ' s', Inv C env Z θ' σe s' → Step C env θ0 θ' s0 s' → FlRep C (Yf C env Z θ') s'.heap fl fe → (fl = .next ∨ ∃ v, fl = .ret v) → R (.ok fl) s') :
    codeAny C.M A (.forLoop tgt (.ref I) body [] env) R s := by
  refine codeAny_forLoop_any (fun n s' => ∃ i θ σ, n = all.length + 1 - i ∧ i ≤ all.length ∧ forD step tgt (all.drop i) σ = some (fe, σe) ∧ Inv C env (ZI Z I) θ σ s' ∧ Step C env θ0 θ s0 s' ∧ ItAt C A (Yf C env (ZI Z I) θ) (fun a => C.Tb a ∨ Wf env θ a) I fp P S all i s') ?_ (all.length + 1)
    ⟨0, θ0, σ0, rfl, Nat.zero_le _, hall, i0, st0, it0⟩
  rintro n s1 ⟨i, θ1, σ1, rfl, hi, he, i1, st1, it1⟩
  have ne0 : ∀ b, s0.heap.get? b ≠ none → b ≠ I := fun b h q => h (q ▸ hI0)
  have zI := i1.zt I (.inr rfl)
  by_cases hlt : i < all.length
  · rw [List.drop_eq_getElem_cons hlt] at he
    obtain ⟨σ2, hb, he⟩ := bnd he
    obtain ⟨p, hp, he⟩ := bnd he
    refine it1.next hlt (.inl (.inr rfl)) fun v h' tk rv hk1 hI1 it2 => ?_
    have i2 : Inv C env (ZI Z I) θ1 σ1 { s1 with heap := h', toks := tk } := i1.turnZ (s' := { s1 with heap := h', toks := tk }) (.inr rfl) hk1 hI1 rfl (notCd_it (it1.ty _ _ it1.st)) (notCd_it (it2.ty _ _ it2.st))
    have st2 : Step C env θ0 θ1 s0 { s1 with heap := h', toks := tk } := by
      refine ⟨⟨st1.go.os, fun b o hb e => hk1 b o (ne0 b (ne_none e)) (st1.go.kp b o hb e), fun b hb q => ?_, st1.go.gb⟩, st1.nw⟩
      have := st1.go.al b hb
      cases e : s1.heap.get? b with
      | none => exact this e
      | some o =>
        have e2 := hk1 b o (ne0 b hb) e
        have q' : h'.get? b = none := q
        rw [e2] at q'; cases q'
    refine letOwned_ok (it2.ty _ _ it2.st) (assign_ok hA hf hk hb i2 rv fun s3 i3 g3 => ?_)
    have st3 := st2.trans (Step.of_names g3)
    refine (hstep σ2 p.1 p.2 hp).use i3 fun fl θ4 s4 i4 st4' fr => ?_
    have st4 := st3.trans st4'
    have stB := (Step.of_names (C := C) (env := env) (θ := θ1) g3).trans st4'
    -- the iterator, behind the turn
    have it4 : ItAt C A (Yf C env (ZI Z I) θ4) (fun a => C.Tb a ∨ Wf env θ4 a) I fp P S all (i + 1) s4 := by
      have fW : ∀ b ∈ fp, b ≠ I → ¬ (C.Tb b ∨ Wf env θ1 b) := it2.fT
      refine ⟨it2.W, it2.W.frame _ _ _ it2.st fun b hb o e => stB.go.kp b o (fun q => ?_) e, it2.fi, fun b hb hbI q => ?_, fun b hb => stB.go.al b (it2.fA b hb), it2.ty, fun j u d hP hd => (it2.it j u d hP hd).mono fun b o hb e => ⟨stB.go.kp b o (fun q => hb (.inr (q.imp id Wk.wf))) e, fun q => hb ?_⟩⟩
      · by_cases hbI : b = I
        · subst hbI; exact q.elim zI.1 fun k => zI.2 k.wf
        · exact fW b hb hbI (q.imp id Wk.wf)
      · rcases q with t | w
        · exact fW b hb hbI (.inl t)
        · exact fW b hb hbI (.inr (stB.turns (it2.fA b hb) w))
      · rcases q with z | t | w
        · exact .inl z
        · exact .inr (.inl t)
        · exact .inr (.inr (stB.turns (ne_none e) w))
    have less : ∀ b o, ¬ Yf C env (ZI Z I) θ4 b → s4.heap.get? b = some o → s4.heap.get? b = some o ∧ ¬ Yf C env Z θ4 b := fun b o hb e => ⟨e, fun q => hb (q.elim (fun z => .inl (.inl z)) .inr)⟩
    obtain ⟨pf, pσ⟩ := p
    cases fr with
    | next => exact ⟨all.length + 1 - (i + 1), by omega, i + 1, θ4, pσ, rfl, hlt, he, i4, st4, it4⟩
    | cont => exact ⟨all.length + 1 - (i + 1), by omega, i + 1, θ4, pσ, rfl, hlt, he, i4, st4, it4⟩
    | brk => cases he; exact hR .next θ4 s4 (i4.lessZ fun a z => .inl z) st4 .next (.inl rfl)
    | ret r => cases he; exact hR _ θ4 s4 (i4.lessZ fun a z => .inl z) st4 (.ret (r.mono less)) (.inr ⟨_, rfl⟩)
  · obtain rfl : i = all.length := by omega
    rw [List.drop_length] at he
    cases he
    refine it1.done fun h' tk hk1 => wpAny_pure ?_
    refine hR .next θ1 _ (i1.dropZ (s' := { s1 with heap := h', toks := tk }) hzI hk1 rfl (notCd_it (it1.ty _ _ it1.st))) ⟨⟨st1.go.os, fun b o hb e => hk1 b o (ne0 b (ne_none e)) (st1.go.kp b o hb e), fun b hb q => ?_, st1.go.gb⟩, st1.nw⟩ .next (.inl rfl)
    have := st1.go.al b hb
    cases e : s1.heap.get? b with
    | none => exact this e
    | some o =>
      have e2 := hk1 b o (ne0 b hb) e
      have q' : h'.get? b = none := q
      rw [e2] at q'; cases q'

theorem for_from (hA : Ro A) (hf : Fm env) {tgt : Expr} {body : List Stmt} {step : St → Option (FlD × St)} (hstep : ∀ σ f σ', step σ = some (f, σ') → Stm C A env σ (execs body env) f σ') (hk : ∀ x ∈ tgtNames tgt, CanSt env x)
    {all : List D} {σ0 σe : St} {fe : FlD} (hall : forD step tgt all σ0 = some (fe, σe)) {s1 : Shared} {x : Value} {θ0 : Str → List Addr} (i : Inv C env Z θ0 σ0 s1) (hx : Itb C A (Yf C env Z θ0) (fun a => C.Tb a ∨ Wf env θ0 a) x all s1)
    {Q : Flow → Shared → Prop} {E : Value → Shared → Prop} (hQ : ∀ fl θ' s', Inv C env Z θ' σe s' → Step C env θ0 θ' s1 s' → FlRep C (Yf C env Z θ') s'.heap fl fe → Q fl s') :
    wpAny C.M A (pyIter x) (fun it s₂ => codeAny C.M A (Code.forLoop tgt it body [] env) (fun r s' => match r with | .ok f => Q f s' | .error e => cameBackBy C.M A env E e s') s₂) E s1 := by
  refine hx _ _ fun I s2 fp P S k2 hI hI' it => ?_
  rw [yf_zi] at it
  exact for_loop hA hf hstep hk hall hI (fun z => i.yl I (.inl z) hI) (i.addZ (N := fun a => a = I) k2 (fun a q => q ▸ hI) (fun a q => q ▸ hI') fun a q o e => notCd_it (it.ty _ _ it.st) o (q ▸ e)) (k2.step i.jj) it fun fl θ' s' i' st' fr _ => hQ fl θ' s' i' st' fr
theorem stm_for (hA : Ro A) (hf : Fm env) {tgt iter : Expr} {body : List Stmt} {pos : Pos} {step : St → Option (FlD × St)} (hstep : ∀ σ f σ', step σ = some (f, σ') → Stm C A env σ (execs body env) f σ') (hk : ∀ x ∈ tgtNames tgt, CanSt env x) (hsrc : plainSrc iter = true)
    {all : List D} {fe : FlD} (hit : ∀ Z θ, EvI C A env Z θ σ (fun a => C.Tb a ∨ Wf env θ a) iter all) (hall : forD step tgt all σ = some (fe, σ')) : Stm C A env σ (exec (.For tgt iter body [] pos) env) fe σ' := fun Z θ s i => by
  refine wpAny_For (wpAny_mono (hit Z θ s i) (fun x s1 h => ?_) fun _ _ f => f.elim) (foldedSet_plain hsrc)
  obtain ⟨k1, hx⟩ := h
  exact for_from hA hf hstep hk hall (i.next k1) hx fun fl θ' s' i' st' fr => ⟨θ', i', (k1.step i.jj).trans st', fr⟩
end
end Mine

end

section
open PySem PySem.W PyProof.Rows PySem.Calls
set_option maxRecDepth 100000
set_option linter.unusedVariables false
namespace Mine

noncomputable def storeKv (kvs : List (Int × Int)) (k v : Int) : List (Int × Int) :=
  if (kvs.any fun p => decide (p.1 = k)) = true then kvs.map (fun p => if p.1 = k then (p.1, v) else p) else kvs ++ [(k, v)]

section
variable {C : Cfg} {A : Around} {env : Env} {Z : Addr → Prop} {θ θ' : Str → List Addr} {σ σ' : St}

theorem canSt_of (hf : Fm env) {x : Str} (h : env.kindOf x = some .local ∨ env.kindOf x = some .cell) : CanSt env x := h.elim .inl fun h => .inr ⟨h, hf.c x (.inl h)⟩

theorem stm_assign {x : Str} {p pos : Pos} {e : Expr} {d : D} (hf : Fm env) (hk : CanSt env x) (hs : swapsWith e (some (.Name x p)) pos.line env = pure false) (h : ∀ Z θ, Ev C A env Z θ σ (eval e env) d) : Stm C A env σ (exec (.Assign [.Name x p] e pos) env) .next (setS x (.val d) σ) := fun Z θ s i => by
  refine wpAny_Assign_Name ((h Z θ).use i fun v s1 k1 i1 r1 => Inv.store_val hf hk i1 r1 fun s2 i2 g2 => ⟨_, i2, (k1.step i.jj).trans (Step.of_upd g2 fun a h => nomatch h), .next⟩) hs

theorem stm_own {x : Str} {p pos : Pos} {e : Expr} {sl : Sl} (hf : Fm env) (hk : CanSt env x) (hs : swapsWith e (some (.Name x p)) pos.line env = pure false)
    (h : ∀ Z θ s, Inv C env Z θ σ s → wpAny C.M A (eval e env) (fun v s1 => Kp C s s1 ∧ ∃ as, (∀ a ∈ as, s.heap.get? a = none) ∧ (∀ a ∈ as, s1.heap.get? a ≠ none) ∧ CRep C (Yf C env (fun a => Z a ∨ a ∈ as) θ) s1.heap v sl as) (fun _ _ => False) s) :
    Stm C A env σ (exec (.Assign [.Name x p] e pos) env) .next (setS x sl σ) := fun Z θ s i => by
  refine wpAny_Assign_Name (wpAny_mono (h Z θ s i) (fun v s1 q => ?_) fun _ _ f => f.elim) hs
  obtain ⟨k1, as, hn, hn1, hc⟩ := q
  have i1 := i.addZ (N := fun a => a ∈ as) k1 hn hn1 hc.notCd
  refine Inv.store hf hk i1 (fun a ha z => i.yl a (.inl z) (hn a ha)) hc fun s2 i2 g2 => ⟨_, i2, ⟨(k1.go i.jj (T := fun a => C.Tb a ∨ Wk env θ a) fun a t => .inl t).trans g2 fun a o e w => .inr w.wk, fun a ⟨y, h⟩ => ?_⟩, .next⟩
  by_cases hy : y = x
  · rw [show upd θ x as y = as from if_pos hy] at h; exact .inr (hn a h)
  · rw [show upd θ x as y = θ y from if_neg hy] at h; exact .inl ⟨y, h⟩
theorem stm_own_list {x : Str} {p pos p2 : Pos} (hf : Fm env) (hk : CanSt env x) : Stm C A env σ (exec (.Assign [.Name x p] (.List [] p2) pos) env) .next (setS x (.lst []) σ) :=
  stm_own hf hk rfl fun Z θ s i => wpAny_List (spliced_none ⟨Nat.zero_le _, .push, [s.heap.objs.size], fun a ha => by rw [List.mem_singleton.mp ha]; exact none_of_size (Nat.le_refl _), fun a ha => by rw [List.mem_singleton.mp ha]; exact ne_none (Heap.get?_push_size _ rfl), .lst ⟨0, Heap.get?_push_size _ rfl⟩ .nil⟩)
theorem stm_own_dict {x : Str} {p pos p2 : Pos} (hf : Fm env) (hk : CanSt env x) : Stm C A env σ (exec (.Assign [.Name x p] (.Dict [] [] p2) pos) env) .next (setS x (.dct []) σ) :=
  stm_own hf hk rfl fun Z θ s i => by
    refine wpAny_Dict_empty ⟨.push, [s.heap.objs.size], fun a ha => by rw [List.mem_singleton.mp ha]; exact none_of_size (Nat.le_refl _), fun a ha => by rw [List.mem_singleton.mp ha]; exact ne_none (Heap.get?_push_size _ rfl), .dct ?_ (Heap.DictOf.new _) .nil⟩
    -- a new address is no table
    obtain ⟨o, ho⟩ := C.gs
    have h2 : cStatics < s.heap.objs.size := Heap.lt_size (i.kp _ _ ho)
    have : s.heap.objs.size ≠ sysModules := fun q => by
      rw [q] at h2; exact absurd h2 (by decide)
    exact beq_eq_false_iff_ne.mpr this

theorem Inv.freeze {s : Shared} {x : Str} {sl : Sl} {d : D} (i : Inv C env Z θ σ s) (hx : σ.lookup x = some sl) (hd : (∃ ds, sl = .lst ds ∧ d = .list ds) ∨ ∃ kvs, sl = .dct kvs ∧ d = .dict kvs) :
    Inv C env Z (upd θ x []) (setS x (.val d) σ) s := by
  have less : ∀ a, Yf C env Z (upd θ x []) a → Yf C env Z θ a := fun a y => y.less
  have hw : ∀ a, Wf env (upd θ x []) a → Wf env θ a := fun a w => by
    rcases w.upd with w | m
    · exact w
    · cases m
  have sub : ∀ y a, a ∈ upd θ x [] y → a ∈ θ y := fun y a h => updL_mem (l := [x]) h
  refine ⟨i.kp, i.jj, i.gb, fun a y => i.yl a (less a y), fun a y => i.yg a (less a y), fun a z => ⟨(i.zt a z).1, fun w => (i.zt a z).2 (hw a w)⟩, fun a t w => i.tw a t (hw a w), i.ns, i.cl, i.cn, i.ci, fun y a ha => i.ol y a (sub y a ha), fun y z hyz a ha hb => i.oo y z hyz a (sub y a ha) (sub z a hb), fun y sl' e => ?_, fun a y => i.yc a (less a y)⟩
  rw [lookup_setS] at e
  by_cases hy : y = x
  · subst hy
    rw [if_pos rfl] at e
    rw [← so e]
    have r := i.vs y sl hx
    rw [show upd θ y [] y = [] from if_pos rfl]
    generalize hθ : θ y = as at r
    have nin : ∀ a, a ∈ as → ¬ Yf C env Z (upd θ y []) a := fun a ha q => by
      rw [← hθ] at ha
      rcases q with z | t | w
      · exact (i.zt a z).2 (.inr (.inr ⟨y, ha⟩))
      · exact i.tw a t (.inr (.inr ⟨y, ha⟩))
      · rcases w with w | ⟨z, w⟩ | ⟨z, w⟩
        · exact (i.ol y a ha).1 w
        · exact (i.ol y a ha).2 z a w rfl
        · by_cases hz : z = y
          · subst hz; rw [show upd θ z [] z = [] from if_pos rfl] at w; cases w
          · exact i.oo y z (Ne.symm hz) a ha (sub z a w)
    cases r with
    | un => rcases hd with ⟨_, h, _⟩ | ⟨_, h, _⟩ <;> cases h
    | var hv hc =>
      refine .var hv (.val ?_)
      rcases hd with ⟨ds, rfl, rfl⟩ | ⟨kvs, rfl, rfl⟩
      · cases hc with | lst hl hr => exact .list (nin _ (.head _)) hl (hr.mono fun b o hb e => ⟨e, fun q => hb (less b q)⟩)
      · cases hc with | dct hsm hg hkv => exact .dict (nin _ (.head _)) hsm hg hkv
  · rw [if_neg hy] at e
    rw [show upd θ x [] y = θ y from if_neg hy]
    have r := i.vs y sl' e
    generalize θ y = as at r
    cases r with
    | un => exact .un
    | var hv hc => exact .var hv (hc.mono (fun b o hb e => ⟨e, fun q => hb (less b q)⟩) fun _ _ _ e => e)
theorem Step.of_freeze {s : Shared} {x : Str} : Step C env θ (upd θ x []) s s := ⟨.refl s, fun a ⟨y, h⟩ => .inl ⟨y, updL_mem (l := [x]) h⟩⟩

theorem stm_move {x y : Str} {p p2 pos : Pos} {sl : Sl} {d : D} (hf : Fm env) (hd1 : (y == ("__debug__" : Str)) = false) (hk : CanSt env x) (hy : σ.lookup y = some sl) (hd : (∃ ds, sl = .lst ds ∧ d = .list ds) ∨ ∃ kvs, sl = .dct kvs ∧ d = .dict kvs) :
    Stm C A env σ (exec (.Assign [.Name x p] (.Name y p2) pos) env) .next (setS x (.val d) (setS y (.val d) σ)) := fun Z θ s i => by
  have i1 := i.freeze hy hd
  refine wpAny_Assign_Name ((ev_name hf.k (by rw [lookup_setS, if_pos rfl]) hd1 : Ev C A env Z _ _ _ d).use i1 fun v s1 k1 i1 r1 => Inv.store_val hf hk i1 r1 fun s2 i2 g2 => ⟨_, i2, (Step.of_freeze.trans (k1.step i.jj)).trans (Step.of_upd g2 fun a h => nomatch h), .next⟩) rfl
theorem stm_return_own {y : Str} {p2 pos : Pos} {sl : Sl} {d : D} (hf : Fm env) (hd1 : (y == ("__debug__" : Str)) = false) (hy : σ.lookup y = some sl) (hd : (∃ ds, sl = .lst ds ∧ d = .list ds) ∨ ∃ kvs, sl = .dct kvs ∧ d = .dict kvs) :
    Stm C A env σ (exec (.Return (some (.Name y p2)) pos) env) (.ret d) (setS y (.val d) σ) := fun Z θ s i => by
  have i1 := i.freeze hy hd
  show wpAny _ _ (standAt pos >>= fun _ => eval (.Name y p2) env >>= fun v => pure (Flow.ret v)) _ _ s
  refine wpAny_bind (wpAny_standAt (wpAny_bind ((ev_name hf.k (by rw [lookup_setS, if_pos rfl]) hd1 : Ev C A env Z _ _ _ d).use i1 fun v s1 k1 i1 r1 => wpAny_pure ⟨_, i1, Step.of_freeze.trans (k1.step i.jj), .ret r1⟩)))
theorem stm_return {e : Expr} {pos : Pos} {d : D} (h : ∀ Z θ, Ev C A env Z θ σ (eval e env) d) : Stm C A env σ (exec (.Return (some e) pos) env) (.ret d) σ := fun Z θ s i => by
  show wpAny _ _ (standAt pos >>= fun _ => eval e env >>= fun v => pure (Flow.ret v)) _ _ s
  exact wpAny_bind (wpAny_standAt (wpAny_bind ((h Z θ).use i fun v s1 k1 i1 r1 => wpAny_pure ⟨_, i1, k1.step i.jj, .ret r1⟩)))
theorem stm_if {t : Expr} {b o : List Stmt} {pos : Pos} {c : Bool} {f : FlD} (h : ∀ Z θ, Tv C A env Z θ σ (isTrue t env (eval t env)) c) (hb : Stm C A env σ (execs (bif c then b else o) env) f σ') : Stm C A env σ (exec (.If t b o pos) env) f σ' := fun Z θ s i => by
  refine wpAny_If ((h Z θ).use i fun s1 k1 i1 => ?_)
  cases c with
  | true => exact hb.use i1 fun fl θ' s2 i2 st fr => ⟨θ', i2, (k1.step i.jj).trans st, fr⟩
  | false => exact hb.use i1 fun fl θ' s2 i2 st fr => ⟨θ', i2, (k1.step i.jj).trans st, fr⟩
theorem stm_nil : Stm C A env σ (execs [] env) .next σ := fun Z θ s i => wpAny_pure ⟨θ, i, .refl s, .next⟩
theorem stm_cons_next {a : Stmt} {r : List Stmt} {σ1 : St} {f : FlD} (h1 : Stm C A env σ (exec a env) .next σ1) (h2 : Stm C A env σ1 (execs r env) f σ') : Stm C A env σ (execs (a :: r) env) f σ' := fun Z θ s i => by
  refine wpAny_execs_cons (h1.use i fun fl θ1 s1 i1 st1 fr => ?_)
  cases fr
  exact h2.use i1 fun fl θ2 s2 i2 st2 fr => ⟨θ2, i2, st1.trans st2, fr⟩
theorem stm_cons_leave {a : Stmt} {r : List Stmt} {f : FlD} (hf : f ≠ .next) (h1 : Stm C A env σ (exec a env) f σ') : Stm C A env σ (execs (a :: r) env) f σ' := fun Z θ s i => by
  refine wpAny_execs_cons (h1.use i fun fl θ1 s1 i1 st1 fr => ?_)
  cases fr with
  | next => exact absurd rfl hf
  | brk => exact ⟨_, i1, st1, .brk⟩
  | cont => exact ⟨_, i1, st1, .cont⟩
  | ret r => exact ⟨_, i1, st1, .ret r⟩
theorem stm_aug {x : Str} {p pos : Pos} {e : Expr} {a b : Int} (hf : Fm env) (hk : CanSt env x) (hx : σ.lookup x = some (.val (.int a))) (h : ∀ Z θ, Ev C A env Z θ σ (eval e env) (.int b)) : Stm C A env σ (exec (.AugAssign (.Name x p) .Add e pos) env) .next (setS x (.val (.int (a + b))) σ) := fun Z θ s i => by
  have r := i.vs x _ hx
  refine wpAny_AugAssign_Name ?_
  generalize θ x = as at r
  cases r with
  | var hv hc =>
    cases hc with | val hr =>
    obtain ⟨t, rfl⟩ := hr.int_inv
    refine load_var hf.k hv ((h Z θ).use i fun u s2 k2 i2 r2 => ?_)
    obtain ⟨t2, rfl⟩ := r2.int_inv
    have i3 := i2.next (s' := { s2 with toks := s2.toks + 1 }) .tok
    exact wpAny_iadd_int (Inv.store_val hf hk i3 (.int _ _) fun s4 i4 g4 => ⟨_, i4, ((k2.trans (.tok (tk := s2.toks + 1))).step i.jj).trans (Step.of_upd g4 fun a h => nomatch h), .next⟩)

theorem Inv.turnOwn {s s' : Shared} {x : Str} {sl' : Sl} {v : Value} (i : Inv C env Z θ σ s) (hv : VarAt env s.heap x v) (hk : KeepP (fun a => C.Tb a ∨ a ∈ θ x) s.heap s'.heap) (hc : CRep C (Yf C env Z θ) s'.heap v sl' (θ x)) (jj : C.J s'.heap) (gb : AllBare s'.gens) : Inv C env Z θ (setS x sl' σ) s' := by
  have al : ∀ b, s.heap.get? b ≠ none → s'.heap.get? b ≠ none := fun b hb q => by
    by_cases h : C.Tb b ∨ b ∈ θ x
    · rcases h with h | h
      · obtain ⟨p, hp, rfl⟩ := List.mem_map.mp h
        obtain ⟨o, ho, _⟩ := jj p hp
        rw [ho] at q; cases q
      · exact hc.there b h q
    · cases e : s.heap.get? b with
      | none => exact hb e
      | some o => rw [hk b o h e] at q; cases q
  have hl : ∀ o, s.heap.get? env.locals = some o → s'.heap.get? env.locals = some o := fun o e => hk _ o (fun q => q.elim (fun t => i.tw _ t (.inl rfl)) fun m => (i.ol x _ m).1 rfl) e
  have hcell : ∀ y c, env.cells.lookup y = some c → ∀ o, s.heap.get? c = some o → s'.heap.get? c = some o := fun y c hc o e => hk _ o (fun q => q.elim (fun t => i.tw _ t (.inr (.inl ⟨y, hc⟩))) fun m => (i.ol x _ m).2 y c hc rfl) e
  have hY : ∀ b o, ¬ Yf C env Z θ b → s.heap.get? b = some o → s'.heap.get? b = some o ∧ ¬ Yf C env Z θ b := fun b o hb e => ⟨hk b o (fun q => hb (q.elim (fun t => .inr (.inl t)) fun m => .inr (.inr (.inr (.inr ⟨x, m⟩))))) e, hb⟩
  refine ⟨fun b o e => hk b o (fun q => ?_) (i.kp b o e), jj, gb, fun a y => al a (i.yl a y), i.yg, i.zt, i.tw, ?_, fun y c hc => ?_, i.cn, i.ci, i.ol, i.oo, fun y sl2 e => ?_, fun a y o e => ?_⟩
  · have : C.g.get? b = none := q.elim Cfg.tb_none fun m => i.yg b (.inr (.inr (.inr (.inr ⟨x, m⟩))))
    rw [this] at e; cases e
  · obtain ⟨m, hm⟩ := i.ns; exact ⟨m, Ns.at1 hm hl⟩
  · obtain ⟨v, hv⟩ := i.cl y c hc; exact ⟨v, IsCell.at1 hv (hcell y c hc)⟩
  · rw [lookup_setS] at e
    by_cases hy : y = x
    · subst hy
      rw [if_pos rfl] at e
      rw [← so e]
      exact .var (hv.at1 hl (hcell y)) hc
    · rw [if_neg hy] at e
      have r := i.vs y sl2 e
      have own : ∀ a ∈ θ y, ∀ o, s.heap.get? a = some o → s'.heap.get? a = some o := fun a ha o e => hk a o (fun q => q.elim (fun t => i.tw a t (.inr (.inr ⟨y, ha⟩))) fun m => i.oo y x hy a ha m) e
      generalize θ y = as at r own
      cases r with
      | un => exact .un
      | var hv hc => exact .var (hv.at1 hl (hcell y)) (hc.mono hY own)
  · by_cases h : C.Tb a ∨ a ∈ θ x
    · rcases h with h | h
      · exact jj.notCd h o e
      · exact hc.notCd a h o e
    · cases q : s.heap.get? a with
      | none => exact absurd q (i.yl a y)
      | some o' => rw [hk a o' h q] at e; cases e; exact i.yc a y _ q
theorem VarAt.inj {h : Heap} {x : Str} {v u : Value} (a : VarAt env h x v) (b : VarAt env h x u) : v = u := by
  rcases a with ⟨k, m, hn, hm⟩ | ⟨k, c, hc, hx⟩ <;> rcases b with ⟨k', m', hn', hm'⟩ | ⟨k', c', hc', hx'⟩
  · obtain ⟨o, es, ep, ho, hd, _, hf1⟩ := hn
    obtain ⟨o', es', ep', ho', hd', _, hf2⟩ := hn'
    rw [ho] at ho'; cases ho'
    rw [hd] at hd'; cases hd'
    have e := (hf1 x).symm.trans (hf2 x)
    rw [hm, hm'] at e; cases e; rfl
  · rw [k] at k'; rcases k' with q | ⟨q, _⟩ <;> cases q
  · rw [k'] at k; rcases k with q | ⟨q, _⟩ <;> cases q
  · rw [hc] at hc'; cases hc'
    obtain ⟨o, ho, hd⟩ := hx
    obtain ⟨o', ho', hd'⟩ := hx'
    rw [ho] at ho'; cases ho'
    rw [hd] at hd'; cases hd'; rfl
end
end Mine

end

section
open PySem PySem.W PyProof.Rows PySem.Calls
set_option maxRecDepth 100000
set_option linter.unusedVariables false
namespace Mine

section
variable {C : Cfg} {A : Around} {env : Env} {Z : Addr → Prop} {θ θ' : Str → List Addr} {σ σ' : St}
theorem not_interactive (hf : Fm env) : interactive env = false := by unfold interactive; rw [hf.k]; rfl
theorem step_own {s s' : Shared} {x : Str} (i : Inv C env Z θ σ s) (os : s'.os = s.os) (gb : AllBare s.gens → AllBare s'.gens) (hk : KeepP (fun a => C.Tb a ∨ a ∈ θ x) s.heap s'.heap) (hal : ∀ a, C.Tb a ∨ a ∈ θ x → s'.heap.get? a ≠ none) : Step C env θ θ s s' := by
  refine ⟨⟨os, fun b o hb e => hk b o (fun q => hb (q.imp id fun m => .inr (.inr ⟨x, m⟩))) e, fun b hb q => ?_, gb⟩, fun a h => .inl h⟩
  by_cases h : C.Tb b ∨ b ∈ θ x
  · exact hal b h q
  · cases e : s.heap.get? b with
    | none => exact hb e
    | some o => rw [hk b o h e] at q; cases q
theorem tb_there {h : Heap} (j : C.J h) {a : Addr} (t : C.Tb a) : h.get? a ≠ none := by
  obtain ⟨p, hp, rfl⟩ := List.mem_map.mp t
  obtain ⟨o, ho, _⟩ := j p hp
  exact ne_none ho

theorem CRep.lst_inv {C : Cfg} {Y : Addr → Prop} {h : Heap} {v : Value} {ds : List D} {as : List Addr} (r : CRep C Y h v (.lst ds) as) : ∃ l vs, v = .ref l ∧ as = [l] ∧ h.PlainList l vs.toArray ∧ RepL C Y h vs ds := by cases r with | lst a b => exact ⟨_, _, rfl, rfl, a, b⟩
theorem stm_append {x m : Str} {p apos p2 pos : Pos} {e : Expr} {ds : List D} {d : D} (hf : Fm env) (hd : (x == ("__debug__" : Str)) = false) (hl : (apos.endLine == p2.line) = true) (hm : m = Str.ofString "append") (hx : σ.lookup x = some (.lst ds)) (hz : ds.length ≤ 1000000)
    (hn : noStar e = true) (h : ∀ Z θ, Ev C A env Z θ σ (eval e env) d) : Stm C A env σ (exec (.Expr (.Call (.Attribute (.Name x p) m apos) [e] [] p2) pos) env) .next (setS x (.lst (ds ++ [d])) σ) := fun Z θ s i => by
  subst hm
  refine wpAny_Expr_any ?_ (not_interactive hf) rfl
  refine method_ rfl hl (to_and hn rfl) (show 1 < 30 by decide) (load_own hf i hd hx nofun fun v hv hc => ?_)
  obtain ⟨l, vs, rfl, hθ, hg, hr⟩ := hc.lst_inv
  refine getMethod_builtin hg.isList.typeIs F.plainAttrs_list F.slot_list_append F.type_list_append (fun a e => ?_) ?_
  · cases e; obtain ⟨n, e⟩ := hg; exact ⟨_, e, rfl⟩
  · refine callWith_method1 (spliced_more ((h Z θ).use i fun u s1 k1 i1 r1 => spliced_none ?_) (starEach_cons hn)) (starEach_cons hn) rfl
    have hlx : l ∈ θ x := by rw [hθ]; exact .head _
    have hlY : Yf C env Z θ l := .inr (.inr (.inr (.inr ⟨x, hlx⟩)))
    have hg1 : s1.heap.PlainList l vs.toArray := IsList.at1 hg fun o e => k1.kp _ o (fun t => i.tw _ t (.inr (.inr ⟨x, hlx⟩))) e
    have hlen := hr.length
    refine wpAny_list_append_plain (hsz := by rw [List.size_toArray, hlen]; exact Nat.le_trans hz (by decide)) hg1 fun h' hl' hs' => ?_
    have hk : ∀ b o, b ≠ l → s1.heap.get? b = some o → h'.get? b = some o := fun b o hb e => (hs'.2 b hb).trans e
    have up : ∀ b o, ¬ Yf C env Z θ b → s1.heap.get? b = some o → h'.get? b = some o ∧ ¬ Yf C env Z θ b := fun b o hb e => ⟨hk b o (fun q => hb (q ▸ hlY)) e, hb⟩
    have kk : KeepP (fun a => C.Tb a ∨ a ∈ θ x) s1.heap h' := fun b o hb e => hk b o (fun q => hb (.inr (q ▸ hlx))) e
    have jj : C.J h' := i1.jj.keepP (T := fun a => a = l) (fun a q t => i.tw a t (.inr (.inr ⟨x, q ▸ hlx⟩))) (fun a o q e => notCd_list hg1 o (q ▸ e)) fun b o hb e => hk b o hb e
    have hc' : CRep C (Yf C env Z θ) h' (.ref l) (.lst (ds ++ [d])) (θ x) := by
      rw [hθ]
      rw [List.push_toArray] at hl'
      exact .lst (vs := vs ++ [u]) hl' (((k1.repL hr).mono up).append (.cons (r1.mono up) .nil))
    have hv1 : VarAt env s1.heap x (.ref l) := hv.keep (θ := θ) i.tw k1.kp
    exact ⟨θ, i1.turnOwn (s' := { s1 with heap := h' }) hv1 kk hc' jj i1.gb, (k1.step i.jj).trans (step_own i1 rfl id kk fun a q => q.elim (tb_there jj) fun m => hc'.there a m), .next⟩

theorem kvIs_stored {kvs : List (Int × Value)} {ds : List (Int × Int)} (h : KvIs kvs ds) (k v : Int) (t : Tok) : KvIs (stored kvs k (.int v t)) (storeKv ds k v) := by
  have hany : (kvs.any fun kv => decide (kv.1 = k)) = (ds.any fun p => decide (p.1 = k)) := by
    induction h with
    | nil => rfl
    | cons k' v' t' hl ih => rw [List.any_cons, List.any_cons, ih]
  have hmap : KvIs (kvs.map fun kv => if kv.1 = k then (kv.1, Value.int v t) else kv) (ds.map fun p => if p.1 = k then (p.1, v) else p) := by
    clear hany
    induction h with
    | nil => exact .nil
    | cons k' v' t' hl ih =>
      rw [List.map_cons, List.map_cons]
      by_cases hk : k' = k
      · rw [if_pos hk, if_pos hk]; exact .cons _ _ _ ih
      · rw [if_neg hk, if_neg hk]; exact .cons _ _ _ ih
  have happ : KvIs (kvs ++ [(k, Value.int v t)]) (ds ++ [(k, v)]) := by
    clear hany hmap
    induction h with
    | nil => exact .cons _ _ _ .nil
    | cons k' v' t' hl ih => exact .cons _ _ _ ih
  unfold stored storeKv
  rw [hany]
  by_cases hc : (ds.any fun p => decide (p.1 = k)) = true
  · rw [if_pos hc, if_pos hc]; exact hmap
  · rw [if_neg hc, if_neg hc]; exact happ
theorem stm_store {x : Str} {p p2 pos : Pos} {e1 e2 : Expr} {kvs : List (Int × Int)} {k v : Int} (hf : Fm env) (hd : (x == ("__debug__" : Str)) = false) (hx : σ.lookup x = some (.dct kvs)) (hz : kvs.length ≤ 1000000) (hs : swapsWith e2 (some (.Subscript (.Name x p) e1 p2)) pos.line env = pure false)
    (h2 : ∀ Z θ, Ev C A env Z θ σ (eval e2 env) (.int v)) (h1 : ∀ Z θ, Ev C A env Z θ σ (eval e1 env) (.int k)) : Stm C A env σ (exec (.Assign [.Subscript (.Name x p) e1 p2] e2 pos) env) .next (setS x (.dct (storeKv kvs k v)) σ) := fun Z θ s i => by
  refine wpAny_Assign_Subscript ((h2 Z θ).use i fun u s1 k1 i1 r1 => load_own hf i1 hd hx nofun fun o hv hc => (h1 Z θ).use i1 fun w s2 k2 i2 r2 => ?_) hs
  obtain ⟨t1, rfl⟩ := r1.int_inv
  obtain ⟨t2, rfl⟩ := r2.int_inv
  obtain ⟨l, ks, rfl, hθ, hsm, hg, hkv⟩ := hc.dct_inv
  have hlx : l ∈ θ x := by rw [hθ]; exact .head _
  have hlY : Yf C env Z θ l := .inr (.inr (.inr (.inr ⟨x, hlx⟩)))
  have hg2 : s2.heap.DictOf C.ik l ks := DictOf.at1 hg fun o e => k2.kp _ o (fun t => i.tw _ t (.inr (.inr ⟨x, hlx⟩))) e
  have hlen := kvIs_length hkv
  refine wpAny_setItem_pairs (k := k) (show C.ik.is k (.int k t2) = true from is_int (t := t2)) hg2 (fun h' hd' hs' => ?_) (by rw [hlen]; exact Nat.le_trans hz (show 1000000 ≤ sizeLine by decide))
  have hk : ∀ b o, b ≠ l → s2.heap.get? b = some o → h'.get? b = some o := fun b o hb e => (hs'.2 b hb).trans e
  have kk : KeepP (fun a => C.Tb a ∨ a ∈ θ x) s2.heap h' := fun b o hb e => hk b o (fun q => hb (.inr (q ▸ hlx))) e
  have jj : C.J h' := i2.jj.keepP (T := fun a => a = l) (fun a q t => i.tw a t (.inr (.inr ⟨x, q ▸ hlx⟩))) (fun a o q e => notCd_dict hg2 o (q ▸ e)) fun b o hb e => hk b o hb e
  have hc' : CRep C (Yf C env Z θ) h' (.ref l) (.dct (storeKv kvs k v)) (θ x) := by
    rw [hθ]
    exact .dct hsm hd' (kvIs_stored hkv k v t1)
  have hv2 : VarAt env s2.heap x (.ref l) := hv.keep (θ := θ) i.tw k2.kp
  exact ⟨θ, i2.turnOwn (s' := { s2 with heap := h', toks := s2.toks + 1 }) hv2 kk hc' jj i2.gb, ((k1.trans k2).step i.jj).trans (step_own i2 rfl id kk fun a q => q.elim (tb_there jj) fun m => hc'.there a m), .next⟩

noncomputable def EvX (C : Cfg) (A : Around) (env : Env) (σ : St) (t : Sem Value) (d : D) (σ' : St) : Prop :=
  ∀ Z θ s, Inv C env Z θ σ s → wpAny C.M A t (fun v s' => Inv C env Z θ σ' s' ∧ Step C env θ θ s s' ∧ Rep C (Yf C env Z θ) s'.heap v d) (fun _ _ => False) s
theorem evx_acc {x m : Str} {p apos pos : Pos} {es : List Expr} {mg : Int} {ps ps' : List (Str × Str)} {args : List D} {d : D} (hf : Fm env) (hd : (x == ("__debug__" : Str)) = false) (hl : (apos.endLine == pos.line) = true) (hx : σ.lookup x = some (.acc mg ps)) (hn : es.length < 30) (hne : es ≠ [])
    (hs : ∀ Z θ, Evs C A env Z θ σ es args) (ha : AccCallOk C A m mg ps args ps' d) : EvX C A env σ (eval (.Call (.Attribute (.Name x p) m apos) es [] pos) env) d (setS x (.acc mg ps') σ) := fun Z θ s i => by
  refine method_ rfl hl (hs Z θ).star hn (load_own hf i hd hx nofun fun v hv hc => ?_)
  refine wpAny_mono (ha _ _ s v _ i.bs (own_yt i x) hc) (fun fx s1 q => ?_) fun _ _ f => f.elim
  obtain ⟨k1, q, oq, e, hq, ⟨fd, hfd⟩, hcall⟩ := q
  obtain ⟨f, first⟩ := fx
  obtain rfl : f = .ref q := e
  have i1 := i.next k1
  cases es with
  | nil => exact absurd rfl hne
  | cons e r =>
    have hst := (hs Z θ).star
    have fa : ∀ {s' : Shared}, Keep C.g s'.heap → FnAt q s'.heap := fun k => by
      obtain ⟨oc, od, dt, sl⟩ := oq
      obtain rfl : dt = .func fd := hfd
      exact ⟨oc, od, fd, sl, k _ _ hq⟩
    refine callWith_F (fa i1.kp) ((((hs Z θ).spliced pos).use i1 fun vs s2 k2 i2 r2 => ⟨fa i2.kp, ?_⟩)) (starEach_cons (and_1 hst)) (any_star (and_2 hst))
    have k12 := k1.trans k2
    have own : ∀ a ∈ θ x, ∀ o, s.heap.get? a = some o → s2.heap.get? a = some o := fun a ha o e => k12.kp a o (fun t => i.tw a t (.inr (.inr ⟨x, ha⟩))) e
    have hc2 : CRep C (Yf C env Z θ) s2.heap v (.acc mg ps) (θ x) := hc.mono (fun b o hb e => ⟨k12.kp b o (fun t => hb (.inr (.inl t))) e, hb⟩) own
    have hv2 : VarAt env s2.heap x v := hv.keep (θ := θ) i.tw k12.kp
    refine wpAny_mono (hcall s2 vs i2.bs hc2 r2) (fun z s3 h => ?_) fun _ _ f => f
    obtain ⟨os, gb, jj, kk, hc3, hz⟩ := h
    exact ⟨i2.turnOwn hv2 kk hc3 jj gb, (k12.step i.jj).trans (step_own i2 os (fun _ => gb) kk fun a q => q.elim (tb_there jj) fun m => hc3.there a m), hz⟩
theorem stm_expr {e : Expr} {pos : Pos} {d : D} (hf : Fm env) (hs : swapsWith e none pos.line env = pure false) (h : EvX C A env σ (eval e env) d σ') : Stm C A env σ (exec (.Expr e pos) env) .next σ' := fun Z θ s i => by
  refine wpAny_Expr_any (wpAny_mono (h Z θ s i) (fun v s1 q => ⟨θ, q.1, q.2.1, .next⟩) fun _ _ f => f) (not_interactive hf) hs
theorem evx_slice {v : Expr} {lo hi st : Option Expr} {p pos : Pos} {a dl du ds d : D} (h1 : EvX C A env σ (eval v env) a σ') (hl : ∀ Z θ, Ev C A env Z θ σ' (evalPart lo env) dl) (hu : ∀ Z θ, Ev C A env Z θ σ' (evalPart hi env) du) (hst : ∀ Z θ, Ev C A env Z θ σ' (evalPart st env) ds)
    (e : sliceD a dl du ds = some d) : EvX C A env σ (eval (.Subscript v (.Slice lo hi st p) pos) env) d σ' := fun Z θ s i => by
  refine Subscript_ (wpAny_mono (h1 Z θ s i) (fun v s1 q => ?_) fun _ _ f => f.elim)
  obtain ⟨i1, st1, r1⟩ := q
  refine wpAny_Slice ((hl Z θ).use i1 fun l s2 k2 i2 r2 => (hu Z θ).use i2 fun u s3 k3 i3 r3 => (hst Z θ).use i3 fun t s4 k4 i4 r4 => ?_)
  refine wpAny_mono (op_slice (fun o i => ?_) e (k4.rep (k3.rep (k2.rep r1))) (k4.rep (k3.rep r2)) (k4.rep r3) r4 i4.yl) (fun z s5 q => ?_) fun _ _ f => f
  · cases st with
    | none => exact ⟨_, rfl⟩
    | some x => exact ⟨_, rfl⟩
  · have kk := (((k2.trans k3).trans k4).trans q.1)
    exact ⟨i1.next kk, st1.trans (kk.step i1.jj), q.2⟩
theorem stm_for_x (hA : Ro A) (hf : Fm env) {tgt iter : Expr} {body : List Stmt} {pos : Pos} {step : St → Option (FlD × St)} {σ1 : St} (hstep : ∀ σ f σ', step σ = some (f, σ') → Stm C A env σ (execs body env) f σ') (hk : ∀ x ∈ tgtNames tgt, CanSt env x) (hsrc : plainSrc iter = true)
    {all : List D} {fe : FlD} (hit : EvX C A env σ (eval iter env) (.list all) σ1) (hall : forD step tgt all σ1 = some (fe, σ')) : Stm C A env σ (exec (.For tgt iter body [] pos) env) fe σ' := fun Z θ s i => by
  refine wpAny_For (wpAny_mono (hit Z θ s i) (fun x s1 h => ?_) fun _ _ f => f.elim) (foldedSet_plain hsrc)
  obtain ⟨i1, st1, r1⟩ := h
  exact for_from hA hf hstep hk hall i1 (itb_list hA (fun a q => .inr q) r1) fun fl θ' s' i' st' fr => ⟨θ', i', st1.trans st', fr⟩
theorem stm_assign_x {x : Str} {p pos : Pos} {e : Expr} {d : D} {σ1 : St} (hf : Fm env) (hk : CanSt env x) (hs : swapsWith e (some (.Name x p)) pos.line env = pure false) (h : EvX C A env σ (eval e env) d σ1) : Stm C A env σ (exec (.Assign [.Name x p] e pos) env) .next (setS x (.val d) σ1) := fun Z θ s i => by
  refine wpAny_Assign_Name (wpAny_mono (h Z θ s i) (fun v s1 q => ?_) fun _ _ f => f.elim) hs
  exact Inv.store_val hf hk q.1 q.2.2 fun s2 i2 g2 => ⟨_, i2, q.2.1.trans (Step.of_upd g2 fun a h => nomatch h), .next⟩
end
end Mine

end

section
open PySem PySem.W PyProof.Rows PySem.Calls
set_option maxRecDepth 100000
set_option linter.unusedVariables false
namespace Mine

section
variable {C : Cfg} {A : Around} {env : Env} {Z : Addr → Prop} {θ θ' : Str → List Addr} {σ σ' : St}
theorem stm_assign_comp {x : Str} {p pos cpos : Pos} {elt iter tgt : Expr} {ifs : List Expr} {gs : List Comprehension} {scope : Scope} {its out : List D} {ev : St → Expr → Option D} {tv : St → Expr → Option Bool} {itr : St → Expr → Option (List D)} {σc : St}
    (hA : Ro A) (hf : Fm env) (hk : CanSt env x) (ok : CompOk env scope (⟨tgt, iter, ifs, 0⟩ :: gs)) (hs : EvSound C A (relScope scope env.scope) ev tv itr) (hsrc : plainSrc iter = true) (hfirst : ∀ Z θ, EvI C A env Z θ σ C.Tb iter its)
    (hall : compAll ev tv itr elt (⟨tgt, iter, ifs, 0⟩ :: gs) (captured scope σ) its = some (out, σc)) (hsz : out.length ≤ 1000000) :
    Stm C A env σ (exec (.Assign [.Name x p] (.ListComp elt (⟨tgt, iter, ifs, 0⟩ :: gs) scope cpos) pos) env) .next (setS x (.val (.list out)) σ) := by
  have hsw : ∃ b, swapsWith (.ListComp elt (⟨tgt, iter, ifs, 0⟩ :: gs) scope cpos) (some (.Name x p)) pos.line env = pure b := ⟨_, rfl⟩
  obtain ⟨b, hb⟩ := hsw
  cases b with
  | false => exact stm_assign hf hk hb fun Z θ => ev_comp hA hf ok hs hsrc (hfirst Z θ) hall hsz
  | true =>
    intro Z θ s i
    rw [exec_Assign_Name_used _ _ _ _ hb]
    refine wpAny_bind (wpAny_standAt (wpAny_bind ?_))
    show wpAny _ A (do let _ ← comprehension (.ListComp elt (⟨tgt, iter, ifs, 0⟩ :: gs) scope cpos) scope env _ (newList []) false (eval iter env) (some (assign (.Name x p) env))) _ _ s
    refine wpAny_bind (comp_core (use := some (assign (.Name x p) env)) (Q := fun _ s' => wpAny C.M A (pure ()) (fun _ s' => wpAny C.M A (pure Flow.next) _ _ s') _ s') hA hf ok hs hsrc (hfirst Z θ) hall hsz i fun s' Dd L i' k' r' hm hL _ => ?_)
    refine wpAny_assign_Name (Inv.store_val hf hk i' r' fun s2 i2 g2 => ?_)
    obtain ⟨m, hm⟩ := hm
    have zL := i'.zt L (.inr rfl)
    have hWL : ¬ Wl env x L := fun w => zL.2 w.wf
    have hm2 : s2.heap.Ns L m := Ns.at1 hm fun o e => g2.kp L o hWL e
    refine ⟨m, hm2, fun h' hs' => wpAny_pure (wpAny_pure ⟨upd θ x [], ?_, ?_, .next⟩)⟩
    · exact i2.dropZ (s' := { s2 with heap := h' }) (fun z => i.yl L (.inl z) hL) (fun b o hb e => (hs'.2 b hb).trans e) rfl (notCd_ns hm2)
    · have st := (k'.step (env := env) (θ := θ) i.jj).trans (Step.of_upd g2 (as := []) fun a h => nomatch h)
      have nL : ∀ b, s.heap.get? b ≠ none → b ≠ L := fun b h q => h (q ▸ hL)
      refine ⟨⟨st.go.os, fun b o hb e => (hs'.2 b (nL b (ne_none e))).trans (st.go.kp b o hb e), fun b hb => ?_, st.go.gb⟩, st.nw⟩
      show h'.get? b ≠ none
      rw [hs'.2 b (nL b hb)]
      exact st.go.al b hb
end
end Mine

end

section
open PySem PySem.W PyProof.Rows PySem.Calls
set_option maxRecDepth 100000
set_option linter.unusedVariables false
namespace Mine

noncomputable def mcall (e : Expr) : Option (Expr × Str × List Expr) := match e with
  | .Call f es kws p2 => match f with
    | .Attribute o m apos => gd (kws.isEmpty && (apos.endLine == p2.line)) (some (o, m, es))
    | _ => none
  | _ => none
noncomputable def evX1 (T : Tab) (ev : Expr → Option D) (σ : St) (e : Expr) : Option (D × St) := (mcall e).bind fun c => (accOf σ c.1).bind fun a => gd (!c.2.2.isEmpty && decide (c.2.2.length < 30)) ((evs ev c.2.2).bind fun ds => (nameOf c.1).bind fun x => (T.accCall c.2.1 a.1 a.2 ds).map fun r => (r.2, setS x (.acc a.1 r.1) σ))
noncomputable def evX (T : Tab) (ev : St → Expr → Option D) (σ : St) (e : Expr) : Option (D × St) := match e with
  | .Subscript v s _ => (sliceOf s).bind fun q => (evX1 T (ev σ) σ v).bind fun r => (evPart (ev r.2) q.1).bind fun x => (evPart (ev r.2) q.2.1).bind fun y => (evPart (ev r.2) q.2.2).bind fun z => (sliceD r.1 x y z).map fun d => (d, r.2)
  | e => evX1 T (ev σ) σ e
noncomputable def canB (sc : Scope) (x : Str) : Bool := sc.names.lookup x == some .local || sc.names.lookup x == some .cell
noncomputable def plainVal (e : Expr) : Bool := Nat.ble e.ctorIdx 7 || Nat.ble 11 e.ctorIdx
noncomputable def notTup (e : Expr) : Bool := !(Nat.beq e.ctorIdx 25)
noncomputable def frz (s : Sl) : Option D := match s with
  | .lst ds => some (.list ds)
  | .dct kvs => some (.dict kvs)
  | .un => none
  | .val _ => none
  | .acc _ _ => none
noncomputable def slLst (s : Sl) : Option (List D) := match s with
  | .lst ds => some ds
  | .un => none
  | .val _ => none
  | .dct _ => none
  | .acc _ _ => none
noncomputable def frozen (σ : St) (e : Expr) : Option (D × St) := (nameOf e).bind fun y => gd (!(y == ("__debug__" : Str))) ((σ.lookup y).bind fun sl => (frz sl).map fun d => (d, setS y (.val d) σ))
noncomputable def exL (step : St → Stmt → Option (FlD × St)) : List Stmt → St → Option (FlD × St)
  | [], σ => some (.next, σ)
  | s :: r, σ => (step σ s).bind fun p => match p.1 with
    | .next => exL step r p.2
    | f => some (f, p.2)
noncomputable def intOf (e : Expr) : Option Int := match e with
  | .Constant c _ _ => (constD c).bind asI
  | _ => none
noncomputable def pairI (ks : List (Option Expr)) (vs : List Expr) : Option (Int × Int) := (one ks).bind fun k => k.bind fun k => (one vs).bind fun v => (intOf k).bind fun i => (intOf v).map fun j => (i, j)
noncomputable def ownD (T : Tab) (sc : Scope) (ev : Expr → Option D) (e : Expr) : Option Sl := match e with
  | .List es _ => gd es.isEmpty (some (.lst []))
  | .Dict ks vs _ => gd (ks.isEmpty && vs.isEmpty) (some (.dct []))
  | .Call f es kws _ => gd kws.isEmpty ((one es).bind fun a => (glF T sc f).bind fun g => gd (noStar a && Nat.beq g.ctorIdx 10) ((ev a).bind fun d => (asI d).map fun m => .acc m []))
  | _ => none
noncomputable def assignD (T : Tab) (n : Nat) (sc : Scope) (σ : St) (x : Str) (e : Expr) : Option St := match frozen σ e with
  | some r => some (setS x (.val r.1) r.2)
  | none => match e with
    | .Dict ks vs _ => (pairI ks vs).map fun q => setS x (.val (.dict [q])) σ
    | .ListComp elt gens scope _ => (compD (fun σ e => evE T n (relScope scope sc) σ e) (fun σ e => evT (evE T n (relScope scope sc) σ) 8 e) (fun σ e => evI T (relScope scope sc) (evE T n (relScope scope sc) σ) σ e) (evI T sc (evE T n sc σ) σ) sc σ elt gens scope).map fun d => setS x (.val d) σ
    | e => gd (plainVal e) (match evX T (fun σ e => evE T n sc σ e) σ e with
      | some r => some (setS x (.val r.1) r.2)
      | none => (evE T n sc σ e).map fun d => setS x (.val d) σ)
noncomputable def isAdd (op : Operator) : Bool := Nat.beq op.ctorIdx 0
noncomputable def exS (T : Tab) (own : List Str) : Nat → Scope → St → Stmt → Option (FlD × St)
  | 0, _, _, _ => none
  | n + 1, sc, σ, st => match st with
    | .Assign ts e _ => (one ts).bind fun t => match t with
      | .Name x _ => gd (canB sc x) (bif own.contains x then (ownD T sc (evE T n sc σ) e).map fun sl => (.next, setS x sl σ) else (assignD T n sc σ x e).map fun σ' => (.next, σ'))
      | .Subscript o i _ => (nameOf o).bind fun x => gd (!(x == ("__debug__" : Str)) && plainVal e) (((σ.lookup x).bind slDct).bind fun kvs => (evE T n sc σ e).bind fun a => (asI a).bind fun v => (evE T n sc σ i).bind fun b => (asI b).bind fun k => if kvs.length ≤ 1000000 then some (.next, setS x (.dct (storeKv kvs k v)) σ) else none)
      | .Tuple es k p => gd ((tgtNames (.Tuple es k p)).all (canB sc) && plainVal e && notTup e) ((evE T n sc σ e).bind fun d => (bindD (.Tuple es k p) d σ).map fun σ' => (.next, σ'))
      | _ => none
    | .AugAssign t op e _ => (nameOf t).bind fun x => gd (canB sc x && isAdd op) ((σ.lookup x).bind fun sl => (slVal sl).bind fun d => (asI d).bind fun a => (evE T n sc σ e).bind fun q => (asI q).map fun b => (.next, setS x (.val (.int (a + b))) σ))
    | .Expr e _ => (mcall e).bind fun c => (nameOf c.1).bind fun x => match (σ.lookup x).bind slLst with
      | some ds => (one c.2.2).bind fun a => gd (noStar a && !(x == ("__debug__" : Str)) && (c.2.1 == Str.ofString "append")) (if ds.length ≤ 1000000 then (evE T n sc σ a).map fun d => (.next, setS x (.lst (ds ++ [d])) σ) else none)
      | none => (evX T (fun σ e => evE T n sc σ e) σ e).map fun r => (.next, r.2)
    | .If t b o _ => (evT (evE T n sc σ) 8 t).bind fun c => exL (exS T own n sc) (bif c then b else o) σ
    | .For tgt iter body orelse _ => gd (orelse.isEmpty && plainSrc iter && (tgtNames tgt).all (canB sc)) (match evX T (fun σ e => evE T n sc σ e) σ iter with
      | some r => (asL r.1).bind fun all => forD (fun σ => exL (exS T own n sc) body σ) tgt all r.2
      | none => (evI T sc (evE T n sc σ) σ iter).bind fun all => forD (fun σ => exL (exS T own n sc) body σ) tgt all σ)
    | .Return e _ => e.bind fun e => match frozen σ e with
      | some r => some (.ret r.1, r.2)
      | none => (evE T n sc σ e).map fun d => (.ret d, σ)
    | _ => none
end Mine

end

section
open PySem PySem.W PyProof.Rows PySem.Calls
set_option maxRecDepth 100000
set_option linter.unusedVariables false
namespace Mine

section
variable {C : Cfg} {A : Around} {env : Env} {Z : Addr → Prop} {θ θ' : Str → List Addr} {σ σ' : St} {T : Tab}
theorem callWith_machine1 {f : Value} {pos : Pos} {x : Sem Value} {s : Shared} {Q : Value → Shared → Prop} {E : Value → Shared → Prop} (hk : Looks C.M C.g (keeperOf f) .machine)
    (h : wpAny C.M A (spliced [(false, x)]) (fun vs s1 => Keep C.g s1.heap ∧ wpAny C.M A (call f vs) Q E s1) E s) : wpAny C.M A (callWith pos f [] [(false, x)] []) Q E s := by
  unfold callWith
  refine wpAny_bind (wpAny_holding (evalArgs_plain (wpAny_mono h (fun vs s1 h1 => wpAny_bind (wpAny_standAt ?_)) fun _ _ e => e)))
  refine wpAny_bind (hk _ _ _ _ h1.1 ?_)
  exact wpAny_bind (wpAny_mono h1.2 (fun r s2 h2 => wpAny_bind (wpAny_holding (wpAny_point (wpAny_pure h2)))) fun _ _ e => e)
theorem callWith_machine {f : Value} {pos : Pos} {x : Expr} {s : Shared} {Q : Value → Shared → Prop} {E : Value → Shared → Prop} (hn : noStar x = true) (hk : Looks C.M C.g (keeperOf f) .machine)
    (h : wpAny C.M A (spliced (backTo pos (starEach [x] env))) (fun vs s1 => Keep C.g s1.heap ∧ wpAny C.M A (call f vs) Q E s1) E s) : wpAny C.M A (callWith pos f [] (backTo pos (starEach [x] env)) []) Q E s := by
  rw [starEach_cons hn] at h ⊢
  exact callWith_machine1 hk h
theorem swaps_of_plain {e : Expr} {t : Option Expr} {n : Nat} (h : plainVal e = true) : swapsWith e t n env = pure false := by
  cases e with
  | ListComp _ _ _ _ => exact nob h
  | SetComp _ _ _ _ => exact nob h
  | DictComp _ _ _ _ _ => exact nob h
  | _ => rfl
theorem frozen_some {e : Expr} {r : D × St} (h : frozen σ e = some r) : ∃ y p sl, e = .Name y p ∧ (y == ("__debug__" : Str)) = false ∧ σ.lookup y = some sl ∧ ((∃ ds, sl = .lst ds ∧ r.1 = .list ds) ∨ ∃ kvs, sl = .dct kvs ∧ r.1 = .dict kvs) ∧ r.2 = setS y (.val r.1) σ := by
  refine bndE h fun y h1 h => ?_
  refine gdE h fun h2 h => ?_
  refine bndE h fun sl h3 h => ?_
  obtain ⟨d, h4, rfl⟩ := mpd h
  obtain ⟨p, rfl⟩ := nameOf_some h1
  refine ⟨y, p, sl, rfl, not_t h2, h3, ?_, rfl⟩
  cases sl with
  | lst ds => exact .inl ⟨ds, rfl, (so h4).symm⟩
  | dct ds => exact .inr ⟨ds, rfl, (so h4).symm⟩
  | _ => exact no h4
theorem canB_ok (hf : Fm env) {sc : Scope} (hs : env.scope = sc) {x : Str} (h : canB sc x = true) : CanSt env x := by
  subst hs
  exact canSt_of hf ((Bool.or_eq_true_iff.mp h).imp eq_of_beq eq_of_beq)
theorem mcall_some {e : Expr} {c : Expr × Str × List Expr} (h : mcall e = some c) : ∃ ap p2, e = .Call (.Attribute c.1 c.2.1 ap) c.2.2 [] p2 ∧ (ap.endLine == p2.line) = true := by
  cases e with
  | Call f es kws p2 =>
    cases f with
    | Attribute o m apos =>
      refine gdE h fun h1 h => ?_
      rw [← so h, List.isEmpty_iff.mp (and_1 h1)]
      exact ⟨apos, p2, rfl, and_2 h1⟩
    | _ => exact no h
  | _ => exact no h
theorem evX1_ok (hf : Fm env) (hT : TabOk C A T) {ev : Expr → Option D} (hev : ∀ Z θ e d, ev e = some d → Ev C A env Z θ σ (eval e env) d) {e : Expr} {r : D × St} (h : evX1 T ev σ e = some r) : EvX C A env σ (eval e env) r.1 r.2 ∧ (∀ t n, swapsWith e t n env = pure false) := by
  obtain ⟨⟨o, m, es⟩, h1, h⟩ := bnd h
  refine bndE h fun a h2 h => ?_
  refine gdE h fun h3 h => ?_
  refine bndE h fun ds h4 h => ?_
  refine bndE h fun y h5 h => ?_
  obtain ⟨q, h6, rfl⟩ := mpd h
  obtain ⟨ap, p2, rfl, hl⟩ := mcall_some h1
  obtain ⟨x, p, rfl, hd, hx⟩ := accOf_ok h2
  obtain rfl : x = y := so h5
  exact ⟨evx_acc hf hd hl hx (dec (and_2 h3)) (fun q => by rw [q] at h3; exact nob h3) (fun Z θ => evs_ok (hev Z θ) h4) (hT.accCall _ _ _ _ _ _ h6), fun t n => rfl⟩
theorem evX_ok (hf : Fm env) (hT : TabOk C A T) {ev : St → Expr → Option D} (hev : ∀ σ Z θ e d, ev σ e = some d → Ev C A env Z θ σ (eval e env) d) {e : Expr} {r : D × St} (h : evX T ev σ e = some r) : EvX C A env σ (eval e env) r.1 r.2 ∧ (∀ t n, swapsWith e t n env = pure false) := by
  cases e with
  | Subscript v s p =>
    refine bndE h fun q h0 h => ?_
    refine bndE h fun r h1 h => ?_
    refine bndE h fun x h2 h => ?_
    refine bndE h fun y h3 h => ?_
    refine bndE h fun z h4 h => ?_
    obtain ⟨d', h5, rfl⟩ := mpd h
    obtain ⟨p2, rfl⟩ := sliceOf_some h0
    exact ⟨evx_slice (evX1_ok hf hT (hev σ) h1).1 (fun Z θ => evPart_ok (hev r.2 Z θ) h2) (fun Z θ => evPart_ok (hev r.2 Z θ) h3) (fun Z θ => evPart_ok (hev r.2 Z θ) h4) h5, fun t n => rfl⟩
  | _ => exact evX1_ok hf hT (hev σ) h
theorem exL_ok {step : St → Stmt → Option (FlD × St)} (hst : ∀ σ st f σ', step σ st = some (f, σ') → Stm C A env σ (exec st env) f σ') {l : List Stmt} {f : FlD} (h : exL step l σ = some (f, σ')) : Stm C A env σ (execs l env) f σ' := by
  induction l generalizing σ with
  | nil => cases h; exact stm_nil
  | cons a r ih =>
    obtain ⟨⟨g, σ1⟩, h1, h⟩ := bnd h
    cases g with
    | next => exact stm_cons_next (hst _ _ _ _ h1) (ih h)
    | brk => cases h; exact stm_cons_leave nofun (hst _ _ _ _ h1)
    | cont => cases h; exact stm_cons_leave nofun (hst _ _ _ _ h1)
    | ret d => cases h; exact stm_cons_leave nofun (hst _ _ _ _ h1)

theorem dict_value {k v : Int} {k1 k2 : Nat} {p1 p2 pos : Pos} : Ev C A env Z θ σ (eval (.Dict [some (.Constant (.int k) k1 p1)] [.Constant (.int v) k2 p2] pos) env) (.dict [(k, v)]) := fun s i => by
  have hsz : s.heap.objs.size ≠ sysModules := fun q => by
    obtain ⟨o, ho⟩ := C.gs
    have h2 : cStatics < s.heap.objs.size := Heap.lt_size (i.kp _ _ ho)
    rw [q] at h2; exact absurd h2 (by decide)
  refine wpAny_Dict_any rfl rfl nofun (show 1 ≤ 15 by decide) (pairTrees_cons_walk (wpAny_Constant_int (wpAny_Constant_int (pairTrees_nil_walk ?_))))
  unfold storeAll
  rw [List.forIn_cons]
  refine wpAny_bind (wpAny_bind (wpAny_dictSet_pairs (knd := C.ik) (k := k) (by simp [Cfg.ik, intKind, Value.isInt]) (Heap.DictOf.new _) (fun h' hd' hs' => wpAny_pure ?_) (Nat.zero_le _)))
  simp only [List.forIn_nil]
  refine wpAny_pure ?_
  have hk : Keep s.heap h' := fun b o e => (hs'.2 b (Nat.ne_of_lt (Heap.lt_size e))).trans (keep_push _ _ _ e)
  exact ⟨Kp.heap hk, .dict i.size (beq_eq_false_iff_ne.mpr hsz) hd' (kvIs_stored .nil k v _)⟩
theorem intOf_some {e : Expr} {i : Int} (h : intOf e = some i) : ∃ k p, e = .Constant (.int i) k p := by
  cases e with
  | Constant c k p =>
    refine bndE h fun d h1 h => ?_
    rw [asI_some h] at h1
    cases c with
    | int j => cases so h1; exact ⟨k, p, rfl⟩
    | none => cases so h1
    | bool _ => cases so h1
    | str _ => cases so h1
    | _ => exact no h1
  | _ => exact no h
theorem pairI_some {ks : List (Option Expr)} {vs : List Expr} {q : Int × Int} (h : pairI ks vs = some q) : ∃ k1 p1 k2 p2, ks = [some (.Constant (.int q.1) k1 p1)] ∧ vs = [.Constant (.int q.2) k2 p2] := by
  refine bndE h fun k h1 h => ?_
  refine bndE h fun k h2 h => ?_
  refine bndE h fun v h3 h => ?_
  refine bndE h fun i h4 h => ?_
  obtain ⟨j, h5, rfl⟩ := mpd h
  obtain ⟨k1, p1, rfl⟩ := intOf_some h4
  obtain ⟨k2, p2, rfl⟩ := intOf_some h5
  exact ⟨k1, p1, k2, p2, h2 ▸ one_some h1, one_some h3⟩
theorem own_ok (hA : Ro A) (hf : Fm env) (hT : TabOk C A T) {sc : Scope} (hs : env.scope = sc) {ev : Expr → Option D} (hev : ∀ Z θ e d, ev e = some d → Ev C A env Z θ σ (eval e env) d) {x : Str} {p pos : Pos} {e : Expr} {sl : Sl} (hk : CanSt env x) (h : ownD T sc ev e = some sl) : Stm C A env σ (exec (.Assign [.Name x p] e pos) env) .next (setS x sl σ) := by
  cases e with
  | List es _ => obtain ⟨h1, h⟩ := gd_some h; rw [← so h, List.isEmpty_iff.mp h1]; exact stm_own_list hf hk
  | Dict ks vs _ => obtain ⟨h1, h⟩ := gd_some h; rw [← so h, List.isEmpty_iff.mp (and_1 h1), List.isEmpty_iff.mp (and_2 h1)]; exact stm_own_dict hf hk
  | Call f es kws _ =>
    refine gdE h fun h1 h => ?_
    refine bndE h fun a h2 h => ?_
    refine bndE h fun g hg h => ?_
    refine gdE h fun hn h => ?_
    refine bndE h fun d he h => ?_
    obtain ⟨m, h4, rfl⟩ := mpd h
    rw [asI_some h4] at he
    rw [one_some h2, List.isEmpty_iff.mp h1]
    obtain ⟨y, py, rfl, hky, hgl, hd, hl⟩ := glF_ok hT hs hg
    refine stm_own hf hk rfl fun Z θ s i => ?_
    refine Call_Name rfl (wpAny_Name (glob_ok hf hky hgl i.kp ?_) hd)
    cases g with
    | acc b =>
      have hacc := hT.accNew _ _ hl
      refine callWith_machine (and_1 hn) hacc.keeper ((((Evs.cons (and_1 hn) (hev Z θ _ _ he) .nil : Evs C A env Z θ σ [_] [_]).spliced _).use i fun vs s1 k1 i1 r1 => ⟨i1.kp, ?_⟩))
      obtain ⟨v, us, rfl, r1, r2⟩ := r1.cons_inv
      rw [r2.nil_inv]
      obtain ⟨t, rfl⟩ := r1.int_inv
      refine wpAny_mono (hacc.run _ s1 m t i1.bs) (fun z s2 q => ?_) fun _ _ f => f
      obtain ⟨k2, xa, d, ep, t1, t2, rfl, hx, hdn, hx2, hd2, hK⟩ := q
      refine ⟨k1.trans k2, [xa, d], fun a ha => ?_, fun a ha => ?_, .acc (vs := []) hx2 hd2 hK .nil⟩
      · rcases List.mem_cons.mp ha with rfl | ha
        · exact k1.back i.jj hx
        · rw [List.mem_singleton.mp ha]; exact k1.back i.jj hdn
      · rcases List.mem_cons.mp ha with rfl | ha
        · exact ne_none hx2
        · rw [List.mem_singleton.mp ha]; exact ne_none hd2
    | _ => exact nob (and_2 hn)
  | _ => exact no h

theorem assign_plain (hf : Fm env) (hT : TabOk C A T) {ev : St → Expr → Option D} (hev : ∀ σ Z θ e d, ev σ e = some d → Ev C A env Z θ σ (eval e env) d) {x : Str} {p pos : Pos} {e : Expr} (hk : CanSt env x) (h : gd (plainVal e) (match evX T ev σ e with
      | some r => some (setS x (.val r.1) r.2)
      | none => (ev σ e).map fun d => setS x (.val d) σ) = some σ') : Stm C A env σ (exec (.Assign [.Name x p] e pos) env) .next σ' := by
  refine gdE h fun hp h => ?_
  cases hx : evX T ev σ e with
  | some r =>
    rw [hx] at h
    rw [← so h]
    exact stm_assign_x hf hk (swaps_of_plain hp) (evX_ok hf hT hev hx).1
  | none =>
    rw [hx] at h
    obtain ⟨d, h1, rfl⟩ := mpd h
    exact stm_assign hf hk (swaps_of_plain hp) fun Z θ => hev σ Z θ _ _ h1
theorem assign_sound (hA : Ro A) (hf : Fm env) (hT : TabOk C A T) {sc : Scope} (hs : env.scope = sc) {n : Nat} {x : Str} {p pos : Pos} {e : Expr} (hk : CanSt env x) (h : assignD T n sc σ x e = some σ') : Stm C A env σ (exec (.Assign [.Name x p] e pos) env) .next σ' := by
  have hev : ∀ σ Z θ e d, evE T n sc σ e = some d → Ev C A env Z θ σ (eval e env) d := fun σ Z θ e d => (ev_sound hA hT n sc).ev env hf hs Z θ σ e d
  have pl := fun e => assign_plain (x := x) (p := p) (pos := pos) (e := e) (σ' := σ') (ev := fun σ e => evE T n sc σ e) (σ := σ) hf hT hev hk
  unfold assignD at h
  cases hfz : frozen σ e with
  | some r =>
    rw [hfz] at h
    rw [← so h]
    obtain ⟨y, py, sl, rfl, hd, h1, h2, h3⟩ := frozen_some hfz
    rw [h3]
    exact stm_move hf hd hk h1 h2
  | none =>
    rw [hfz] at h
    cases e with
    | Dict ks vs _ =>
      obtain ⟨q, h1, rfl⟩ := mpd h
      obtain ⟨k1, p1, k2, p2, rfl, rfl⟩ := pairI_some h1
      exact stm_assign hf hk rfl fun Z θ => dict_value
    | ListComp elt gens scope _ =>
      obtain ⟨d, h1, rfl⟩ := mpd h
      cases gens with
      | nil => exact no h1
      | cons g gs =>
        refine gdE h1 fun hc h1 => ?_
        refine bndE h1 fun its h2 h1 => ?_
        refine bndE h1 fun r h3 h1 => ?_
        refine ifsE h1 fun hz h1 => ?_
        rw [← so h1]
        obtain ⟨tgt, iter, ifs, as⟩ := g
        obtain rfl : as = 0 := dec (and_2 hc)
        obtain ⟨out, σc⟩ := r
        subst hs
        exact stm_assign_comp hA hf hk (compOk_of (and_1 (and_1 hc))) (ev_sound hA hT n _) (and_2 (and_1 hc)) (fun Z θ => evI_ok hA hf hT rfl (fun a t => .inr (.inl t)) (hev σ Z θ) h2) h3 hz
    | _ => exact pl _ h

theorem swapped_none {es : List Expr} {k : Nat} {p : Pos} {e : Expr} (hq : notTup e = true) : swappedStores [.Tuple es k p] e env = pure none := by
  cases e with
  | Tuple _ _ _ => exact nob hq
  | _ => rfl
theorem stm_assign_tup {es : List Expr} {k : Nat} {p pos : Pos} {e : Expr} {d : D} (hA : Ro A) (hf : Fm env) (hk : ∀ x ∈ tgtNames (.Tuple es k p), CanSt env x) (hp : plainVal e = true) (hq : notTup e = true)
    (h : ∀ Z θ, Ev C A env Z θ σ (eval e env) d) (hb : bindD (.Tuple es k p) d σ = some σ') : Stm C A env σ (exec (.Assign [.Tuple es k p] e pos) env) .next σ' := fun Z θ s i => by
  refine wpAny_Assign_stores ((h Z θ).use i fun v s1 k1 i1 r1 => ?_) (swaps_of_plain (t := some (.Tuple es k p)) hp : swapsWith e (some (.Tuple es k p)) pos.line env = pure false) (swapped_none hq)
  exact assign_ok (t := .Tuple es k p) hA hf hk hb i1 r1 fun s2 i2 g2 => ⟨_, i2, (k1.step i.jj).trans (Step.of_names g2), .next⟩
theorem slLst_some {s : Sl} {d} (h : slLst s = some d) : s = .lst d := by cases s with | lst d => rw [so h] | _ => exact no h
theorem for_sound (hA : Ro A) (hf : Fm env) (hT : TabOk C A T) {sc : Scope} (hs : env.scope = sc) {ev : St → Expr → Option D} (hev : ∀ σ Z θ e d, ev σ e = some d → Ev C A env Z θ σ (eval e env) d) {tgt iter : Expr} {body : List Stmt} {pos : Pos} {step : St → Option (FlD × St)} {f : FlD} (hstep : ∀ σ f σ', step σ = some (f, σ') → Stm C A env σ (execs body env) f σ') (hk : ∀ x ∈ tgtNames tgt, CanSt env x) (hsrc : plainSrc iter = true)
    (h : (match evX T ev σ iter with
      | some r => (asL r.1).bind fun all => forD step tgt all r.2
      | none => (evI T sc (ev σ) σ iter).bind fun all => forD step tgt all σ) = some (f, σ')) : Stm C A env σ (exec (.For tgt iter body [] pos) env) f σ' := by
  cases hx : evX T ev σ iter with
  | some r =>
    rw [hx] at h
    refine bndE h fun all h1 h => ?_
    have h2 := (evX_ok hf hT hev hx).1
    rw [asL_some h1] at h2
    exact stm_for_x hA hf hstep hk hsrc h2 h
  | none =>
    rw [hx] at h
    refine bndE h fun all h1 h => ?_
    exact stm_for hA hf hstep hk hsrc (fun Z θ => evI_ok hA hf hT hs (fun a t => .inr t) (hev σ Z θ) h1) h
theorem ret_sound (hf : Fm env) {ev : St → Expr → Option D} (hev : ∀ σ Z θ e d, ev σ e = some d → Ev C A env Z θ σ (eval e env) d) {e : Expr} {pos : Pos} {f : FlD} (h : (match frozen σ e with
      | some r => some (.ret r.1, r.2)
      | none => (ev σ e).map fun d => (.ret d, σ)) = some (f, σ')) : Stm C A env σ (exec (.Return (some e) pos) env) f σ' := by
  cases hx : frozen σ e with
  | some r =>
    rw [hx] at h
    cases h
    obtain ⟨y, py, sl, rfl, hd, h1, h2, h3⟩ := frozen_some hx
    rw [h3]
    exact stm_return_own hf hd h1 h2
  | none =>
    rw [hx] at h
    obtain ⟨d, h1, h2⟩ := mpd h
    cases h2
    exact stm_return fun Z θ => hev σ Z θ _ _ h1
theorem exp_sound (hf : Fm env) (hT : TabOk C A T) {ev : St → Expr → Option D} (hev : ∀ σ Z θ e d, ev σ e = some d → Ev C A env Z θ σ (eval e env) d) {e : Expr} {pos : Pos} {f : FlD} (h : ((mcall e).bind fun c => (nameOf c.1).bind fun x => match (σ.lookup x).bind slLst with
      | some ds => (one c.2.2).bind fun a => gd (noStar a && !(x == ("__debug__" : Str)) && (c.2.1 == Str.ofString "append")) (if ds.length ≤ 1000000 then (ev σ a).map fun d => (.next, setS x (.lst (ds ++ [d])) σ) else none)
      | none => (evX T ev σ e).map fun r => (.next, r.2)) = some (f, σ')) : Stm C A env σ (exec (.Expr e pos) env) f σ' := by
  obtain ⟨⟨o, m, es⟩, h1, h⟩ := bnd h
  refine bndE h fun x h2 h => ?_
  cases hx : (σ.lookup x).bind slLst with
  | some ds =>
    rw [hx] at h
    refine bndE h fun a h3 h => ?_
    refine gdE h fun h4 h => ?_
    refine ifsE h fun hz h => ?_
    obtain ⟨d, h5, h⟩ := mpd h
    cases h
    refine bndE hx fun sl h6 h7 => ?_
    rw [slLst_some h7] at h6
    obtain ⟨ap, p2, rfl, hl⟩ := mcall_some h1
    obtain ⟨p, rfl⟩ := nameOf_some h2
    obtain rfl := one_some h3
    exact stm_append hf (not_t (and_2 (and_1 h4))) hl (eq_of_beq (and_2 h4)) h6 hz (and_1 (and_1 h4)) fun Z θ => hev σ Z θ _ _ h5
  | none =>
    rw [hx] at h
    obtain ⟨r, h3, h⟩ := mpd h
    cases h
    obtain ⟨h4, h5⟩ := evX_ok hf hT hev h3
    exact stm_expr hf (h5 _ _) h4
theorem exS_sound (hA : Ro A) (hf : Fm env) (hT : TabOk C A T) {sc : Scope} (hs : env.scope = sc) (own : List Str) : ∀ n σ st f σ', exS T own n sc σ st = some (f, σ') → Stm C A env σ (exec st env) f σ' := by
  intro n
  induction n with
  | zero => intro σ st f σ' h; exact no h
  | succ n ih =>
    intro σ st f σ' h
    have hev : ∀ σ Z θ e d, evE T n sc σ e = some d → Ev C A env Z θ σ (eval e env) d := fun σ Z θ e d => (ev_sound hA hT n sc).ev env hf hs Z θ σ e d
    have hsub : ∀ (body : List Stmt) σ f σ', exL (exS T own n sc) body σ = some (f, σ') → Stm C A env σ (execs body env) f σ' := fun body σ f σ' h => exL_ok (fun σ st f σ' => ih σ st f σ') h
    cases st with
    | Assign ts e p =>
      refine bndE h fun t h1 h => ?_
      rw [one_some h1]
      cases t with
      | Name x _ =>
        refine gdE h fun hc h => ?_
        rcases biff h with ⟨_, h⟩ | ⟨_, h⟩
        · obtain ⟨sl, h1, h2⟩ := mpd h
          cases h2
          exact own_ok hA hf hT hs (fun Z θ => hev σ Z θ) (canB_ok hf hs hc) h1
        · obtain ⟨σ1, h1, h2⟩ := mpd h
          cases h2
          exact assign_sound hA hf hT hs (canB_ok hf hs hc) h1
      | Subscript o i _ =>
        refine bndE h fun x h2 h => ?_
        refine gdE h fun h3 h => ?_
        refine bndE h fun kvs h4 h => ?_
        refine bndE h fun a h5 h => ?_
        refine bndE h fun v h6 h => ?_
        refine bndE h fun b h7 h => ?_
        refine bndE h fun k h8 h => ?_
        refine ifsE h fun hz h => ?_
        cases h
        refine bndE h4 fun sl h9 h10 => ?_
        rw [slDct_some h10] at h9
        rw [asI_some h6] at h5
        rw [asI_some h8] at h7
        obtain ⟨px, rfl⟩ := nameOf_some h2
        exact stm_store hf (not_t (and_1 h3)) h9 hz (swaps_of_plain (and_2 h3)) (fun Z θ => hev σ Z θ _ _ h5) fun Z θ => hev σ Z θ _ _ h7
      | Tuple es k p =>
        refine gdE h fun hc h => ?_
        refine bndE h fun d h2 h => ?_
        obtain ⟨σ1, h3, h⟩ := mpd h
        cases h
        exact stm_assign_tup hA hf (fun x hx => canB_ok hf hs (List.all_eq_true.mp (and_1 (and_1 hc)) x hx)) (and_2 (and_1 hc)) (and_2 hc) (fun Z θ => hev σ Z θ _ _ h2) h3
      | _ => exact no h
    | AugAssign t op e p =>
      refine bndE h fun x h1 h => ?_
      refine gdE h fun hc h => ?_
      refine bndE h fun sl h2 h => ?_
      refine bndE h fun d h3 h => ?_
      refine bndE h fun a h4 h => ?_
      refine bndE h fun q h5 h => ?_
      obtain ⟨b, h6, h⟩ := mpd h
      cases h
      rw [slVal_some h3, asI_some h4] at h2
      rw [asI_some h6] at h5
      obtain ⟨px, rfl⟩ := nameOf_some h1
      cases op with
      | Add => exact stm_aug hf (canB_ok hf hs (and_1 hc)) h2 fun Z θ => hev σ Z θ _ _ h5
      | _ => exact nob (and_2 hc)
    | Expr e p => exact exp_sound hf hT hev h
    | If t b o p =>
      refine bndE h fun c h1 h2 => ?_
      exact stm_if (fun Z θ => evT_ok hA (hev σ Z θ) 8 h1) (hsub _ _ _ _ h2)
    | For tgt iter body orelse p =>
      refine gdE h fun hc h => ?_
      rw [List.isEmpty_iff.mp (and_1 (and_1 hc))]
      exact for_sound hA hf hT hs hev (fun σ f σ' hh => hsub _ σ f σ' hh) (fun x hx => canB_ok hf hs (List.all_eq_true.mp (and_2 hc) x hx)) (and_2 (and_1 hc)) h
    | Return e p =>
      refine bndE h fun e h1 h => ?_
      rw [h1]
      exact ret_sound hf hev h
    | _ => exact no h
end
end Mine

end

section
open PySem PySem.W PyProof.Rows PySem.Calls
set_option maxRecDepth 100000
set_option linter.unusedVariables false
namespace Mine

noncomputable def par0 (names : List Str) (ds : List D) : St := (names.zip ds).map fun p => (p.1, .val p.2)
noncomputable def endD (p : FlD × St) : Option D := match p.1 with
  | .ret d => some d
  | .next => some .none
  | .brk => none
  | .cont => none
theorem endD_some {f : FlD} {σ : St} {d : D} (h : endD (f, σ) = some d) : f = .ret d ∨ f = .next ∧ d = .none := by
  cases f with
  | ret d' => rw [so h]; exact .inl rfl
  | next => exact .inr ⟨rfl, (so h).symm⟩
  | _ => exact no h
noncomputable def funD (T : Tab) (own : List Str) (n : Nat) (scope : Scope) (body : List Stmt) (names : List Str) (ds : List D) : Option D :=
  gd (Nat.beq ds.length names.length) ((exL (exS T own n scope) body (par0 names ds)).bind endD)

section
variable {C : Cfg} {A : Around} {T : Tab}
theorem lookup_par0 {names : List Str} {ds : List D} {x : Str} {sl : Sl} (h : (par0 names ds).lookup x = some sl) : ∃ d, sl = .val d ∧ (x, d) ∈ names.zip ds := by
  obtain ⟨p, hp, e⟩ := List.mem_map.mp (mem_of_lookup h)
  cases e
  exact ⟨p.2, rfl, hp⟩
theorem zip_rep {Y : Addr → Prop} {h : Heap} {names : List Str} {vs : List Value} {ds : List D} (r : RepL C Y h vs ds) {x d} (hm : (x, d) ∈ names.zip ds) : ∃ v, (x, v) ∈ names.zip vs ∧ Rep C Y h v d := by
  induction names generalizing vs ds with
  | nil => cases hm
  | cons n ns ih =>
    cases ds with
    | nil => cases hm
    | cons d' ds =>
      obtain ⟨v, us, rfl, a, b⟩ := r.cons_inv
      rcases List.mem_cons.mp hm with e | hm
      · cases e; exact ⟨_, .head _, a⟩
      · obtain ⟨v, h1, h2⟩ := ih b hm; exact ⟨v, .tail _ h1, h2⟩
theorem bindL_at {kind : Str → Option NameKind} : ∀ {binds : List (Str × Value)} {m : Str → Option Value} {x : Str} {v : Value}, (binds.map (·.1)).Nodup → (x, v) ∈ binds → kind x = some .local → bindL kind binds m x = some v
  | [], _, _, _, _, hm, _ => by cases hm
  | (n, u) :: r, m, x, v, hnd, hm, hk => by
    simp only [List.map_cons, List.nodup_cons] at hnd
    have skip : ∀ {r : List (Str × Value)} {m : Str → Option Value}, x ∉ r.map (·.1) → bindL kind r m x = m x := by
      intro r
      induction r with
      | nil => intro m _; rfl
      | cons p r ih =>
        intro m hx
        simp only [List.map_cons, List.mem_cons, not_or] at hx
        unfold bindL
        rw [ih hx.2]
        split <;> simp [hx.1]
    unfold bindL
    rcases List.mem_cons.mp hm with e | hm
    · cases e; rw [if_pos hk, skip hnd.1]; simp
    · exact bindL_at hnd.2 hm hk
theorem bindC_at {kind : Str → Option NameKind} : ∀ {binds : List (Str × Value)} {m : Str → Option Value} {x : Str} {v : Value}, (binds.map (·.1)).Nodup → (x, v) ∈ binds → kind x ≠ some .local → bindC kind binds m x = some v
  | [], _, _, _, _, hm, _ => by cases hm
  | (n, u) :: r, m, x, v, hnd, hm, hk => by
    simp only [List.map_cons, List.nodup_cons] at hnd
    have skip : ∀ {r : List (Str × Value)} {m : Str → Option Value}, x ∉ r.map (·.1) → bindC kind r m x = m x := by
      intro r
      induction r with
      | nil => intro m _; rfl
      | cons p r ih =>
        intro m hx
        simp only [List.map_cons, List.mem_cons, not_or] at hx
        unfold bindC
        rw [ih hx.2]
        split <;> simp [hx.1]
    unfold bindC
    rcases List.mem_cons.mp hm with e | hm
    · cases e; rw [if_neg hk, skip hnd.1]; simp
    · exact bindC_at hnd.2 hm hk

structure DefOk (C : Cfg) (a : Addr) (o : Obj) (fd : FuncData) (body : List Stmt) (names : List Str) : Prop where
  at' : C.g.get? a = some o
  data : o.data = .func fd
  lim : C.g.NoLimit
  cd : C.g.CodeRec fd.code fd.qualname
  body : fd.body = .stmts body
  bind : ∀ vs : List Value, vs.length = names.length → bindArgs fd ⟨vs, []⟩ = pure (names.zip vs)
  nodup : names.Nodup
  clo : fd.closure = []
  gl : fd.globals = mainGlobals
  bi : fd.builtins = builtinsNs
  co : fd.scope.isCoroutine = false
  gen : fd.scope.isGenerator = false
  kind : fd.scope.kind = .function
  par : ∀ x ∈ names, fd.scope.names.lookup x = some .local ∨ fd.scope.names.lookup x = some .cell
  free : ∀ x, fd.scope.names.lookup x ≠ some .free
theorem cellsFrom_has : ∀ (names : List (Str × NameKind)) (k : Nat) (acc : List (Str × Addr)) (x : Str), (names.lookup x = some .cell ∨ ∃ c, acc.lookup x = some c) → ∃ c, (cellsFrom k names acc).lookup x = some c
  | [], k, acc, x, h => by
    rcases h with h | h
    · simp at h
    · exact h
  | (n, kd) :: r, k, acc, x, h => by
    unfold cellsFrom
    split
    · rename_i hk
      refine cellsFrom_has r _ _ x ?_
      by_cases q : x = n
      · subst q; exact .inr ⟨k, by simp⟩
      · have hb : (x == n) = false := by simpa using q
        rcases h with h | ⟨c, h⟩
        · rw [List.lookup_cons, hb] at h; exact .inl h
        · exact .inr ⟨c, by rw [List.lookup_cons, hb]; exact h⟩
    · rename_i hk
      refine cellsFrom_has r _ _ x ?_
      rcases h with h | h
      · rw [List.lookup_cons] at h
        split at h
        · cases h; exact absurd rfl hk
        · exact .inl h
      · exact .inr h

theorem fnOk_of {a : Addr} {o : Obj} {fd : FuncData} {body : List Stmt} {names : List Str} {own : List Str} {n : Nat} (ok : DefOk C a o fd body names) (hroom : A.depth < recursionLimit) (hA : ∀ env, Ro (A.deeper env)) (hT : ∀ env, TabOk C (A.deeper env) T) :
    FnOk C A a (funD T own n fd.scope body names) := by
  refine ⟨?_, fun Y s vs ds d b hr he => ?_⟩
  · obtain ⟨oc, od, dt, sl⟩ := o
    have hd := ok.data
    simp only at hd
    subst hd
    exact ⟨oc, od, fd, sl, ok.at'⟩
  · refine gdE he fun hlen he => ?_
    replace hlen := Nat.eq_of_beq_eq_true hlen
    obtain ⟨⟨f, σe⟩, hx, he⟩ := bnd he
    have hvl : vs.length = names.length := hr.length.trans hlen
    have hsnd : ((names.zip vs).map (·.1)) = names := by rw [List.map_fst_zip]; omega
    have hpar : ∀ x ∈ names.zip vs, fd.scope.names.lookup x.1 = some .local ∨ (fd.scope.names.lookup x.1 = some .cell ∧ ((cellsFrom (s.heap.objs.size + 1) fd.scope.names []).lookup x.1).isSome = true) := fun x hx => by
      rcases ok.par x.1 (List.of_mem_zip hx).1 with h | h
      · exact .inl h
      · obtain ⟨c, hc⟩ := cellsFrom_has fd.scope.names (s.heap.objs.size + 1) [] x.1 (.inl h)
        exact .inr ⟨h, by rw [hc]; rfl⟩
    refine wpAny_call (codeAny_call_cells hroom (b.kp _ _ ok.at') ok.data (ok.lim.keeps b.kp) (ok.cd.keeps b.kp) ok.body (ok.bind vs hvl) ok.clo hpar (fun s1 x => ?_) ok.co ok.gen ok.kind)
    generalize henv : callEnvC fd s.heap.objs.size a = env at x ⊢
    have hL : env.locals = s.heap.objs.size := by rw [← henv]; rfl
    have hsc : env.scope = fd.scope := by rw [← henv]; rfl
    have hcells : env.cells = cellsFrom (s.heap.objs.size + 1) fd.scope.names [] := by rw [← henv]; rfl
    have hf : Fm env := ⟨by rw [hsc]; exact ok.kind, by rw [← henv]; exact ok.gl, by rw [← henv]; exact ok.bi, fun y hy => by
      rcases hy with hy | hy
      · rw [hcells]; exact cellsFrom_has _ _ _ _ (.inl (by unfold Env.kindOf at hy; rw [hsc] at hy; exact hy))
      · unfold Env.kindOf at hy; rw [hsc] at hy; exact absurd hy (ok.free y)⟩
    obtain ⟨h1, tk, rfl, hk1⟩ := x.toInCall.done
    have hLn : s.heap.get? env.locals = none := none_of_size (by rw [hL]; exact Nat.le_refl _)
    have hcn : ∀ y c, env.cells.lookup y = some c → s.heap.get? c = none := fun y c hc => none_of_size (Nat.le_of_lt (by have := x.above y c (mem_of_lookup hc); rwa [hL] at this))
    have gn : ∀ {a}, s.heap.get? a = none → C.g.get? a = none := fun {a} h => by
      cases e : C.g.get? a with
      | none => rfl
      | some o => have := b.kp a o e; rw [h] at this; cases this
    have wfn : ∀ a, Wf env (fun _ => []) a → s.heap.get? a = none := fun a w => by
      rcases w with rfl | ⟨y, w⟩ | ⟨y, w⟩
      · exact hLn
      · exact hcn y a w
      · cases w
    have hYn : ∀ a, Y a → ¬ Wf env (fun _ => []) a := fun a y w => b.yl a y (wfn a w)
    have al : ∀ a, s.heap.get? a ≠ none → h1.get? a ≠ none := fun a h q => by
      cases e : s.heap.get? a with
      | none => exact h e
      | some o => rw [hk1 a o e] at q; cases q
    have yfY : ∀ a, Y a → Yf C env (fun a => Y a ∧ ¬ C.Tb a) (fun _ => []) a := fun a y => by
      by_cases t : C.Tb a
      · exact .inr (.inl t)
      · exact .inl ⟨y, t⟩
    have inv : Inv C env (fun a => Y a ∧ ¬ C.Tb a) (fun _ => []) (par0 names ds) { s with heap := h1, toks := tk } := by
      refine ⟨fun b' o e => hk1 b' o (b.kp b' o e), b.jj.keep hk1, b.gb, fun a y => ?_, fun a y => ?_, fun a z => ⟨z.2, hYn a z.1⟩, fun a t => hYn a (b.ty a t), ⟨_, x.toInCall.ns⟩, fun y c hc => ⟨_, x.cell y c hc⟩, fun y c hc q => ?_, fun y z c h1' h2' => name_of_addr x.apart (mem_of_lookup h1') (mem_of_lookup h2'), fun y a ha => (nomatch ha), fun y z _ a ha => (nomatch ha), fun y sl e => ?_, fun a y o e => ?_⟩
      · rcases y with z | t | w
        · exact al a (b.yl a z.1)
        · exact al a (b.yl a (b.ty a t))
        · rcases w with rfl | ⟨y, w⟩ | ⟨y, w⟩
          · obtain ⟨o, _, _, e, _⟩ := x.toInCall.ns; rw [e]; simp
          · obtain ⟨o, e, _⟩ := x.cell y a w; rw [e]; simp
          · cases w
      · rcases y with z | t | w
        · exact b.yg a z.1
        · exact Cfg.tb_none t
        · exact gn (wfn a w)
      · have := x.above y c (mem_of_lookup hc); rw [q] at this; exact Nat.lt_irrefl _ this
      · obtain ⟨d', rfl, hm⟩ := lookup_par0 e
        obtain ⟨v, hmv, hrv⟩ := zip_rep hr hm
        have hrep : Rep C (Yf C env (fun a => Y a ∧ ¬ C.Tb a) (fun _ => [])) h1 v d' := hrv.mono fun b' o hb e => ⟨hk1 b' o e, fun q => by
          rcases q with z | t | w
          · exact hb z.1
          · exact hb (b.ty b' t)
          · have := wfn b' w; rw [this] at e; cases e⟩
        refine .var ?_ (.val hrep)
        have hyn : y ∈ names := (List.of_mem_zip hmv).1
        have hkd : env.kindOf y = fd.scope.names.lookup y := by unfold Env.kindOf; rw [hsc]
        have hnd : ((names.zip vs).map (·.1)).Nodup := by rw [hsnd]; exact ok.nodup
        rcases ok.par y hyn with h | h
        · exact .inl ⟨by rw [hkd]; exact h, _, x.toInCall.ns, bindL_at hnd hmv (by rw [hkd]; exact h)⟩
        · obtain ⟨c, hc⟩ := hf.c y (.inl (by rw [hkd]; exact h))
          refine .inr ⟨.inl (by rw [hkd]; exact h), c, hc, ?_⟩
          have := x.cell y c hc
          rwa [bindC_at hnd hmv (by rw [hkd, h]; simp)] at this
      · have old : ∀ a, Y a → ∀ o, h1.get? a = some o → ¬ isCd o := fun a y o e => by
          cases q : s.heap.get? a with
          | none => exact absurd q (b.yl a y)
          | some o' => rw [hk1 a o' q] at e; cases e; exact b.yc a y _ q
        rcases y with z | t | w
        · exact old a z.1 o e
        · exact old a (b.ty a t) o e
        · rcases w with rfl | ⟨y, w⟩ | ⟨y, w⟩
          · exact notCd_ns x.toInCall.ns o e
          · exact notCd_cell (x.cell y a w) o e
          · cases w
    have fin : ∀ (f : FlD) (σ' : St), exL (exS T own n fd.scope) body (par0 names ds) = some (f, σ') → (f = .ret d ∨ f = .next ∧ d = .none) → _ := fun f σ' hx hd =>
      (exL_ok (fun σ st f σ' => exS_sound (hA env) hf (hT env) hsc own n σ st f σ') hx).use inv (Q := fun fl s' => Kp C s s' ∧ Rep C Y s'.heap (match fl with | .ret v => v | _ => .none) d) (E := fun e s' =>
        wpAny C.M (A.deeper env) (leaving env e) (fun _ s'' => False) (fun e' s'' => False) s') fun fl θ' s' i' st' fr => by
        refine ⟨⟨st'.go.os, fun b' o hb e => ?_, fun _ => i'.gb, fun _ => i'.jj⟩, ?_⟩
        · refine st'.go.kp b' o (fun q => ?_) (hk1 b' o e)
          rcases q with t | w
          · exact hb t
          · have := wfn b' w.wf; rw [this] at e; cases e
        · have less : ∀ a, Y a → Yf C env (fun a => Y a ∧ ¬ C.Tb a) θ' a := fun a y => by
            by_cases t : C.Tb a
            · exact .inr (.inl t)
            · exact .inl ⟨y, t⟩
          rcases hd with rfl | ⟨rfl, rfl⟩
          · cases fr with | ret r => exact r.mono fun b' o hb e => ⟨e, fun q => hb (less b' q)⟩
          · cases fr; exact .none
    exact wpAny_mono (fin _ _ hx (endD_some he)) (fun fl s' q => q) fun e s' q => q
theorem FnOk.mono {a : Addr} {F G : List D → Option D} (h : FnOk C A a G) (hFG : ∀ ds d, F ds = some d → G ds = some d) : FnOk C A a F := ⟨h.at', fun Y s vs ds d b r e => h.run Y s vs ds d b r (hFG ds d e)⟩
end
end Mine

end

section
open PySem PySem.W PyProof.Rows PySem.Calls
set_option maxRecDepth 100000
set_option linter.unusedVariables false
namespace Mine
structure CloOk (fd : FuncData) (body : List Stmt) (names : List Str) (x0 : Str) (c : Addr) : Prop where
  body : fd.body = .stmts body
  bind : ∀ vs : List Value, vs.length = names.length → bindArgs fd ⟨vs, []⟩ = pure (names.zip vs)
  nodup : names.Nodup
  clo : fd.closure = [(x0, c)]
  gl : fd.globals = mainGlobals
  bi : fd.builtins = builtinsNs
  co : fd.scope.isCoroutine = false
  gen : fd.scope.isGenerator = false
  kind : fd.scope.kind = .function
  par : ∀ x ∈ names, fd.scope.names.lookup x = some .local
  cel : ∀ x ∈ fd.scope.names, x.2 ≠ .cell
  fre : fd.scope.names.lookup x0 = some .free
  one : ∀ x, fd.scope.names.lookup x = some .free → x = x0
  nn : x0 ∉ names
  cd : (x0 == ("__classdict__" : Str)) = false
noncomputable def cloD (T : Tab) (own : List Str) (n : Nat) (scope : Scope) (body : List Stmt) (names : List Str) (x0 : Str) (d0 : D) (ds : List D) : Option D :=
  gd (Nat.beq ds.length names.length) ((exL (exS T own n scope) body ((x0, .val d0) :: par0 names ds)).bind endD)
section
variable {C : Cfg} {A : Around} {T : Tab}
theorem lookup_zip_rev {names : List Str} {vs : List Value} {x : Str} {v : Value} (hnd : ((names.zip vs).map (·.1)).Nodup) (h : (x, v) ∈ names.zip vs) : (names.zip vs).reverse.lookup x = some v := by
  have hnd' : (((names.zip vs).reverse).map (·.1)).Nodup := by rw [List.map_reverse]; exact (List.pairwise_reverse).mpr (List.Pairwise.imp Ne.symm hnd)
  have hm : (x, v) ∈ (names.zip vs).reverse := by simpa using h
  revert hm hnd'
  generalize (names.zip vs).reverse = l
  intro hnd' hm
  induction l with
  | nil => cases hm
  | cons p r ih =>
    obtain ⟨y, u⟩ := p
    simp only [List.map_cons, List.nodup_cons] at hnd'
    rcases List.mem_cons.mp hm with e | hm
    · cases e; simp
    · have hne : (x == y) = false := by
        simp only [beq_eq_false_iff_ne, ne_eq]
        rintro rfl
        exact hnd'.1 (by have : (x, v) ∈ r := by assumption
                         exact List.mem_map_of_mem (f := (·.1)) this)
      rw [List.lookup_cons, hne]
      exact ih hnd'.2 hm
theorem clo_run {a c : Addr} {o : Obj} {fd : FuncData} {body : List Stmt} {names own : List Str} {x0 : Str} {n : Nat} {Y : Addr → Prop} {s : Shared} {vs : List Value} {ds : List D} {v0 : Value} {d0 d : D}
    (ok : CloOk fd body names x0 c) (hroom : A.depth < recursionLimit) (hA : ∀ env, Ro (A.deeper env)) (hT : ∀ env, TabOk C (A.deeper env) T) (hlim : C.g.NoLimit)
    (ho : s.heap.get? a = some o) (hd : o.data = .func fd) (hcd : s.heap.CodeRec fd.code fd.qualname) (b : Bs C Y s) (hc : s.heap.IsCell c (some v0)) (hcY : ¬ Y c) (hcg : C.g.get? c = none) (h0 : ∀ Y', Rep C Y' s.heap v0 d0)
    (hr : RepL C Y s.heap vs ds) (hr' : ∀ Y', (∀ a, s.heap.get? a ≠ none → Y' a → Y a ∨ a = c) → RepL C Y' s.heap vs ds) (he : cloD T own n fd.scope body names x0 d0 ds = some d) :
    wpAny C.M A (call (.ref a) vs) (fun v s' => Kp C s s' ∧ Rep C Y s'.heap v d) (fun _ _ => False) s := by
  refine gdE he fun hlen he => ?_
  replace hlen := Nat.eq_of_beq_eq_true hlen
  obtain ⟨⟨f, σe⟩, hx, he⟩ := bnd he
  have hvl : vs.length = names.length := hr.length.trans hlen
  have hsnd : ((names.zip vs).map (·.1)) = names := by rw [List.map_fst_zip]; omega
  have hnd : ((names.zip vs).map (·.1)).Nodup := by rw [hsnd]; exact ok.nodup
  refine wpAny_call (codeAny_call_def hroom ho hd (hlim.keeps b.kp) hcd ok.body (BindsTo.of_eq (ok.bind vs hvl)) ok.cel (fun x hx => ok.par x.1 (List.of_mem_zip hx).1) (fun h1 hns hk1 => ?_) ok.co ok.gen ok.kind)
  generalize henv : callEnv fd s.heap.objs.size a = env
  have hL : env.locals = s.heap.objs.size := by rw [← henv]; rfl
  have hsc : env.scope = fd.scope := by rw [← henv]; rfl
  have hcells : env.cells = [(x0, c)] := by rw [← henv]; exact ok.clo
  have hkd : ∀ y, env.kindOf y = fd.scope.names.lookup y := fun y => by unfold Env.kindOf; rw [hsc]
  have ncell : ∀ y, env.kindOf y ≠ some .cell := fun y q => by rw [hkd] at q; exact ok.cel _ (lookup_mem q) rfl
  have hlc : env.cells.lookup x0 = some c := by rw [hcells]; simp
  have hone : ∀ y c', env.cells.lookup y = some c' → y = x0 ∧ c' = c := fun y c' h => by
    rw [hcells] at h
    simp only [List.lookup_cons, List.lookup_nil] at h
    split at h
    · rename_i q; cases h; exact ⟨eq_of_beq q, rfl⟩
    · cases h
  have hf : Fm env := ⟨by rw [hsc]; exact ok.kind, by rw [← henv]; exact ok.gl, by rw [← henv]; exact ok.bi, fun y hy => by
    rcases hy with hy | hy
    · exact absurd hy (ncell y)
    · rw [hkd] at hy; exact ⟨c, by rw [ok.one y hy]; exact hlc⟩⟩
  have hLn : s.heap.get? env.locals = none := none_of_size (by rw [hL]; exact Nat.le_refl _)
  obtain ⟨oc, hoc, hcd1⟩ := id hc
  have gn : ∀ {a}, s.heap.get? a = none → C.g.get? a = none := fun {a} h => by
    cases e : C.g.get? a with
    | none => rfl
    | some o => have := b.kp a o e; rw [h] at this; cases this
  have wf : ∀ a, Wf env (fun _ => []) a → a = env.locals ∨ a = c := fun a w => by
    rcases w with rfl | ⟨y, w⟩ | ⟨y, w⟩
    · exact .inl rfl
    · exact .inr (hone y a w).2
    · cases w
  have hcL : c ≠ env.locals := fun q => by rw [q, hLn] at hoc; cases hoc
  have tbc : ¬ C.Tb c := fun t => hcY (b.ty c t)
  have hYn : ∀ a, Y a → ¬ Wf env (fun _ => []) a := fun a y w => by
    rcases wf a w with rfl | rfl
    · exact b.yl _ y hLn
    · exact hcY y
  have al : ∀ a, s.heap.get? a ≠ none → h1.get? a ≠ none := fun a h q => by
    cases e : s.heap.get? a with
    | none => exact h e
    | some o => rw [hk1 a o e] at q; cases q
  have old : ∀ a, s.heap.get? a ≠ none → (∀ o, s.heap.get? a = some o → ¬ isCd o) → ∀ o, h1.get? a = some o → ¬ isCd o := fun a hn hc o e => by
    cases q : s.heap.get? a with
    | none => exact absurd q hn
    | some o' => rw [hk1 a o' q] at e; cases e; exact hc _ q
  have hns' : h1.Ns env.locals (fun x => (names.zip vs).reverse.lookup x) := by rw [hL]; exact hns
  have inv : Inv C env (fun a => Y a ∧ ¬ C.Tb a) (fun _ => []) ((x0, .val d0) :: par0 names ds) { s with heap := h1, toks := s.toks + (names.zip vs).length } := by
    refine ⟨fun b' o e => hk1 b' o (b.kp b' o e), b.jj.keep hk1, b.gb, fun a y => ?_, fun a y => ?_, fun a z => ⟨z.2, hYn a z.1⟩, fun a t => hYn a (b.ty a t), ⟨_, hns'⟩, fun y c' hc' => ?_, fun y c' hc' => ?_, fun y z c' h1' h2' => (hone y c' h1').1.trans (hone z c' h2').1.symm, fun y a ha => (nomatch ha), fun y z _ a ha => (nomatch ha), fun y sl e => ?_, fun a y o e => ?_⟩
    · rcases y with z | t | w
      · exact al a (b.yl a z.1)
      · exact al a (b.yl a (b.ty a t))
      · rcases wf a w with rfl | rfl
        · obtain ⟨o, _, _, e, _⟩ := hns'; show h1.get? _ ≠ none; rw [e]; simp
        · exact al _ (by rw [hoc]; simp)
    · rcases y with z | t | w
      · exact b.yg a z.1
      · exact Cfg.tb_none t
      · rcases wf a w with rfl | rfl
        · exact gn hLn
        · exact hcg
    · rw [(hone y c' hc').2]; exact ⟨_, IsCell.at1 hc fun o e => hk1 _ o e⟩
    · rw [(hone y c' hc').2]; exact hcL
    · rw [List.lookup_cons] at e
      split at e
      · rename_i q
        cases e
        have hy : y = x0 := eq_of_beq q
        subst hy
        exact .var (.inr ⟨.inr ⟨by rw [hkd]; exact ok.fre, ok.cd⟩, c, hlc, IsCell.at1 hc fun o e => hk1 _ o e⟩) (.val ((h0 (fun a => Yf C env (fun a => Y a ∧ ¬ C.Tb a) (fun _ => []) a)).mono fun b' o hb e => ⟨hk1 b' o e, hb⟩))
      · obtain ⟨d', rfl, hm⟩ := lookup_par0 e
        have hrl := hr' (Yf C env (fun a => Y a ∧ ¬ C.Tb a) (fun _ => [])) fun a hn q => by
          rcases q with z | t | w
          · exact .inl z.1
          · exact .inl (b.ty a t)
          · rcases wf a w with rfl | rfl
            · exact absurd hLn hn
            · exact .inr rfl
        obtain ⟨v, hmv, hrv⟩ := zip_rep hrl hm
        have hyn : y ∈ names := (List.of_mem_zip hmv).1
        exact .var (.inl ⟨by rw [hkd]; exact ok.par y hyn, _, hns', lookup_zip_rev hnd hmv⟩) (.val (hrv.mono fun b' o hb e => ⟨hk1 b' o e, hb⟩))
    · rcases y with z | t | w
      · exact old a (b.yl a z.1) (b.yc a z.1) o e
      · exact old a (b.yl a (b.ty a t)) (b.yc a (b.ty a t)) o e
      · rcases wf a w with rfl | rfl
        · exact notCd_ns hns' o e
        · exact notCd_cell (IsCell.at1 hc fun o e => hk1 _ o e) o e
  have fin : ∀ (f : FlD) (σ' : St), exL (exS T own n fd.scope) body ((x0, .val d0) :: par0 names ds) = some (f, σ') → (f = .ret d ∨ f = .next ∧ d = .none) → _ := fun f σ' hx hd =>
    (exL_ok (fun σ st f σ' => exS_sound (hA env) hf (hT env) hsc own n σ st f σ') hx).use inv (Q := fun fl s' => Kp C s s' ∧ Rep C Y s'.heap (match fl with | .ret v => v | _ => .none) d) (E := fun e s' =>
      wpAny C.M (A.deeper env) (leaving env e) (fun _ s'' => False) (fun e' s'' => False) s') fun fl θ' s' i' st' fr => by
      refine ⟨⟨st'.go.os, fun b' o hb e => ?_, fun _ => i'.gb, fun _ => i'.jj⟩, ?_⟩
      · refine st'.go.kp b' o (fun q => ?_) (hk1 b' o e)
        rcases q with t | w
        · exact hb t
        · rcases w with rfl | ⟨y, hy, w⟩ | ⟨y, w⟩
          · rw [hLn] at e; cases e
          · exact ncell y hy
          · cases w
      · have less : ∀ a, Y a → Yf C env (fun a => Y a ∧ ¬ C.Tb a) θ' a := fun a y => by
          by_cases t : C.Tb a
          · exact .inr (.inl t)
          · exact .inl ⟨y, t⟩
        rcases hd with rfl | ⟨rfl, rfl⟩
        · cases fr with | ret r => exact r.mono fun b' o hb e => ⟨e, fun q => hb (less b' q)⟩
        · cases fr; exact .none
  exact wpAny_mono (fin _ _ hx (endD_some he)) (fun fl s' q => q) fun e s' q => q
end
end Mine

end

section
open PySem PySem.W PyProof.Rows PySem.Calls
set_option maxRecDepth 100000
set_option linter.unusedVariables false
namespace Mine

noncomputable def reachQ : Str := Str.ofString "_law_rule.<locals>.reach"
noncomputable abbrev tab2 (c1 c2 : Value) : Obj := ⟨.none, none, .fields #[.int 102 0, .int 4 0, c1, .int 105 0, .int 11 0, c2], #[]⟩
noncomputable def isT (l c : Int) : Heap → Obj → Prop := fun _ o => o = tab0 ∨ ∃ cd, o = tab1 l c cd
noncomputable def isR : Heap → Obj → Prop := fun h o => o = tab0 ∨ ∃ c1 c2, o = tab2 (.ref c1) c2 ∧ c1 ≠ 111 ∧ c1 ≠ 118 ∧ c1 ≠ 159 ∧ ∃ oc, h.get? c1 = some oc ∧ isCd oc ∧ ∃ vs t, oc.data = .fields vs ∧ vs[1]? = some (.str reachQ t)
theorem isT_cls {l c : Int} {h : Heap} {o : Obj} (q : isT l c h o) : o.cls = .none := by
  rcases q with rfl | ⟨cd, rfl⟩ <;> rfl
theorem isR_cls {h : Heap} {o : Obj} (q : isR h o) : o.cls = .none := by
  rcases q with rfl | ⟨c1, c2, rfl, _⟩ <;> rfl
theorem isR_mono {h h' : Heap} {o : Obj} (hk : ∀ b o', isCd o' → b ∉ [(111 : Addr), 118, 159] → h.get? b = some o' → h'.get? b = some o') (q : isR h o) : isR h' o := by
  rcases q with q | ⟨c1, c2, e, n1, n2, n3, oc, ho, hc, r⟩
  · exact .inl q
  · exact .inr ⟨c1, c2, e, n1, n2, n3, oc, hk _ _ hc (nm3 n1 n2 n3) ho, hc, r⟩
structure Gd (w : World) (g : Heap) : Prop where
  X : (K2 w.params).In g
  T : ∃ loose mean mg mb, Top topProg loose mean mg mb g
  n1 : g.get? 111 = none
  n2 : g.get? 118 = none
  n3 : g.get? 159 = none
noncomputable abbrev tabsR : List (Addr × (Heap → Obj → Prop)) := [(111, isT 80 19), (118, isT 83 32), (159, isR)]
theorem Gd.lim {w : World} {g : Heap} (G : Gd w g) : g.NoLimit := let ⟨_, _, _, _, T⟩ := G.T; T.nolimit
@[reducible] noncomputable def Cf {w : World} {g : Heap} (ob : Nat → List D → Heap → Value → Prop) (G : Gd w g) : Cfg where
  prog := PySem.Challenge.rw_rs0050_02.row.prog
  w := w
  g := g
  tabs := tabsR
  gm := fun p hp h h' o hk => gl_cons (P := fun p : Addr × (Heap → Obj → Prop) => p.2 h o → p.2 h' o) id (gl_cons id (gl_cons (isR_mono hk) gl_nil)) p hp
  gt := fun p hp => gl_cons (P := fun p : Addr × (Heap → Obj → Prop) => g.get? p.1 = none) G.n1 (gl_cons G.n2 (gl_cons G.n3 gl_nil)) p hp
  gc := fun p hp h o q c => by
    have hn : o.cls = .none := gl_cons (P := fun p : Addr × (Heap → Obj → Prop) => p.2 h o → o.cls = .none) (isT_cls (h := h)) (gl_cons (isT_cls (h := h)) (gl_cons (isR_cls (h := h)) gl_nil)) p hp q
    rw [c.1] at hn; cases hn
  gs := let ⟨_, ⟨o, _, _, e, _⟩, _⟩ := G.lim; ⟨o, e⟩
  ob := ob
  accO := fun d its n => accO d its n
  sizD := fun m t t2 => sizD w m t t2
  accK := fun x d => Nat.lt d x ∧ Nat.le 185 d
  ac := fun d its n c => by cases c.1
  sc := fun m t t2 c => by obtain ⟨_, vs, q⟩ := c; cases q

section
variable {w : World} {g : Heap} {ob : Nat → List D → Heap → Value → Prop} {G : Gd w g} {A : Around} {Y : Addr → Prop}
theorem tb_iff {a : Addr} : (Cf ob G).Tb a ↔ a = 111 ∨ a = 118 ∨ a = 159 :=
  ⟨fun h => gl_cons (P := fun a => a = 111 ∨ a = 118 ∨ a = 159) (.inl rfl) (gl_cons (.inr (.inl rfl)) (gl_cons (.inr (.inr rfl)) gl_nil)) a h, fun h => h.elim (fun e => e ▸ m0) fun h => h.elim (fun e => e ▸ m1) fun e => e ▸ m2⟩
theorem kp_of {s s' : Shared} {l : List Addr} (os : s'.os = s.os) (gb : AllBare s'.gens) (k : ∀ b o, (hideAll s.heap l).get? b = some o → s'.heap.get? b = some o)
    (hl : ∀ a ∈ l, (Cf ob G).Tb a ∨ ∃ o, s.heap.get? a = some o ∧ s'.heap.get? a = some o)
    (hj : ∀ p ∈ tabsR, p.1 ∈ l → (Cf ob G).J s.heap → ∃ o, s'.heap.get? p.1 = some o ∧ p.2 s'.heap o) : Kp (Cf ob G) s s' := by
  have kp : KeepP (Cf ob G).Tb s.heap s'.heap := fun b o hb e => by
    by_cases h : b ∈ l
    · rcases hl b h with t | ⟨o', e1, e2⟩
      · exact absurd t hb
      · rw [e] at e1; cases e1; exact e2
    · exact k b o (hideAll_get _ e h)
  refine ⟨os, kp, fun _ => gb, fun j p hp => ?_⟩
  by_cases h : p.1 ∈ l
  · exact hj p hp h j
  · obtain ⟨o, ho, q⟩ := j p hp
    exact ⟨o, k _ _ (hideAll_get _ ho h), (Cf ob G).gm p hp _ _ o (fun b o' c hb e => kp b o' hb e) q⟩
theorem gr_of (G : Gd w g) {s : Shared} {l : List Addr} {dp un : Nat} {gd : Option (List Code)} {outer : List Env} (kp : Keep g s.heap) (hl : ∀ a ∈ l, g.get? a = none) :
    ∃ loose mean mg mb, Gr (K2 w.params) (topA dp un gd outer) s.heap outer loose mean mg mb (hideAll s.heap l) s := by
  obtain ⟨loose, mean, mg, mb, T⟩ := G.T
  have st : ∀ b o, g.get? b = some o → (hideAll s.heap l).get? b = some o := fun b o e => hideAll_get _ (kp b o e) fun q => by rw [hl b q] at e; cases e
  exact ⟨loose, mean, mg, mb, G.X.keeps st, T.keeps st, fun b o e => of_hideAll _ e, Nat.le_of_eq (hideAll_size _ _)⟩
theorem cels_of {h : Heap} {ps : List (Str × Str)} {vs : List Value} (hr : RepL (Cf ob G) Y h vs (ps.map pairD)) : ∃ cs : List Cel, vs = refs cs ∧ cs.map (fun c => (c.ws, c.pt)) = ps ∧ ∀ c ∈ cs, h.IsTuple c.ad c.vs ∧ ¬ Y c.ad := by
  induction ps generalizing vs with
  | nil => rw [hr.nil_inv]; exact ⟨[], rfl, rfl, gl_nil⟩
  | cons p ps ih =>
    obtain ⟨v, us, rfl, a, b⟩ := hr.cons_inv
    obtain ⟨cs, rfl, rfl, e3⟩ := ih b
    obtain ⟨ad, vs', rfl, ha, hg, hl⟩ := a.tup_inv
    obtain ⟨_, us, rfl, r1, hl⟩ := hl.cons_inv
    obtain ⟨_, us, rfl, r2, hl⟩ := hl.cons_inv
    obtain rfl := hl.nil_inv
    obtain ⟨t1, rfl⟩ := r1.str_inv
    obtain ⟨t2, rfl⟩ := r2.str_inv
    exact ⟨⟨ad, p.1, t1, p.2, t2⟩ :: cs, rfl, rfl, gl_cons ⟨hg, ha⟩ e3⟩
theorem tab_at {s : Shared} (b : Bs (Cf ob G) Y s) {p} (hp : p ∈ tabsR) : ∃ o, s.heap.get? p.1 = some o ∧ p.2 s.heap o := b.jj p hp

theorem tab_own {x d n : Addr} (hx : ¬ (Cf ob G).Tb x) (hd : ¬ (Cf ob G).Tb d) {p} (hp : p ∈ tabsR) (hl : p.1 ∈ [x, d, n]) : p.1 = n := by
  have t : (Cf ob G).Tb p.1 := List.mem_map_of_mem hp
  rcases List.mem_cons.mp hl with q | hl
  · exact absurd (q ▸ t) hx
  rcases List.mem_cons.mp hl with q | hl
  · exact absurd (q ▸ t) hd
  exact List.mem_singleton.mp hl
theorem tab_one {P : Addr × (Heap → Obj → Prop) → Prop} {n : Addr} {p} (hp : p ∈ tabsR) (e : p.1 = n) (h1 : n = 111 → P (111, isT 80 19)) (h2 : n = 118 → P (118, isT 83 32)) (h3 : n = 159 → P (159, isR)) : P p :=
  gl_cons (P := fun p => p.1 = n → P p) (fun e => h1 e.symm) (gl_cons (fun e => h2 e.symm) (gl_cons (fun e => h3 e.symm) gl_nil)) p hp e
theorem acc_str_ok (h0 : A.handled = none) (hd : A.depth ≤ 399) (hu : A.units ≤ 400) {m : Int} {ps : List (Str × Str)} (hn : ps.length ≤ 3) (hlen : ∀ p ∈ ps, p.1.length + p.2.length ≤ 100) :
    AccStrOk (Cf ob G) A m ps (Txt.join "" (ps.map fun c => Txt.join "" [c.1, c.2])) := by
  intro Y s v as b has hc
  obtain ⟨x, d, vs, t1, t2, ep, rfl, rfl, hx, hd', hk, hr⟩ := hc.acc_inv
  clear hc
  obtain ⟨cs, rfl, rfl, hcs⟩ := cels_of hr
  obtain ⟨ot, hot, hoT⟩ := tab_at b (p := (118, isT 83 32)) m1
  have yx := has x m0
  have yd := has d m1
  refine wpAny_top h0 fun gd outer => ?_
  have hg : ∀ a ∈ [x, d, 118], g.get? a = none := gl_cons (b.yg _ yx.1) (gl_cons (b.yg _ yd.1) (gl_cons G.n2 gl_nil))
  obtain ⟨loose, mean, mg, mb, Gg⟩ := gr_of G (s := s) (dp := A.depth) (un := A.units + 2) (gd := gd) (outer := outer) b.kp hg
  refine kso_call (K := K2 w.params) (f := 123) (by (show A.units + 1 + 1 < cLine); simp only [cLine]; omega) (G.X.keeps b.kp) (x := x) (ox := accO d (refs cs).toArray ep) (C := 148) (od := some (sizD w m t1 t2)) ⟨hx, rfl, rfl, hd'⟩ (by kernel_rfl) (by kernel_rfl) ?_
  refine str_raw (dp := A.depth) (un := A.units + 2) (x := x) (d := d) (ps := cs) (ep := ep) (ot := ot) (i := m) (t1 := t1) (t2 := t2) Gg (K1_of_K2 Gg.X) (by omega) (by omega) (al_cons ⟨hx, hideAll_none _ m0⟩ (al_cons ⟨hd', hideAll_none _ m1⟩ (al_cons ⟨hot, hideAll_none _ m2⟩ al_nil))) hk.1 hk.2 hoT (by rwa [List.length_map] at hn) (fun c hc => (hcs c hc).1.at fun o e => hideAll_get _ e ?_) (fun c hc => hlen _ (List.mem_map_of_mem (f := fun c : Cel => (c.ws, c.pt)) hc)) b.gb fun s' t' cd k' hx' hd2 ht ho hb => ?_
  · have hy := (hcs c hc).2
    exact nm3 (fun q => hy (q ▸ yx.1)) (fun q => hy (q ▸ yd.1)) (fun q => hy (q ▸ b.ty 118 (tb_iff.mpr (.inr (.inl rfl)))))
  · refine ⟨kp_of ho hb k' (fun a ha => ?_) fun p hp hl _ => ?_, ?_⟩
    · exact gl_cons (P := fun a => (Cf ob G).Tb a ∨ ∃ o, s.heap.get? a = some o ∧ s'.heap.get? a = some o) (.inr ⟨_, hx, hx'⟩) (gl_cons (.inr ⟨_, hd', hd2⟩) (gl_cons (.inl (tb_iff.mpr (.inr (.inl rfl)))) gl_nil)) a ha
    · exact tab_one (P := fun p => ∃ o, s'.heap.get? p.1 = some o ∧ p.2 s'.heap o) hp (tab_own yx.2 yd.2 hp hl) nofun (fun _ => ⟨_, ht, .inr ⟨cd, rfl⟩⟩) nofun
    · have e : (cs.map fun c => Txt.join "" [c.ws, c.pt]) = ((cs.map fun c => (c.ws, c.pt)).map fun c => Txt.join "" [c.1, c.2]) := by rw [List.map_map]; rfl
      rw [e]
      exact .str _ _
end
end Mine

end

section
open PySem PySem.W PyProof.Rows PySem.Calls
set_option maxRecDepth 100000
set_option linter.unusedVariables false
namespace Mine
section
variable {w : World} {g : Heap} {ob : Nat → List D → Heap → Value → Prop} {G : Gd w g} {A : Around} {Y : Addr → Prop}
theorem len_own {K : Frag} {M : Model} {A : Around} {s : Shared} {x f C : Addr} {ox : Obj} {od : Option Obj} {Q E : Value → Shared → Prop} {prog : Program} (X : K.In s.heap) (I : InstAt s.heap x ox C od) (hs : findIn K (.ref C) "__len__" = some (some (.ref f))) (hf : isFn K (.ref f) = true)
    (h : wpAny (model prog w) A.in1 (call (.ref f) [.ref x]) (fun v s' => ∃ (n : Int) (t : Tok), v = .int n t ∧ 0 ≤ n ∧ n < 2 ^ 63 ∧ ∀ t' tk, Q (.int n t') { s' with toks := tk }) E s) : wpAny (model prog w) A (call (.builtin "len") [.ref x]) Q E s := by
  refine Calls.call_function_entry kind_len plain_len entry_len (args_len1 _) ?_
  unfold Builtin.«len»
  refine wpAny_bind (m := oneArg "len" _) (wpAny_pure ?_)
  refine wpAny_bind (m := callSpecial? (.ref x) (Str.ofString "__len__")) (special_fn X I hs (beq_iff_eq.mp hf) (wpAny_mono h (fun r s' hr => ?_) fun _ _ y => y))
  obtain ⟨n, t, rfl, h0, h1, hq⟩ := hr
  refine wpAny_bind (wpAny_holding (wpAny_pure ?_))
  refine wpAny_bind (wpAny_letGo ?_)
  have c0 : ¬ n < 0 := by omega
  have c1 : ¬ n ≥ 2 ^ 63 := by omega
  show wpAny _ _ (if n < 0 then _ else _) _ _ _
  rw [if_neg c0]
  show wpAny _ _ (if n ≥ 2 ^ 63 then _ else _) _ _ _
  rw [if_neg c1]
  exact wpAny_bind (wpAny_mkInt (wpAny_pure ⟨_, rfl, hq _ _⟩))
theorem sum_nat : ∀ (l : List Nat), ((l.map Int.ofNat).sum) = ((l.sum : Nat) : Int)
  | [] => rfl
  | a :: l => by
    rw [List.map_cons, List.sum_cons, List.sum_cons, sum_nat l]
    rfl
theorem sum_le : ∀ (l : List Nat), (∀ n ∈ l, n ≤ 100) → l.sum ≤ 100 * l.length
  | [], _ => Nat.zero_le _
  | a :: l, h => by
    rw [List.sum_cons, List.length_cons, Nat.mul_succ, Nat.add_comm]
    exact Nat.add_le_add (sum_le l fun n hn => h n (.tail _ hn)) (h a (.head _))
theorem acc_len_ok (h0 : A.handled = none) (hd : A.depth ≤ 399) (hu : A.units ≤ 400) {m : Int} {ps : List (Str × Str)} (hn : ps.length ≤ 3) (hlen : ∀ p ∈ ps, p.1.length + p.2.length ≤ 100) (hm : 0 ≤ m ∧ m ≤ 1000000) :
    AccLenOk (Cf ob G) A m ps (m + ((ps.map fun c => c.1.length + c.2.length).sum : Nat)) := by
  intro Y s v as b has hc
  obtain ⟨x, d, vs, t1, t2, ep, rfl, rfl, hx, hd', hk, hr⟩ := hc.acc_inv
  clear hc
  obtain ⟨cs, rfl, rfl, hcs⟩ := cels_of hr
  obtain ⟨ot, hot, hoT⟩ := tab_at b (p := (111, isT 80 19)) m0
  have yx := has x m0
  have yd := has d m1
  refine wpAny_top h0 fun gd outer => ?_
  have hg : ∀ a ∈ [x, d, 111], g.get? a = none := gl_cons (b.yg _ yx.1) (gl_cons (b.yg _ yd.1) (gl_cons G.n1 gl_nil))
  obtain ⟨loose, mean, mg, mb, Gg⟩ := gr_of G (s := s) (dp := A.depth) (un := A.units + 1) (gd := gd) (outer := outer) b.kp hg
  refine len_own (K := K2 w.params) (M := (Cf ob G).M) (f := 116) (G.X.keeps b.kp) (x := x) (ox := accO d (refs cs).toArray ep) (C := 148) (od := some (sizD w m t1 t2)) ⟨hx, rfl, rfl, hd'⟩ (by kernel_rfl) (by kernel_rfl) ?_
  refine len_raw (dp := A.depth) (un := A.units + 1) (x := x) (d := d) (ps := cs) (ep := ep) (ot := ot) (i := m) (t1 := t1) (t2 := t2) Gg (K1_of_K2 Gg.X) (by omega) (by omega) (al_cons ⟨hx, hideAll_none _ m0⟩ (al_cons ⟨hd', hideAll_none _ m1⟩ (al_cons ⟨hot, hideAll_none _ m2⟩ al_nil))) hk.1 hk.2 hoT (by rwa [List.length_map] at hn) (fun c hc => (hcs c hc).1.at fun o e => hideAll_get _ e ?_) (fun c hc => hlen _ (List.mem_map_of_mem (f := fun c : Cel => (c.ws, c.pt)) hc)) b.gb (by omega) fun s' t' cd k' hx' hd2 ht ho hb => ?_
  · have hy := (hcs c hc).2
    exact nm3 (fun q => hy (q ▸ yx.1)) (fun q => hy (q ▸ yd.1)) (fun q => hy (q ▸ b.ty 111 (tb_iff.mpr (.inl rfl))))
  · have e1 : ((cs.map fun c => ((c.ws.length + c.pt.length : Nat) : Int)).sum) = ((((cs.map fun c => (c.ws, c.pt)).map fun c => c.1.length + c.2.length).sum : Nat) : Int) := by
      rw [← sum_nat, List.map_map, List.map_map]
      exact congrArg List.sum (List.map_congr_left fun c _ => rfl)
    have e2 : ((cs.map fun c => (c.ws, c.pt)).map fun c => c.1.length + c.2.length).sum ≤ 100 * cs.length := by
      have := sum_le ((cs.map fun c => (c.ws, c.pt)).map fun c => c.1.length + c.2.length) (by
        intro n hn
        obtain ⟨c, hc, rfl⟩ := List.mem_map.mp hn
        exact hlen c hc)
      rwa [List.length_map, List.length_map] at this
    have e3 : cs.length ≤ 3 := by rwa [List.length_map] at hn
    refine ⟨_, t', rfl, ?_, ?_, fun t'' tk => ⟨kp_of (s' := { s' with toks := tk }) ho hb k' (fun a ha => ?_) fun p hp hl _ => ?_, ?_⟩⟩
    · rw [e1]; omega
    · rw [e1]; omega
    · exact gl_cons (P := fun a => (Cf ob G).Tb a ∨ ∃ o, s.heap.get? a = some o ∧ s'.heap.get? a = some o) (.inr ⟨_, hx, hx'⟩) (gl_cons (.inr ⟨_, hd', hd2⟩) (gl_cons (.inl (tb_iff.mpr (.inl rfl))) gl_nil)) a ha
    · exact tab_one (P := fun p => ∃ o, s'.heap.get? p.1 = some o ∧ p.2 s'.heap o) hp (tab_own yx.2 yd.2 hp hl) (fun _ => ⟨_, ht, .inr ⟨cd, rfl⟩⟩) nofun nofun
    · rw [e1]; exact .int _ _
end
end Mine

end

section
open PySem PySem.W PyProof.Rows PySem.Calls
set_option maxRecDepth 100000
set_option linter.unusedVariables false
namespace Mine
theorem getpush_run (w : World) (stk : Nat → Pos × List (Code × Pos)) (n0 t0 : Nat) (x d : Addr) (m : Int) (t t2 : Tok) (its : List Value) (ep : Nat) (pl : Sem Bool) :
   runT (K2 w.params) (S2 w) n0 t0 denZ 2000 (Value × List Value) A0 none (getMethod (.ref x) (Str.ofString "push") pl)
     (st0 [.l 0, .k, .k, .k, .l 0, .k, .k, .k, .l 0, .k, .k, .k, .k, .l 0, .l 1] [(x, accO d its.toArray ep), (d, sizD w m t t2)] stk) (prI [0, 1])
   = some (.ok (.ref 94, [.ref x]), [(x, accO d its.toArray ep), (d, sizD w m t t2)], 0, 0, [d, x, x, x, x], [d, x, x, x, x]) := by
  kernel_rfl
theorem getpop_run (w : World) (stk : Nat → Pos × List (Code × Pos)) (n0 t0 : Nat) (x d : Addr) (m : Int) (t t2 : Tok) (its : List Value) (ep : Nat) (pl : Sem Bool) :
   runT (K2 w.params) (S2 w) n0 t0 denZ 2000 (Value × List Value) A0 none (getMethod (.ref x) (Str.ofString "pop_from") pl)
     (st0 [.l 0, .k, .k, .k, .l 0, .k, .k, .k, .l 0, .k, .k, .k, .k, .l 0, .l 1] [(x, accO d its.toArray ep), (d, sizD w m t t2)] stk) (prI [0, 1])
   = some (.ok (.ref 102, [.ref x]), [(x, accO d its.toArray ep), (d, sizD w m t t2)], 0, 0, [d, x, x, x, x], [d, x, x, x, x]) := by
  kernel_rfl
theorem push_run (w : World) (stk : Nat → Pos × List (Code × Pos)) (n0 t0 : Nat) (x d : Addr) (its : List Value) (hn : its.length ≤ 2) (m : Int) (t t2 t3 t4 : Tok) (s1 s2 : Str) (ep : Nat) :
   runT (K2 w.params) (S2 w) n0 t0 denZ 2000 Value A0 none (call (.ref 94) [.ref x, .str s1 t3, .str s2 t4])
     (st0 [.k, .k, .l 2, .l 2, .l 2, .l 2, .l 2, .l 2, .l 2, .l 0, .k, .k, .k, .l 0, .k, .k, .k, .l 0, .k, .k, .k, .l 0, .l 1, .l 2, .l 2, .l 0, .k, .l 0, .l 0, .l 0] [(x, accO d its.toArray ep), (d, sizD w m t t2)] stk) (prI [0, 1, 3])
   = some (.ok .none, [(x, accO d (its ++ [Value.ref (n0 + 1)]).toArray (ep + 1)), (d, sizD w m t t2), (n0 + 1, tup2 (.str s1 t3) (.str s2 t4))], 2, 3, [x, x, x, x, n0, n0, d, x, x, x, x, n0, n0, n0, n0, n0, n0, n0], [x, x, x, x, n0, n0, d, x, x, x, x, n0, n0, n0, n0, n0, n0, n0]) := by
  rcases its with _ | ⟨v0, _ | ⟨v1, _ | ⟨v2, r⟩⟩⟩
  · kernel_rfl
  · kernel_rfl
  · kernel_rfl
  · exact absurd hn (by simp)
section
variable {w : World} {g : Heap} {ob : Nat → List D → Heap → Value → Prop} {G : Gd w g} {A : Around} {Y : Addr → Prop}
theorem J_of {T : Addr → Prop} {h h' : Heap} (j : (Cf ob G).J h) (hT : ∀ a, T a → ¬ (Cf ob G).Tb a) (hc : ∀ a o, T a → h.get? a = some o → ¬ isCd o) (hk : KeepP (fun a => (Cf ob G).Tb a ∨ T a) h h') (ht : ∀ p ∈ tabsR, h'.get? p.1 = h.get? p.1) : (Cf ob G).J h' := fun p hp => by
  obtain ⟨o, ho, q⟩ := j p hp
  exact ⟨o, (ht p hp).trans ho, (Cf ob G).gm p hp _ _ o (fun b o' c hb e => hk b o' (fun t => t.elim hb fun t => hc b o' t e c) e) q⟩
theorem notCd_acc {d : Addr} {its : Array Value} {ep : Nat} : ¬ isCd (accO d its ep) := fun c => by cases c.1
theorem notCd_siz {m : Int} {t t2 : Tok} : ¬ isCd (sizD w m t t2) := fun c => by obtain ⟨_, vs, q⟩ := c; cases q
noncomputable def fnOf (d : Data) : Option FuncData := match d with
  | .func fd => some fd
  | _ => none
noncomputable def isFnA (K : Frag) (a : Addr) : Bool := ((K.lookup a).bind fun o => fnOf o.data).isSome
theorem fnOf_some {d : Data} {fd : FuncData} (h : fnOf d = some fd) : d = .func fd := by
  cases d with
  | func f => rw [so h]
  | _ => exact no h
theorem isFnA_some {K : Frag} {a : Addr} (e : isFnA K a = true) : ∃ o fd, K.lookup a = some o ∧ o.data = .func fd ∧ ((K.lookup a).bind fun o => fnOf o.data) = some fd := by
  obtain ⟨fd, h⟩ := Option.isSome_iff_exists.mp e
  obtain ⟨o, h1, h2⟩ := bnd h
  exact ⟨o, fd, h1, fnOf_some h2, h⟩
theorem fn_obj {K : Frag} {g : Heap} {a : Addr} (X : K.In g) (e : isFnA K a = true) : ∃ oq, g.get? a = some oq ∧ ∃ fd, oq.data = .func fd := by
  obtain ⟨o, fd, h1, h2, _⟩ := isFnA_some e
  exact ⟨o, X _ _ h1, fd, h2⟩
theorem roomy (h0 : A.handled = none) (hd : A.depth ≤ 450) (hu : A.units ≤ 900) : Roomy A := ⟨h0, by omega, by omega⟩
theorem acc_turn {s2 : Shared} {h3 : Heap} {x d ep : Nat} {its : Array Value} {m : Int} {t t2 : Tok} (b2 : Bs (Cf ob G) Y s2) (yx : Y x ∧ ¬ (Cf ob G).Tb x) (yd : Y d ∧ ¬ (Cf ob G).Tb d) (hx2 : s2.heap.get? x = some (accO d its ep)) (hd2 : s2.heap.get? d = some (sizD w m t t2))
    (kk : ∀ b o, b ≠ x → b ≠ d → s2.heap.get? b = some o → h3.get? b = some o) :
    (Cf ob G).J h3 ∧ KeepP (fun a => (Cf ob G).Tb a ∨ a ∈ [x, d]) s2.heap h3 ∧ ∀ b o, ¬ Y b → s2.heap.get? b = some o → h3.get? b = some o ∧ ¬ Y b := by
  have kp : KeepP (fun a => (Cf ob G).Tb a ∨ a ∈ [x, d]) s2.heap h3 := fun b o hb e => kk b o (fun q => hb (.inr (q ▸ m0))) (fun q => hb (.inr (q ▸ m1))) e
  refine ⟨J_of b2.jj (T := fun a => a ∈ [x, d]) (gl_cons yx.2 (gl_cons yd.2 gl_nil)) (fun a o ha => gl_cons (P := fun a => s2.heap.get? a = some o → ¬ isCd o) (fun e => ?_) (gl_cons (fun e => ?_) gl_nil) a ha) kp fun p hp => ?_, kp, fun b o hb e => ⟨kk b o (fun q => hb (q ▸ yx.1)) (fun q => hb (q ▸ yd.1)) e, hb⟩⟩
  · rw [hx2] at e; cases e; exact notCd_acc
  · rw [hd2] at e; cases e; exact notCd_siz
  · have t : (Cf ob G).Tb p.1 := List.mem_map_of_mem hp
    obtain ⟨o, ho, _⟩ := b2.jj p hp
    rw [ho]
    exact kk _ _ (fun q => yx.2 (q ▸ t)) (fun q => yd.2 (q ▸ t)) ho
theorem acc_push_ok (h0 : A.handled = none) (hd : A.depth ≤ 399) (hu : A.units ≤ 400) {mg : Int} {ps : List (Str × Str)} {a b : Str} (hn : ps.length ≤ 2) :
    AccCallOk (Cf ob G) A (Str.ofString "push") mg ps [.str a, .str b] (ps ++ [(a, b)]) .none := by
  intro pl Y s v as bs has hc
  have hA := roomy h0 (up_to hd rfl) (up_to hu rfl)
  obtain ⟨x, d, vs, t1, t2, ep, rfl, rfl, hx, hd', hk, hr⟩ := hc.acc_inv
  clear hc
  have yx := has x m0
  have yd := has d m1
  have hxd : ¬ x = d := Nat.ne_of_gt hk.1
  refine runRd (n := 2000) hA G.X G.lim bs.kp (al_cons ⟨hx, bs.yg _ yx.1⟩ (al_cons ⟨hd', bs.yg _ yd.1⟩ al_nil)) (pw2 hxd) (fun n0 t0 stk => getpush_run w stk n0 t0 x d mg t1 t2 vs ep pl) fun h' k' hs => ?_
  obtain ⟨oq, hoq, hfd⟩ := fn_obj (a := 94) G.X (by kernel_rfl)
  refine ⟨Kp.heap k', 94, oq, rfl, hoq, hfd, fun s2 us b2 hc2 hu2 => ?_⟩
  clear hx hd' hr hs k' bs
  obtain ⟨_, _, vs2, t3, t4, ep2, e1, e2, hx2, hd2, _, hr2⟩ := hc2.acc_inv
  clear hc2
  cases e1; cases e2
  obtain ⟨_, us, rfl, r1, hu2⟩ := hu2.cons_inv
  obtain ⟨_, us, rfl, r2, hu2⟩ := hu2.cons_inv
  obtain rfl := hu2.nil_inv
  obtain ⟨u1, rfl⟩ := r1.str_inv
  obtain ⟨u2, rfl⟩ := r2.str_inv
  clear r1 r2 hu2
  refine runG (n := 2000) hA G.X G.lim b2.kp (al_cons ⟨hx2, b2.yg _ yx.1⟩ (al_cons ⟨hd2, b2.yg _ yd.1⟩ al_nil)) (pw2 hxd) (fun n0 t0 stk => push_run w stk n0 t0 x d vs2 (by rw [hr2.length, List.length_map]; exact hn) mg t3 t4 u1 u2 a b ep2) fun h3 k3 n3 hs3 => ?_
  have hy3 := n3 _ m2
  obtain ⟨jj, kp, up⟩ := acc_turn b2 yx yd hx2 hd2 fun b o h1 h2 e => k3 b o (nm2 h1 h2) e
  have ny : ¬ Y (s2.heap.objs.size + 1) := fun q => b2.yl _ q (none_of_size (Nat.le_succ _))
  refine ⟨rfl, b2.gb, jj, kp, .acc (vs := vs2 ++ [.ref (s2.heap.objs.size + 1)]) (t1 := t3) (t2 := t4) (ep := ep2 + 1) (n3 _ m0).1 (n3 _ m1).1 hk ?_, .none⟩
  rw [List.map_append]
  exact (hr2.mono up).append (.cons (.tup (vs := [.str a u1, .str b u2]) ny ⟨_, hy3.1, rfl, 0, rfl⟩ (.cons (.str _ _) (.cons (.str _ _) .nil))) .nil)
end
end Mine

end

section
open PySem PySem.W PyProof.Rows PySem.Calls
set_option maxRecDepth 100000
set_option linter.unusedVariables false
namespace Mine
section
variable {w : World} {g : Heap} {ob : Nat → List D → Heap → Value → Prop} {G : Gd w g} {A : Around} {Y : Addr → Prop}
theorem acc_pop_ok (h0 : A.handled = none) (hd : A.depth ≤ 399) (hu : A.units ≤ 400) {mg : Int} {ps : List (Str × Str)} {k : Nat} (hk' : k < ps.length) (hn : ps.length ≤ 3) :
    AccCallOk (Cf ob G) A (Str.ofString "pop_from") mg ps [.int k] (ps.take k) (.list ((ps.drop k).map pairD)) := by
  intro pl Y s v as bs has hc
  have hA := roomy h0 (up_to hd rfl) (up_to hu rfl)
  obtain ⟨x, d, vs, t1, t2, ep, rfl, rfl, hx, hd', hk, hr⟩ := hc.acc_inv
  clear hc
  have yx := has x m0
  have yd := has d m1
  have hxd : ¬ x = d := Nat.ne_of_gt hk.1
  refine runRd (n := 2000) hA G.X G.lim bs.kp (al_cons ⟨hx, bs.yg _ yx.1⟩ (al_cons ⟨hd', bs.yg _ yd.1⟩ al_nil)) (pw2 hxd) (fun n0 t0 stk => getpop_run w stk n0 t0 x d mg t1 t2 vs ep pl) fun h' k' hs => ?_
  obtain ⟨oq, hoq, hfd⟩ := fn_obj (a := 102) G.X (by kernel_rfl)
  refine ⟨Kp.heap k', 102, oq, rfl, hoq, hfd, fun s2 us b2 hc2 hu2 => ?_⟩
  clear hx hd' hr hs k' bs
  obtain ⟨_, _, vs2, t3, t4, ep2, e1, e2, hx2, hd2, _, hr2⟩ := hc2.acc_inv
  clear hc2
  cases e1; cases e2
  obtain ⟨_, us, rfl, r1, hu2⟩ := hu2.cons_inv
  obtain rfl := hu2.nil_inv
  obtain ⟨u1, rfl⟩ := r1.int_inv
  clear r1 hu2
  have hl2 := hr2.length
  rw [List.length_map] at hl2
  refine wpAny_top h0 fun gd outer => ?_
  obtain ⟨loose, mean, mg', mb, Gg⟩ := gr_of G (s := s2) (l := [x, d]) (dp := A.depth) (un := A.units) (gd := gd) (outer := outer) b2.kp (gl_cons (b2.yg _ yx.1) (gl_cons (b2.yg _ yd.1) gl_nil))
  refine pop_raw (dp := A.depth) (un := A.units) (x := x) (d := d) (vs := vs2) (ep := ep2) (m := mg) (t1 := t3) (t2 := t4) (k := k) (ti := u1) Gg (K1_of_K2 Gg.X) (up_to hd rfl) (up_to hu rfl) (al_cons ⟨hx2, hideAll_none _ m0⟩ (al_cons ⟨hd2, hideAll_none _ m1⟩ al_nil)) hk.1 hk.2 (by rw [hl2]; exact hk') (by rw [hl2]; exact hn) b2.gb fun s' p n k3 hx3 hd3 hp3 hpn ho hb => ?_
  obtain ⟨jj, kp, up⟩ := acc_turn b2 yx yd hx2 hd2 fun b o h1 h2 e => k3 b o (hideAll_get _ e (nm2 h1 h2))
  have ny : ¬ Y p := fun q => by
    cases e : s2.heap.get? p with
    | none => exact b2.yl _ q e
    | some o =>
      by_cases hpx : p = x
      · rw [hpx, hx3] at hp3; cases hp3
      by_cases hpd : p = d
      · rw [hpd, hd3] at hp3; cases congrArg (Option.map Obj.data) hp3
      exact no (hpn.symm.trans (hideAll_get _ e (nm2 hpx hpd)))
  refine ⟨ho, hb, jj, kp, .acc (vs := vs2.take k) (t1 := t3) (t2 := t4) (ep := ep2 + 1) hx3 hd3 hk ?_, .list (vs := vs2.drop k) ny ⟨n, hp3⟩ ?_⟩
  · rw [List.map_take]; exact (hr2.mono up).take k
  · rw [List.map_drop]; exact (hr2.mono up).drop k
theorem acc_make2 {w : World} {dp un : Nat} {gd : Option (List Code)} {outer : List Env} {s : Shared} {R : Result → Shared → Prop} {i : Int} {t : Tok}
    (hdp : dp ≤ 450) (hun : un ≤ 600) (X : (K2 w.params).In s.heap) (hl : s.heap.NoLimit)
    (h : ∀ (x d : Nat) h', (∀ b o, s.heap.get? b = some o → h'.get? b = some o) → (h'.get? x = some (accO d #[] 0) ∧ s.heap.get? x = none) → (h'.get? d = some (dictOf [] 0) ∧ s.heap.get? d = none) → d < x → 185 ≤ d →
      wpAny (model (PySem.Challenge.rw_rs0050_02.row.prog) w) (topA (dp + 1) (un + 1) (pushGuards (Code.guards (.builtin "type.__call__" ⟨[.ref 148, .int i t], []⟩)) gd) outer) (call (.ref 87) [.ref x, .int i t]) (fun v s' => v = .none ∧ R (.ok (.ret (.ref x))) s') (fun e s' => R (.error e) s') { s with heap := h' }) :
    codeAny (model (PySem.Challenge.rw_rs0050_02.row.prog) w) (topA dp un gd outer) (.call (.ref 148) ⟨[.int i t], []⟩) R s := by
  obtain ⟨oc, od, cd, sl, hC, hm⟩ := a148 X
  obtain ⟨hh, g, d, tk, os⟩ := s
  have hcall : Looks (model (PySem.Challenge.rw_rs0050_02.row.prog) w) hh (specialOf (.ref 148) "__call__") (some (.builtin "type.__call__")) := looks_specialIn X (by kernel_rfl)
  have typ : Looks (model (PySem.Challenge.rw_rs0050_02.row.prog) w) hh (isInstance (.ref 148) (.type "type")) true := looks_instIn X (by kernel_rfl)
  have self : Looks (model (PySem.Challenge.rw_rs0050_02.row.prog) w) hh (isSubtype (.ref 148) (.ref 148)) true := looks_mroIn X (by kernel_rfl)
  have hi : Looks (model (PySem.Challenge.rw_rs0050_02.row.prog) w) hh (typeLookup (.ref 148) "__init__") (some (.ref 87)) := looks_findIn X (by kernel_rfl)
  refine codeAny_of_tree ?_
  show wpAny _ _ (callAny (.ref 148) _) _ _ _
  refine nd_load hC ?_
  show wpAny _ _ (callAny.viaDunder (.ref 148) _) _ _ _
  unfold callAny.viaDunder
  refine wpAny_bind (hcall.at ?_)
  dsimp only
  rw [tc_bind]
  refine wpAny_bind (wpAny_pure (wpAny_bind (wpAny_pure ?_)))
  refine wpAny_pure (a := Fin.again (.call (.builtin "type.__call__") ⟨[.ref 148, .int i t], []⟩)) (And.intro rfl ?_)
  refine codeAny_call_builtin_at (Code.quiet_builtin _ (by decide +kernel)) entry_typeCall (check_slot tc_kind tc_split typ (tc_args _ _ _) ?_)
  rw [under_tc]
  unfold Builtin.«type.__call__»
  have hmro : Looks (model (PySem.Challenge.rw_rs0050_02.row.prog) w) hh (mroOf (.ref 148)) cd.mro := ((Looks.ld (part := none) hC).andThen .now).andThen .now
  have e4 : cd.mro.isEmpty = false := by rw [hm]; rfl
  repeat (first | simp only [e4, Bool.false_eq_true, if_false] | (fail_if_success (show wpAny _ _ (Bind.madeBy _) _ _ _)); lk)
  have hA : Roomy (topA (dp + 1) (un + 1) (pushGuards (Code.guards (.builtin "type.__call__" ⟨[.ref 148, .int i t], []⟩)) gd) outer) := ⟨rfl, by show dp + 1 ≤ 500; omega, by show un + 1 ≤ 1000; omega⟩
  refine runS (n := 2000) hA X hl (fun n0 t0 stk => amade_run w stk n0 t0) (fun h1 k1 _ hs1 => ?_)
  dsimp only
  refine wpAny_bind (wpAny_pure (wpAny_bind (wpAny_holding ?_)))
  refine runS (n := 2000) hA (X.keeps k1) (hl.keeps k1) (fun n0 t0 stk => anew_run w stk n0 t0 i t) (fun h2 k2 n2 hs2 => ?_)
  dsimp only at k1 hs1 k2 n2 hs2 ⊢
  have k : ∀ b o, hh.get? b = some o → h2.get? b = some o := fun b o e => k2 _ _ (k1 _ _ e)
  have hx := n2 (h1.objs.size + 1, accO h1.objs.size #[] 0) (.tail _ (.head _))
  have hd := n2 (h1.objs.size, dictOf [] 0) (.head _)
  have t1 : Looks (model (PySem.Challenge.rw_rs0050_02.row.prog) w) h2 (typeOf (.ref (h1.objs.size + 1))) (.ref 148) := (Looks.ld hx.1).andThen .now
  have s1 := self.keeps k
  have i1 := hi.keeps k
  have b1 : Looks (model (PySem.Challenge.rw_rs0050_02.row.prog) w) h2 (bindSpecial (.ref 87) (.ref (h1.objs.size + 1))) (.ref 87, [.ref (h1.objs.size + 1)]) := bind_fn (X.keeps k) _ (by kernel_rfl)
  have no : ∀ a, h1.get? a = none → hh.get? a = none := by
    intro a ha
    cases q : hh.get? a with
    | none => rfl
    | some o => rw [k1 _ _ q] at ha; cases ha
  have h184 := a184 (X.keeps k1)
  have hw : wpAny (model (PySem.Challenge.rw_rs0050_02.row.prog) w) (topA (dp + 1) (un + 1) (pushGuards (Code.guards (.builtin "type.__call__" ⟨[.ref 148, .int i t], []⟩)) gd) outer) (call (.ref 87) ([.ref (h1.objs.size + 1)] ++ [.int i t])) (fun v s' => v = .none ∧ R (.ok (.ret (.ref (h1.objs.size + 1)))) s') (fun e s' => R (.error e) s') ⟨h2, g, d, tk + 0 + 0, os⟩ := h (h1.objs.size + 1) h1.objs.size h2 k ⟨hx.1, no _ hx.2⟩ ⟨hd.1, no _ hd.2⟩ (Nat.lt_succ_self _) (by omega)
  unfold isInstance callSpecial? specialOf
  repeat (first | with_reducible refine wpAny_mono hw (fun v s' z => ?_) (fun e s' z => z) | lk)
  obtain ⟨rfl, z⟩ := z
  exact wpAny_pure z
theorem acc_new_ok (h0 : A.handled = none) (hd : A.depth ≤ 398) (hu : A.units ≤ 400) : AccNewOk (Cf ob G) A 148 := by
  refine ⟨Looks.of_peek G.X (by kernel_rfl), fun Y s i t bs => ?_⟩
  refine wpAny_top h0 fun gd outer => ?_
  have ng : ∀ {a}, s.heap.get? a = none → g.get? a = none := fun {a} h => by
    cases e : g.get? a with
    | none => rfl
    | some o => rw [bs.kp _ _ e] at h; cases h
  refine wpAny_call (acc_make2 (up_to hd rfl) (up_to hu rfl) (G.X.keeps bs.kp) (G.lim.keeps bs.kp) fun x d h' k1 hx hd1 hlt hle => ?_)
  have kp1 : Keep g h' := fun b o e => k1 _ _ (bs.kp b o e)
  have hg : ∀ a ∈ [x, d], g.get? a = none := gl_cons (ng hx.2) (gl_cons (ng hd1.2) gl_nil)
  obtain ⟨loose, mean, mg', mb, Gg⟩ := gr_of G (s := { s with heap := h' }) (dp := A.depth + 1) (un := A.units + 1) (gd := pushGuards (Code.guards (.builtin "type.__call__" ⟨[.ref 148, .int i t], []⟩)) gd) (outer := outer) kp1 hg
  refine init_raw (x := x) (d := d) (i := i) (t := t) Gg (K1_of_K2 Gg.X) (by omega) (by omega) ⟨hx.1, hideAll_none _ m0⟩ ⟨hd1.1, hideAll_none _ m1⟩ hlt (Nat.le_trans hle (Nat.le_of_lt hlt)) fun h2 tk tk1 k2 hx2 hd2 => ⟨rfl, ?_⟩
  refine ⟨Kp.heap fun b o e => k2 b o (hideAll_get _ (k1 _ _ e) ?_), x, d, 0, tk1, t, rfl, hx.2, hd1.2, hx2, hd2, hlt, hle⟩
  exact nm2 (fun q => (by rw [q, hx.2] at e; cases e)) (fun q => (by rw [q, hd1.2] at e; cases e))
end
end Mine

end

section
open PySem PySem.W PyProof.Rows PySem.Calls
set_option maxRecDepth 100000
set_option linter.unusedVariables false
namespace Mine
noncomputable def isTy (v : Value) (s : String) : Bool := match v with
  | .type n => n == s
  | _ => false
noncomputable def fldsOf (d : Data) : Option (Array Value) := match d with
  | .fields vs => some vs
  | _ => none
noncomputable def strOf (v : Value) : Option Str := match v with
  | .str x _ => some x
  | _ => none
noncomputable def fdA (P : Params) (a : Addr) : FuncData := match ((K2 P).lookup a).bind fun o => fnOf o.data with
  | some fd => fd
  | none => default
noncomputable def stmtsOf : FuncBody → List Stmt
  | .stmts b => b
  | .expr _ => []
noncomputable def reachFd (P : Params) (c : Addr) (cd ct : Value) : FuncData := match stmtsOf (fdA P 164).body with
  | [_, .FunctionDef n ps body _ _ _ sc _ _ _, _, _, _, _] => { name := n, qualname := reachQ, params := ps, body := .stmts body, scope := sc, globals := mainGlobals, closure := [(Str.ofString "sign", c)], defaults := .none, kwdefaults := .none, pyModule := .str (Str.ofString "law_rs0050_02") 365, code := cd, closureTuple := ct }
  | _ => default
noncomputable def signS (p : Int) : Str := match p with
  | 0 => Str.ofString "a"
  | 1 => Str.ofString "b"
  | 2 => Str.ofString "c"
  | _ => Str.ofString "d"
noncomputable abbrev hsh (P : Params) (x : String) : Int := ZFast.zw12210062019545310541 (P.strHash (Str.ofString x).cps)
noncomputable abbrev ruleD (P : Params) (q : Addr) (p : Int) (tp t1 t2 : Tok) : Obj := dictOf [⟨hsh P "applies_to", .str (Str.ofString "applies_to") t1, .ref q⟩, ⟨hsh P "allowance", .str (Str.ofString "allowance") t2, .int p tp⟩] 2
noncomputable abbrev cellO (v : Value) : Obj := ⟨.type "cell", none, .cell (some v), #[]⟩
noncomputable abbrev funO (d : Option Addr) (fd : FuncData) : Obj := ⟨.type "function", d, .func fd, #[]⟩

noncomputable def isFd (o : Obj) : Option FuncData := gd (isTy o.cls "function") (fnOf o.data)
noncomputable def qnOf (d : Data) : Option Str := (fldsOf d).bind fun vs => (vs[1]?).bind strOf
noncomputable def isCdQ (o : Obj) : Bool := isTy o.cls "code" && (match qnOf o.data with
  | some q => q == reachQ
  | none => false)
noncomputable def ruleF (iq ir id : Nat) (ic : Option Nat) (r : Except Value Value) (l : List (Addr × Obj)) : Option (Value × (Addr × Obj) × (Addr × Obj) × (Addr × Obj) × Addr × Option Addr × Array (Option Value) × (Addr × Obj) × Option Addr) := match r with
  | .ok v => l[0]?.bind fun t => l[2]?.bind fun c => l[iq]?.bind fun q => l[ir]?.bind fun r => l[id]?.bind fun d => (isFd r.2).bind fun _ => match ic with
    | none => some (v, t, c, q, r.1, r.2.dict, r.2.slots, d, none)
    | some i => l[i]?.bind fun x => gd (isCdQ x.2) (some (v, t, c, q, r.1, r.2.dict, r.2.slots, d, some x.1))
  | .error _ => none
end Mine

end

section
open PySem PySem.W PyProof.Rows PySem.Calls
set_option maxRecDepth 100000
set_option linter.unusedVariables false
namespace Mine
noncomputable def only (h : Heap) (L : List Addr) : Heap := hideAll h ((List.range h.objs.size).filter fun a => !L.contains a)
theorem only_get {h : Heap} {L : List Addr} {b : Addr} {o : Obj} (e : (only h L).get? b = some o) : h.get? b = some o ∧ b ∈ L := by
  have e1 := of_hideAll _ e
  refine ⟨e1, ?_⟩
  by_cases hb : b ∈ L
  · exact hb
  · have : b ∈ (List.range h.objs.size).filter fun a => !L.contains a := by
      rw [List.mem_filter]
      exact ⟨List.mem_range.mpr (Heap.lt_size e1), by simpa using hb⟩
    rw [show (only h L).get? b = none from hideAll_none _ this] at e; cases e
theorem get_only {h : Heap} {L : List Addr} {b : Addr} {o : Obj} (e : h.get? b = some o) (hb : b ∈ L) : (only h L).get? b = some o := by
  refine hideAll_get _ e fun q => ?_
  rw [List.mem_filter] at q
  have h2 : (!L.contains b) = true := q.2
  rw [List.contains_iff_mem.mpr hb] at h2
  exact nob h2

structure RuleAt (P : Params) (g h0 : Heap) (v : Value) (p : Int) (r dct q c c1 : Addr) (ct : Value) (fdl : FuncData) (sl : Array (Option Value)) (tp t1 t2 ts : Tok) : Prop where
  e : v = .ref r
  rng : 0 ≤ p ∧ p < 4
  hr : h0.get? r = some ⟨.type "function", some dct, .func fdl, sl⟩
  hd : h0.get? dct = some (ruleD P q p tp t1 t2)
  hq : h0.get? q = some (funO none (reachFd P c (.ref c1) ct))
  hc : h0.get? c = some (cellO (.str (signS p) ts))
  cd : h0.CodeRec (.ref c1) reachQ
  lo : 185 ≤ r ∧ 185 ≤ dct ∧ 185 ≤ q ∧ 185 ≤ c
  ng : g.get? c = none
noncomputable def IsRule (P : Params) (g h0 : Heap) (v : Value) (p : Int) : Prop := ∃ r dct q c c1 ct fdl sl tp t1 t2 ts, RuleAt P g h0 v p r dct q c c1 ct fdl sl tp t1 t2 ts

noncomputable def IsEntry (P : Params) (g h0 : Heap) (v : Value) (ps : List D) : Prop := ∃ (x d rl : Addr) (vs : List Value) (va v3 v4 : Value) (t1 t2 t3 t4 : Tok) (ep : Nat), v = .ref x ∧ h0.get? x = some ⟨.ref 59, some d, .plain, #[]⟩ ∧
  h0.get? d = some (dictOf [⟨hsh P "useragents", .str (Str.ofString "useragents") t1, va⟩, ⟨hsh P "rulelines", .str (Str.ofString "rulelines") t2, .ref rl⟩, ⟨hsh P "delay", .str (Str.ofString "delay") t3, v3⟩, ⟨hsh P "req_rate", .str (Str.ofString "req_rate") t4, v4⟩] ep) ∧
  h0.PlainList rl vs.toArray ∧ 185 ≤ x ∧ 185 ≤ d ∧ 185 ≤ rl ∧ vs.length = ps.length ∧ ∀ (i : Nat) (v' : Value) (d' : D), vs[i]? = some v' → ps[i]? = some d' → ∃ p, d' = D.int p ∧ IsRule P g h0 v' p
noncomputable def obR (P : Params) (g : Heap) (t : Nat) (ds : List D) (h0 : Heap) (v : Value) : Prop := match t, ds with
  | 0, [.int p] => IsRule P g h0 v p
  | 1, ps => IsEntry P g h0 v ps
  | 2, [.int a] => v = .ref a.toNat
  | _, _ => False
noncomputable abbrev CR {w : World} {g : Heap} (G : Gd w g) : Cfg := Cf (obR w.params g) G
noncomputable def ruleD' (ds : List D) : Option D := (one ds).bind fun d => (asI d).bind fun p => if 0 ≤ p ∧ p < 4 then some (.obj 0 [.int p]) else none
theorem isTy_some {v : Value} {s : String} (h : isTy v s = true) : v = .type s := by
  cases v with
  | type n => rw [eq_of_beq h]
  | _ => exact nob h
theorem isFd_some {o : Obj} {fd : FuncData} (h : isFd o = some fd) : o.cls = .type "function" ∧ o.data = .func fd := let ⟨h1, h2⟩ := gd_some h; ⟨isTy_some h1, fnOf_some h2⟩
theorem qnOf_some {d : Data} {q : Str} (h : qnOf d = some q) : ∃ vs t, d = .fields vs ∧ vs[1]? = some (.str q t) := by
  refine bndE h fun vs h1 h => ?_
  refine bndE h fun v h2 h => ?_
  cases d with
  | fields us =>
    cases so h1
    cases v with
    | str x t => rw [← so h]; exact ⟨_, t, rfl, h2⟩
    | _ => exact no h
  | _ => exact no h1
theorem isCdQ_some {o : Obj} (h : isCdQ o = true) : isCd o ∧ ∃ vs t, o.data = .fields vs ∧ vs[1]? = some (.str reachQ t) := by
  have h2 := and_2 h
  have h1 := isTy_some (and_1 h)
  cases hq : qnOf o.data with
  | none => rw [hq] at h2; exact nob h2
  | some q =>
    rw [hq] at h2
    obtain ⟨vs, t, e, hv⟩ := qnOf_some hq
    rw [eq_of_beq h2] at hv
    exact ⟨⟨h1, vs, e⟩, vs, t, e, hv⟩
theorem rule_run (w : World) (stk : Nat → Pos × List (Code × Pos)) (n0 t0 : Nat) (c1 : Addr) (c2 : Value) (t : Tok) (p : Int) (hp : 0 ≤ p ∧ p < 4) :
   runT (K2 w.params) (S2 w) n0 t0 denZ 2000 Value A0 none (call (.ref 164) [.int p t])
     (st0 [.k, .k, .l 1, .l 1, .l 1, .l 2, .l 2, .k, .l 0, .k, .k, .k, .l 1, .l 1, .k, .l 0, .k, .k, .k, .l 1, .l 1, .l 1, .l 1, .l 5, .l 5, .l 5, .l 5, .l 5, .l 5, .l 6, .l 6, .l 6, .l 1, .l 1, .l 5, .l 5, .l 5, .l 5, .l 5, .l 6, .l 6, .l 6, .l 1] [(159, tab2 (.ref c1) c2)] stk) (prX (ruleF 4 5 6 none))
   = some ((.ref (n0 + 4), (159, tab2 (.ref c1) c2), (n0 + 1, cellO (.str (signS p) (t0 + 2))), (n0 + 3, funO none (reachFd w.params (n0 + 1) (.ref c1) (.ref (n0 + 2)))), n0 + 4, some (n0 + 5), #[], (n0 + 5, ruleD w.params (n0 + 3) p t (t0 + 6) (t0 + 8)), none), 6, 9, [n0, n0 + 5, n0 + 5, n0 + 5, n0 + 4, n0 + 4, n0 + 4, n0 + 4, n0 + 4, n0, n0, n0 + 5, n0 + 5, n0 + 5, n0 + 4, n0 + 4, n0 + 4, n0 + 4, n0 + 4, n0 + 4, n0, n0, n0, n0, 159, n0, n0, 159, n0 + 1, n0 + 1, n0, n0, n0], [n0, n0 + 5, n0 + 5, n0 + 5, n0 + 4, n0 + 4, n0 + 4, n0 + 4, n0 + 4, n0, n0, n0 + 5, n0 + 5, n0 + 5, n0 + 4, n0 + 4, n0 + 4, n0 + 4, n0 + 4, n0 + 4, n0, n0, n0, n0, 159, n0, n0, 159, n0 + 1, n0 + 1, n0, n0, n0]) := by
  obtain rfl | rfl | rfl | rfl : p = 0 ∨ p = 1 ∨ p = 2 ∨ p = 3 := by omega
  all_goals kernel_rfl
theorem rule_new (w : World) (stk : Nat → Pos × List (Code × Pos)) (n0 t0 : Nat) (t : Tok) (p : Int) (hp : 0 ≤ p ∧ p < 4) :
   runT (K2 w.params) (S2 w) n0 t0 denZ 2000 Value A0 none (call (.ref 164) [.int p t])
     (st0 [.k, .k, .l 1, .l 1, .l 1, .l 2, .l 2, .k, .l 0, .l 0, .l 0, .l 0, .k, .k, .k, .l 1, .l 1, .k, .l 0, .l 0, .l 0, .l 0, .k, .k, .k, .l 1, .l 1, .l 1, .l 1, .l 17, .l 17, .l 17, .l 17, .l 17, .l 17, .l 18, .l 18, .l 18, .l 1, .l 1, .l 17, .l 17, .l 17, .l 17, .l 17, .l 18, .l 18, .l 18, .l 1] [(159, tab0)] stk) (prX (ruleF 10 17 18 (some 9)))
   = some ((.ref (n0 + 16), (159, tab2 (.ref (n0 + 8)) (.ref (n0 + 15))), (n0 + 1, cellO (.str (signS p) (t0 + 2))), (n0 + 9, funO none (reachFd w.params (n0 + 1) (.ref (n0 + 8)) (.ref (n0 + 2)))), n0 + 16, some (n0 + 17), #[], (n0 + 17, ruleD w.params (n0 + 9) p t (t0 + 20) (t0 + 22)), some (n0 + 8)), 18, 23, [n0, n0 + 17, n0 + 17, n0 + 17, n0 + 16, n0 + 16, n0 + 16, n0 + 16, n0 + 16, n0, n0, n0 + 17, n0 + 17, n0 + 17, n0 + 16, n0 + 16, n0 + 16, n0 + 16, n0 + 16, n0 + 16, n0, n0, n0, n0, 159, 159, 159, 159, n0, n0, 159, 159, 159, 159, n0 + 1, n0 + 1, n0, n0, n0], [n0, n0 + 17, n0 + 17, n0 + 17, n0 + 16, n0 + 16, n0 + 16, n0 + 16, n0 + 16, n0, n0, n0 + 17, n0 + 17, n0 + 17, n0 + 16, n0 + 16, n0 + 16, n0 + 16, n0 + 16, n0 + 16, n0, n0, n0, n0, 159, 159, 159, 159, n0, n0, 159, 159, 159, 159, n0 + 1, n0 + 1, n0, n0, n0]) := by
  obtain rfl | rfl | rfl | rfl : p = 0 ∨ p = 1 ∨ p = 2 ∨ p = 3 := by omega
  all_goals kernel_rfl
theorem ruleF_some {iq ir id : Nat} {ic : Option Nat} {r : Except Value Value} {l : List (Addr × Obj)} {p}
    (h : ruleF iq ir id ic r l = some p) : r = .ok p.1 ∧ p.2.1 ∈ l ∧ p.2.2.1 ∈ l ∧ p.2.2.2.1 ∈ l ∧ p.2.2.2.2.2.2.2.1 ∈ l ∧ (∃ fd, (p.2.2.2.2.1, (⟨.type "function", p.2.2.2.2.2.1, .func fd, p.2.2.2.2.2.2.1⟩ : Obj)) ∈ l) ∧ ∀ a, p.2.2.2.2.2.2.2.2 = some a → ∃ o, (a, o) ∈ l ∧ isCdQ o = true := by
  cases r with
  | error _ => exact no h
  | ok v =>
    refine bndE h fun t ht h => ?_
    refine bndE h fun c hc h => ?_
    refine bndE h fun q hq h => ?_
    refine bndE h fun r' hr h => ?_
    refine bndE h fun d hd h => ?_
    refine bndE h fun fd hfd h => ?_
    obtain ⟨hf1, hf2⟩ := isFd_some hfd
    have hrm := List.mem_of_getElem? hr
    obtain ⟨ra, rc, rd, rda, rs⟩ := r'
    obtain rfl : rc = _ := hf1
    obtain rfl : rda = _ := hf2
    cases ic with
    | none => rw [← so h]; exact ⟨rfl, List.mem_of_getElem? ht, List.mem_of_getElem? hc, List.mem_of_getElem? hq, List.mem_of_getElem? hd, ⟨fd, hrm⟩, fun a e => no e⟩
    | some i =>
      refine bndE h fun x hx h => ?_
      refine gdE h fun hcd h => ?_
      rw [← so h]
      exact ⟨rfl, List.mem_of_getElem? ht, List.mem_of_getElem? hc, List.mem_of_getElem? hq, List.mem_of_getElem? hd, ⟨fd, hrm⟩, fun a e => ⟨x.2, so e ▸ List.mem_of_getElem? hx, hcd⟩⟩
section
variable {w : World} {g : Heap} {G : Gd w g} {A : Around} {Y : Addr → Prop}
theorem big185 {s : Shared} (X : (K2 w.params).In s.heap) : 185 ≤ s.heap.objs.size := a184 X

theorem rule_end {s : Shared} {h' : Heap} {tk : Nat} {p : Int} (b : Bs (CR G) Y s) (hp : 0 ≤ p ∧ p < 4) (k : ∀ b o, b ≠ 159 → s.heap.get? b = some o → h'.get? b = some o) {r dct q c c1 : Addr} {ct : Value} {fdl : FuncData} {sl : Array (Option Value)} {tp t1 t2 ts : Tok} {tab : Obj}
    (ht : h'.get? 159 = some tab) (hT : isR h' tab) (hr : h'.get? r = some ⟨.type "function", some dct, .func fdl, sl⟩ ∧ s.heap.get? r = none) (hd : h'.get? dct = some (ruleD w.params q p tp t1 t2) ∧ s.heap.get? dct = none)
    (hq : h'.get? q = some (funO none (reachFd w.params c (.ref c1) ct)) ∧ s.heap.get? q = none) (hc : h'.get? c = some (cellO (.str (signS p) ts)) ∧ s.heap.get? c = none) (hcd : h'.CodeRec (.ref c1) reachQ) (hy : ¬ Y c1)
    (hlo : 185 ≤ r ∧ 185 ≤ dct ∧ 185 ≤ q ∧ 185 ≤ c) : Kp (CR G) s { s with heap := h', toks := tk } ∧ Rep (CR G) Y h' (.ref r) (.obj 0 [.int p]) := by
  have nY : ∀ {a}, s.heap.get? a = none → ¬ Y a := fun h y => b.yl _ y h
  have t159 : (CR G).Tb 159 := tb_iff.mpr (.inr (.inr rfl))
  have kp : KeepP (CR G).Tb s.heap h' := fun b o hb e => k b o (fun q => hb (q ▸ t159)) e
  refine ⟨⟨rfl, kp, id, fun j x hx => ?_⟩, ?_⟩
  · rcases List.mem_cons.mp hx with rfl | hx
    · obtain ⟨o, ho, q⟩ := j (111, isT 80 19) (.head _); exact ⟨o, k _ _ (by decide) ho, q⟩
    rcases List.mem_cons.mp hx with rfl | hx
    · obtain ⟨o, ho, q⟩ := j (118, isT 83 32) (.tail _ (.head _)); exact ⟨o, k _ _ (by decide) ho, q⟩
    rw [List.mem_singleton.mp hx]
    exact ⟨tab, ht, hT⟩
  · obtain ⟨c1', oc, vs, t, e, hoc, hvs⟩ := hcd
    cases e
    have ngc : g.get? c = none := by
      cases q : g.get? c with
      | none => rfl
      | some o => have := b.kp _ _ q; rw [hc.2] at this; cases this
    refine .obj (h0 := only h' [r, dct, q, c, c1]) (fun b' o e => ?_) ⟨r, dct, q, c, c1, ct, fdl, sl, tp, t1, t2, ts, ⟨rfl, hp, get_only hr.1 (.head _), get_only hd.1 (.tail _ (.head _)), get_only hq.1 (.tail _ (.tail _ (.head _))), get_only hc.1 (.tail _ (.tail _ (.tail _ (.head _)))), ⟨c1, oc, vs, t, rfl, get_only hoc (.tail _ (.tail _ (.tail _ (.tail _ (.head _))))), hvs⟩, hlo, ngc⟩⟩
    obtain ⟨e1, hm⟩ := only_get e
    refine ⟨e1, ?_⟩
    rcases List.mem_cons.mp hm with rfl | hm
    · exact nY hr.2
    rcases List.mem_cons.mp hm with rfl | hm
    · exact nY hd.2
    rcases List.mem_cons.mp hm with rfl | hm
    · exact nY hq.2
    rcases List.mem_cons.mp hm with rfl | hm
    · exact nY hc.2
    rw [List.mem_singleton.mp hm]
    exact hy
theorem fnAt_of {K : Frag} {g : Heap} {a : Addr} (X : K.In g) (e : isFnA K a = true) : FnAt a g := by
  obtain ⟨⟨oc, od, dt, sl⟩, fd, h1, h2, _⟩ := isFnA_some e
  obtain rfl : dt = _ := h2
  exact ⟨oc, od, fd, sl, X _ _ h1⟩
theorem rule_ok (h0 : A.handled = none) (hd : A.depth ≤ 450) (hu : A.units ≤ 900) : FnOk (CR G) A 164 ruleD' := by
  refine ⟨fnAt_of G.X (by kernel_rfl), fun Y s vs ds d b hr he => ?_⟩
  refine bndE he fun d1 h1 he => ?_
  refine bndE he fun p h2 he => ?_
  refine ifsE he fun hp he => ?_
  rw [← so he]
  rw [one_some h1, asI_some h2] at hr
  obtain ⟨v, us, rfl, r1, hr⟩ := hr.cons_inv
  rw [hr.nil_inv]
  obtain ⟨t, rfl⟩ := r1.int_inv
  have hA := roomy h0 hd hu
  obtain ⟨o, ho, hT⟩ := tab_at b (p := (159, isR)) (.tail _ (.tail _ (.head _)))
  have b185 := big185 (G.X.keeps b.kp)
  have lo : ∀ k : Nat, 185 ≤ s.heap.objs.size + k := fun k => Nat.le_trans b185 (Nat.le_add_right _ _)
  have k9 : ∀ {h' : Heap}, (∀ b' o', b' ∉ [((159 : Addr), o)].map (·.1) → s.heap.get? b' = some o' → h'.get? b' = some o') → ∀ b o, b ≠ 159 → s.heap.get? b = some o → h'.get? b = some o := fun k b' o' hb e => k b' o' (fun q => hb (List.mem_singleton.mp q)) e
  have nw : ∀ {a : Addr} {P : Prop}, 185 ≤ a → (P ∧ (a ∈ [((159 : Addr), o)].map (·.1) ∨ s.heap.get? a = none)) → P ∧ s.heap.get? a = none := fun {a} {P} ha h => ⟨h.1, h.2.elim (fun q => by rw [List.mem_singleton.mp q] at ha; exact absurd (show 185 ≤ 159 from ha) (by decide)) id⟩
  rcases hT with rfl | ⟨c1, c2, rfl, n1, n2, n3, oc, hoc, hcd, vs1, tq, hd1, hv1⟩
  · refine runX (n := 2000) hA G.X G.lim b.kp (al_cons ⟨ho, G.n3⟩ al_nil) pw1 (fun n0 t0 stk => rule_new w stk n0 t0 t p hp) fun h' r led' hf k1 k2 hs => ?_
    obtain ⟨rfl, m1, m2, m3, m4, ⟨fd, m5⟩, m6⟩ := ruleF_some hf
    obtain ⟨ocd, m7, hcq⟩ := m6 _ rfl
    obtain ⟨hcd, vs1, tq, hd1, hv1⟩ := isCdQ_some hcq
    have c9 := nw (lo _) (k2 _ m7)
    have kp9 := k9 k1
    refine rule_end (tk := s.toks + 23) b hp kp9 (k2 _ m1).1 (.inr ⟨_, _, rfl, ?_, ?_, ?_, ocd, c9.1, hcd, vs1, tq, hd1, hv1⟩) (nw (lo _) (k2 _ m5)) (nw (lo _) (k2 _ m4)) (nw (lo _) (k2 _ m3)) (nw (lo _) (k2 _ m2)) ⟨_, ocd, vs1, tq, rfl, c9.1, hd1, hv1⟩ (fun y => b.yl _ y c9.2) ⟨lo _, lo _, lo _, lo _⟩
    · exact Nat.ne_of_gt (Nat.lt_of_lt_of_le (by decide) (lo 8))
    · exact Nat.ne_of_gt (Nat.lt_of_lt_of_le (by decide) (lo 8))
    · exact Nat.ne_of_gt (Nat.lt_of_lt_of_le (by decide) (lo 8))
  · refine runX (n := 2000) hA G.X G.lim b.kp (al_cons ⟨ho, G.n3⟩ al_nil) pw1 (fun n0 t0 stk => rule_run w stk n0 t0 c1 c2 t p hp) fun h' r led' hf k1 k2 hs => ?_
    obtain ⟨rfl, m1, m2, m3, m4, ⟨fd, m5⟩, _⟩ := ruleF_some hf
    have kp9 := k9 k1
    have hoc' := kp9 _ _ n3 hoc
    exact rule_end (tk := s.toks + 9) b hp kp9 (k2 _ m1).1 (.inr ⟨_, _, rfl, n1, n2, n3, oc, hoc', hcd, vs1, tq, hd1, hv1⟩) (nw (lo _) (k2 _ m5)) (nw (lo _) (k2 _ m4)) (nw (lo _) (k2 _ m3)) (nw (lo _) (k2 _ m2)) ⟨_, oc, vs1, tq, rfl, hoc', hd1, hv1⟩ (fun y => b.yc _ y _ hoc hcd) ⟨lo _, lo _, lo _, lo _⟩
end
end Mine

end

section
open PySem PySem.W PyProof.Rows PySem.Calls
set_option maxRecDepth 100000
set_option linter.unusedVariables false
namespace Mine
noncomputable abbrev entD (P : Params) (va : Value) (rl : Addr) (v3 v4 : Value) (t1 t2 t3 t4 : Tok) (ep : Nat) : Obj := dictOf [⟨hsh P "useragents", .str (Str.ofString "useragents") t1, va⟩, ⟨hsh P "rulelines", .str (Str.ofString "rulelines") t2, .ref rl⟩, ⟨hsh P "delay", .str (Str.ofString "delay") t3, v3⟩, ⟨hsh P "req_rate", .str (Str.ofString "req_rate") t4, v4⟩] ep
noncomputable abbrev entO (d : Addr) : Obj := ⟨.ref 59, some d, .plain, #[]⟩
noncomputable abbrev rulO (dct : Addr) (fdl : FuncData) (sl : Array (Option Value)) : Obj := ⟨.type "function", some dct, .func fdl, sl⟩
theorem rallow_run (w : World) (stk : Nat → Pos × List (Code × Pos)) (n0 t0 : Nat) (r dct q : Addr) (p : Int) (tp t1 t2 : Tok) (fdl : FuncData) (sl : Array (Option Value)) :
   runT (K2 w.params) (S2 w) n0 t0 denZ 2000 Value A0 none (getAttr (.ref r) (Str.ofString "allowance") true)
     (st0 [.l 0, .l 0, .l 0, .l 0, .l 0, .l 1] [(r, rulO dct fdl sl), (dct, ruleD w.params q p tp t1 t2)] stk) (prI [0, 1])
   = some (.ok (.int p tp), [(r, rulO dct fdl sl), (dct, ruleD w.params q p tp t1 t2)], 0, 1, [dct, r, r, r, r, r], [dct, r, r, r, r, r]) := by
  kernel_rfl
theorem rmeth_run (w : World) (stk : Nat → Pos × List (Code × Pos)) (n0 t0 : Nat) (r dct q : Addr) (p : Int) (tp t1 t2 : Tok) (fdl : FuncData) (sl : Array (Option Value)) (pl : Sem Bool) :
   runT (K2 w.params) (S2 w) n0 t0 denZ 2000 (Value × List Value) A0 none (getMethod (.ref r) (Str.ofString "applies_to") pl)
     (st0 [.l 0, .l 0, .l 0, .l 0, .l 0, .l 0, .l 0, .l 0, .l 1] [(r, rulO dct fdl sl), (dct, ruleD w.params q p tp t1 t2)] stk) (prI [0, 1])
   = some (.ok (.ref q, []), [(r, rulO dct fdl sl), (dct, ruleD w.params q p tp t1 t2)], 0, 1, [dct, r, r, r, r, r, r, r, r], [dct, r, r, r, r, r, r, r, r]) := by
  kernel_rfl
theorem elines_run (w : World) (stk : Nat → Pos × List (Code × Pos)) (n0 t0 : Nat) (x d rl : Addr) (va v3 v4 : Value) (t1 t2 t3 t4 : Tok) (ep : Nat) :
   runT (K2 w.params) (S2 w) n0 t0 denZ 2000 Value A0 none (getAttr (.ref x) (Str.ofString "rulelines") true)
     (st0 [.l 0, .k, .k, .k, .l 0, .k, .k, .k, .l 0, .l 0, .k, .l 1] [(x, entO d), (d, entD w.params va rl v3 v4 t1 t2 t3 t4 ep)] stk) (prI [0, 1])
   = some (.ok (.ref rl), [(x, entO d), (d, entD w.params va rl v3 v4 t1 t2 t3 t4 ep)], 0, 1, [d, x, x, x, x], [d, x, x, x, x]) := by
  kernel_rfl
theorem emeth_run (w : World) (stk : Nat → Pos × List (Code × Pos)) (n0 t0 : Nat) (x d rl : Addr) (va v3 v4 : Value) (t1 t2 t3 t4 : Tok) (ep : Nat) (pl : Sem Bool) :
   runT (K2 w.params) (S2 w) n0 t0 denZ 2000 (Value × List Value) A0 none (getMethod (.ref x) (Str.ofString "allowance") pl)
     (st0 [.l 0, .k, .k, .k, .l 0, .k, .k, .k, .l 0, .k, .k, .k, .k, .l 0, .l 1] [(x, entO d), (d, entD w.params va rl v3 v4 t1 t2 t3 t4 ep)] stk) (prI [0, 1])
   = some (.ok (.ref 56, [.ref x]), [(x, entO d), (d, entD w.params va rl v3 v4 t1 t2 t3 t4 ep)], 0, 0, [d, x, x, x, x], [d, x, x, x, x]) := by
  kernel_rfl
theorem k2_low (P : Params) : ((K2 P).all fun p => Nat.blt p.1 185) = true := by kernel_rfl
theorem in_hide {P : Params} {g : Heap} {l : List Addr} (X : (K2 P).In g) (hl : ∀ a ∈ l, 185 ≤ a) : (K2 P).In (hideAll g l) := fun a o e => by
  refine hideAll_get _ (X a o e) fun q => ?_
  have h1 := List.all_eq_true.mp (k2_low P) (a, o) (mem_of_lookupK e)
  exact absurd (Nat.lt_of_lt_of_le (Nat.le_of_ble_eq_true h1) (hl a q)) (Nat.lt_irrefl _)
theorem lim_hide {g : Heap} {l : List Addr} (x : g.NoLimit) (hl : ∀ a ∈ l, 185 ≤ a) : (hideAll g l).NoLimit := by
  obtain ⟨mc, hn, hm⟩ := x
  exact ⟨mc, hn.at' fun o e => hideAll_get _ e fun q => absurd (hl _ q) (by decide), hm⟩
theorem runRl {w : World} {g : Heap} (G : Gd w g) {led : List (Addr × Obj)} {α : Type} {A : Around} {t : Sem α} {dirs : List Dir} {s : Shared} {Q : α → Shared → Prop} {E : Value → Shared → Prop} {n : Nat} {is : List Nat} {a : Nat → Nat → α} {al tk : Nat} {e : Nat → Nat → List Addr}
    (hA : Roomy A) (hk : ∀ b o, g.get? b = some o → s.heap.get? b = some o) (hled : ∀ p ∈ led, s.heap.get? p.1 = some p.2 ∧ 185 ≤ p.1) (hdist : (led.map (·.1)).Pairwise (· ≠ ·))
    (H : ∀ n0 t0 stk, runT (K2 w.params) (S2 w) n0 t0 denZ n α A0 none t (st0 dirs led stk) (prI is) = some (.ok (a n0 t0), led, al, tk, e n0 t0, e n0 t0))
    (hQ : ∀ h', (∀ b o, s.heap.get? b = some o → h'.get? b = some o) → h'.objs.size = s.heap.objs.size + al → Q (a s.heap.objs.size s.toks) { s with heap := h', toks := s.toks + tk }) :
    wpAny (model PySem.Challenge.rw_rs0050_02.row.prog w) A t Q E s := by
  have lo : ∀ a ∈ led.map (·.1), 185 ≤ a := fun a ha => by obtain ⟨p, hp, rfl⟩ := List.mem_map.mp ha; exact (hled p hp).2
  exact runRd (g := hideAll g (led.map (·.1))) hA (in_hide G.X lo) (lim_hide G.lim lo) (fun b o e => hk b o (of_hideAll _ e)) (fun p hp => ⟨(hled p hp).1, hideAll_none _ (List.mem_map_of_mem hp)⟩) hdist H hQ
section
variable {w : World} {g : Heap} {G : Gd w g} {A : Around} {Y : Addr → Prop}
theorem ne_of_cls {h : Heap} {a b : Addr} {oa ob : Obj} (ha : h.get? a = some oa) (hb : h.get? b = some ob) (hc : oa.cls ≠ ob.cls) : ¬ a = b := fun q => by subst q; rw [ha] at hb; cases hb; exact hc rfl
theorem rule_allow (h0 : A.handled = none) (hd : A.depth ≤ 450) (hu : A.units ≤ 900) {p : Int} : AttrOk (CR G) A (Str.ofString "allowance") 0 [.int p] (.int p) := by
  intro Y s v b hr
  have hA := roomy h0 hd hu
  obtain ⟨h9, hh, hob⟩ := hr.obj_inv
  clear hr
  obtain ⟨r, dct, q, c, c1, ct, fdl, sl, tp, t1, t2, ts, R⟩ := hob
  obtain ⟨rfl, _, hr, hd, _, _, _, lo, _⟩ := R
  refine runRl (n := 2000) G hA b.kp (al_cons ⟨(hh _ _ hr).1, lo.1⟩ (al_cons ⟨(hh _ _ hd).1, lo.2.1⟩ al_nil)) (pw2 (ne_of_cls hr hd (fun q => absurd (Value.type.inj q) (by decide)))) (fun n0 t0 stk => rallow_run w stk n0 t0 r dct q p tp t1 t2 fdl sl) fun h' k' hs => ⟨Kp.heap k', .int _ _⟩
theorem entry_lines (h0 : A.handled = none) (hd : A.depth ≤ 450) (hu : A.units ≤ 900) {ps : List D} : AttrOk (CR G) A (Str.ofString "rulelines") 1 ps (.list (ps.map fun d => .obj 0 [d])) := by
  intro Y s v b hr
  have hA := roomy h0 hd hu
  obtain ⟨h0', hh, hob⟩ := hr.obj_inv
  clear hr
  obtain ⟨x, d, rl, vs, va, v3, v4, t1, t2, t3, t4, ep, rfl, hx, hd, hl, lx, ld, lrl, hlen, hel⟩ := hob
  refine runRl (n := 2000) G hA b.kp (al_cons ⟨(hh _ _ hx).1, lx⟩ (al_cons ⟨(hh _ _ hd).1, ld⟩ al_nil)) (pw2 (ne_of_cls hx hd (by nofun))) (fun n0 t0 stk => elines_run w stk n0 t0 x d rl va v3 v4 t1 t2 t3 t4 ep) fun h' k' hs => ⟨Kp.heap k', ?_⟩
  have hh' : ∀ b o, h0'.get? b = some o → h'.get? b = some o ∧ ¬ Y b := fun b o e => ⟨k' _ _ (hh b o e).1, (hh b o e).2⟩
  have hl' : h'.PlainList rl vs.toArray := IsList.at1 hl fun o e => (hh' _ _ e).1
  refine .list (vs := vs) (by obtain ⟨n, e⟩ := hl; exact (hh' _ _ e).2) hl' ?_
  clear hl hl'
  induction vs generalizing ps with
  | nil => cases ps with
    | nil => exact .nil
    | cons a l => cases hlen
  | cons v vs ih => cases ps with
    | nil => cases hlen
    | cons a l =>
      obtain ⟨p, rfl, hp⟩ := hel 0 v a rfl rfl
      exact .cons (.obj hh' hp) (ih (Nat.succ.inj hlen) fun i v' d' h1 h2 => hel (i + 1) v' d' h1 h2)
end
end Mine

end

section
open PySem PySem.W PyProof.Rows PySem.Calls
set_option maxRecDepth 100000
set_option linter.unusedVariables false
namespace Mine
noncomputable def T0 : Tab := ⟨[], fun _ _ => none, fun _ _ _ => none, fun _ _ _ _ => none, fun _ _ => none, fun _ _ => none, fun _ _ _ _ => none⟩
theorem t0_ok {C : Cfg} {A : Around} : TabOk C A T0 := ⟨fun _ _ h => (nomatch h), fun _ _ _ _ h => (nomatch h), fun _ _ _ _ h => (nomatch h), fun _ _ _ _ _ h => (nomatch h), fun _ _ _ h => (nomatch h), fun _ _ _ h => (nomatch h), fun _ _ _ _ _ _ h => (nomatch h), fun _ _ h => (nomatch h)⟩
noncomputable def reachB (P : Params) : List Stmt := stmtsOf (reachFd P 0 .none .none).body
noncomputable def reachSc (P : Params) : Scope := (reachFd P 0 .none .none).scope
noncomputable def reachV (P : Params) (p : Int) (nm : Str) : Option D := cloD T0 [] 12 (reachSc P) (reachB P) [Str.ofString "name"] (Str.ofString "sign") (.str (signS p)) [.str nm]
theorem reach_clo (P : Params) (c : Addr) (cd ct : Value) : CloOk (reachFd P c cd ct) (reachB P) [Str.ofString "name"] (Str.ofString "sign") c where
  body := by kernel_rfl
  bind := fun vs h => by
    rcases vs with _ | ⟨v, _ | ⟨v', r⟩⟩
    · cases h
    · kernel_rfl
    · cases h
  nodup := .cons nofun .nil
  clo := by kernel_rfl
  gl := by kernel_rfl
  bi := by kernel_rfl
  co := by kernel_rfl
  gen := by kernel_rfl
  kind := by kernel_rfl
  par := fun x hx => by rw [List.mem_singleton.mp hx]; kernel_rfl
  cel := fun x hx => by
    have e : (reachFd P c cd ct).scope.names = [(Str.ofString "name", .local), (Str.ofString "held", .local), (Str.ofString "rest", .local), (Str.ofString "sign", .free)] := by kernel_rfl
    rw [e] at hx
    exact (List.all_eq_true.mp (show ([(Str.ofString "name", NameKind.local), (Str.ofString "held", .local), (Str.ofString "rest", .local), (Str.ofString "sign", .free)].all fun x => x.2 != .cell) = true from rfl) x hx |> fun q h => by rw [h] at q; exact nob q)
  fre := by kernel_rfl
  one := fun x hx => by
    have e : (reachFd P c cd ct).scope.names = [(Str.ofString "name", .local), (Str.ofString "held", .local), (Str.ofString "rest", .local), (Str.ofString "sign", .free)] := by kernel_rfl
    rw [e] at hx
    have q := List.all_eq_true.mp (show ([(Str.ofString "name", NameKind.local), (Str.ofString "held", .local), (Str.ofString "rest", .local), (Str.ofString "sign", .free)].all fun x => x.2 != .free || x.1 == Str.ofString "sign") = true from rfl) _ (lookup_mem hx)
    exact eq_of_beq q
  nn := by decide
  cd := by decide
section
variable {w : World} {g : Heap} {G : Gd w g} {A : Around} {Y : Addr → Prop}
theorem reach_ok (h0 : A.handled = none) (hd : A.depth ≤ 450) (hu : A.units ≤ 900) {p : Int} {nm : Str} {d : D} (he : reachV w.params p nm = some d) : MethOk (CR G) A (Str.ofString "applies_to") 0 [.int p] [.str nm] d := by
  intro pl Y s v b hr
  have hA := roomy h0 hd hu
  obtain ⟨h9, hh, hob⟩ := hr.obj_inv
  clear hr
  obtain ⟨r, dct, q, c, c1, ct, fdl, sl, tp, t1, t2, ts, R⟩ := hob
  obtain ⟨rfl, hp, hr, hdc, hq, hc, hcd, lo, ng⟩ := R
  refine runRl (n := 2000) G hA b.kp (al_cons ⟨(hh _ _ hr).1, lo.1⟩ (al_cons ⟨(hh _ _ hdc).1, lo.2.1⟩ al_nil)) (pw2 (ne_of_cls hr hdc (fun q => absurd (Value.type.inj q) (by decide)))) (fun n0 t0 stk => rmeth_run w stk n0 t0 r dct q p tp t1 t2 fdl sl pl) fun h' k' hs => ?_
  have tq : ¬ (CR G).Tb q := fun t => (hh _ _ hq).2 (b.ty q t)
  refine ⟨Kp.heap k', q, _, rfl, k' _ _ (hh _ _ hq).1, ⟨_, rfl⟩, tq, fun s2 vs b2 k2 hv => ?_⟩
  have up : ∀ a o, ¬ (CR G).Tb a → s.heap.get? a = some o → s2.heap.get? a = some o := fun a o ht e => k2.kp a o ht (k' a o e)
  have tc : ¬ (CR G).Tb c := fun t => (hh _ _ hc).2 (b.ty c t)
  have hcd2 : s2.heap.CodeRec (.ref c1) reachQ := by
    obtain ⟨c1', oc, vs', t, e, hoc, r⟩ := hcd
    cases e
    exact ⟨c1, oc, vs', t, rfl, up _ _ (fun t => (hh _ _ hoc).2 (b.ty _ t)) (hh _ _ hoc).1, r⟩
  have hqn : (reachFd w.params c (.ref c1) ct).qualname = reachQ ∧ (reachFd w.params c (.ref c1) ct).code = .ref c1 := ⟨by kernel_rfl, by kernel_rfl⟩
  have hsc : (reachFd w.params c (.ref c1) ct).scope = reachSc w.params := by kernel_rfl
  obtain ⟨v, us, rfl, r1, hv⟩ := hv.cons_inv
  rw [hv.nil_inv]
  obtain ⟨tn, rfl⟩ := r1.str_inv
  refine clo_run (T := T0) (own := []) (n := 12) (names := [Str.ofString "name"]) (d0 := .str (signS p)) (reach_clo w.params c (.ref c1) ct) (Nat.lt_of_le_of_lt hd (by decide)) (fun env => ⟨h0, ?_, ?_⟩) (fun env => t0_ok) G.lim (up _ _ tq (hh _ _ hq).1) rfl (by rw [hqn.1, hqn.2]; exact hcd2) b2 ⟨_, up _ _ tc (hh _ _ hc).1, rfl⟩ (hh _ _ hc).2 ng (fun Y' => .str _ _) (.cons (.str _ _) .nil) (fun Y' _ => .cons (.str _ _) .nil) (by rw [hsc]; exact he)
  · show A.depth + 1 ≤ _; omega
  · show A.units + _ ≤ _; omega
end
end Mine

end

section
open PySem PySem.W PyProof.Rows PySem.Calls
set_option maxRecDepth 100000
set_option linter.unusedVariables false
namespace Mine
theorem fd_at {P : Params} {a : Addr} (e : isFnA (K2 P) a = true) : ∃ oc od sl, (K2 P).lookup a = some ⟨oc, od, .func (fdA P a), sl⟩ := by
  obtain ⟨⟨oc, od, dt, sl⟩, fd, h1, h2, h3⟩ := isFnA_some e
  obtain rfl : dt = _ := h2
  unfold fdA
  rw [h3]
  exact ⟨oc, od, sl, h1⟩
noncomputable def bodyA (P : Params) (a : Addr) : List Stmt := stmtsOf (fdA P a).body
section
variable {w : World} {g : Heap} {G : Gd w g} {A : Around} {Y : Addr → Prop}
theorem defOk_of {a : Addr} {names : List Str} (e : isFnA (K2 w.params) a = true) (hcd : codeIn (K2 w.params) (fdA w.params a).code (fdA w.params a).qualname = true) (hb : (fdA w.params a).body = .stmts (bodyA w.params a))
    (bind : ∀ vs : List Value, vs.length = names.length → bindArgs (fdA w.params a) ⟨vs, []⟩ = pure (names.zip vs)) (nodup : names.Nodup) (clo : (fdA w.params a).closure = []) (gl : (fdA w.params a).globals = mainGlobals) (bi : (fdA w.params a).builtins = builtinsNs)
    (co : (fdA w.params a).scope.isCoroutine = false) (gen : (fdA w.params a).scope.isGenerator = false) (kind : (fdA w.params a).scope.kind = .function)
    (par : (names.all fun x => (fdA w.params a).scope.names.lookup x == some .local || (fdA w.params a).scope.names.lookup x == some .cell) = true)
    (free : ((fdA w.params a).scope.names.all fun x => x.2 != .free) = true) : ∃ o, DefOk (CR G) a o (fdA w.params a) (bodyA w.params a) names := by
  obtain ⟨oc, od, sl, h⟩ := fd_at e
  refine ⟨_, G.X _ _ h, rfl, G.lim, codeRec_of G.X hcd, hb, bind, nodup, clo, gl, bi, co, gen, kind, fun x hx => ?_, fun x hx => ?_⟩
  · exact (Bool.or_eq_true_iff.mp (List.all_eq_true.mp par x hx)).imp (fun q => beq_iff_eq.mp q) fun q => beq_iff_eq.mp q
  · exact nob (List.all_eq_true.mp free _ (lookup_mem hx))
noncomputable def sSelf : Str := Str.ofString "self"
noncomputable def T1 (P : Params) : Tab where
  glob := []
  fn := fun _ _ => none
  attr := fun t ds m => bif Nat.beq t 0 && m == Str.ofString "allowance" then (one ds).bind fun d => (asI d).map .int else gd (Nat.beq t 1 && m == Str.ofString "rulelines") (some (.list (ds.map fun d => .obj 0 [d])))
  meth := fun t ds m as => gd (Nat.beq t 0 && m == Str.ofString "applies_to") ((one ds).bind fun d => (asI d).bind fun p => (one as).bind fun a => (asS a).bind fun nm => reachV P p nm)
  accLen := fun _ _ => none
  accStr := fun _ _ => none
  accCall := fun _ _ _ _ => none
theorem t1_ok (h0 : A.handled = none) (hd : A.depth ≤ 450) (hu : A.units ≤ 900) : TabOk (CR G) A (T1 w.params) where
  glob := fun _ _ h => nomatch h
  fn := fun _ _ _ _ h => nomatch h
  attr := fun t ds m d h => by
    rcases biff h with ⟨hc, h⟩ | ⟨_, h⟩
    · refine bndE h fun d1 h1 h => ?_
      obtain ⟨p, h2, rfl⟩ := mpd h
      rw [one_some h1, asI_some h2, Nat.eq_of_beq_eq_true (and_1 hc), eq_of_beq (and_2 hc)]
      exact rule_allow h0 hd hu
    · refine gdE h fun hc h => ?_
      rw [← so h, Nat.eq_of_beq_eq_true (and_1 hc), eq_of_beq (and_2 hc)]
      exact entry_lines h0 hd hu
  meth := fun t ds m as d h => by
    refine gdE h fun hc h => ?_
    refine bndE h fun d1 h1 h => ?_
    refine bndE h fun p h2 h => ?_
    refine bndE h fun a h3 h => ?_
    refine bndE h fun nm h4 h => ?_
    rw [one_some h1, asI_some h2, one_some h3, asS_some h4, Nat.eq_of_beq_eq_true (and_1 hc), eq_of_beq (and_2 hc)]
    exact reach_ok h0 hd hu h
  accLen := fun _ _ _ h => nomatch h
  accStr := fun _ _ _ h => nomatch h
  accCall := fun _ _ _ _ _ _ h => nomatch h
  accNew := fun _ _ h => nomatch h
noncomputable def allowV (P : Params) (ds : List D) : Option D := funD (T1 P) [] 12 (fdA P 56).scope (bodyA P 56) [sSelf, Str.ofString "filename"] ds
theorem allow_ok (h0 : A.handled = none) (hd : A.depth ≤ 420) (hu : A.units ≤ 800) : FnOk (CR G) A 56 (allowV w.params) := by
  obtain ⟨o, ok⟩ : ∃ o, DefOk (CR G) 56 o (fdA w.params 56) (bodyA w.params 56) [sSelf, Str.ofString "filename"] := by
    refine defOk_of (by kernel_rfl) (by kernel_rfl) (by kernel_rfl) (fun vs h => ?_) (by decide) (by kernel_rfl) (by kernel_rfl) (by kernel_rfl) (by kernel_rfl) (by kernel_rfl) (by kernel_rfl) (by kernel_rfl) (by kernel_rfl)
    rcases vs with _ | ⟨v, _ | ⟨v', _ | ⟨v2, r⟩⟩⟩ <;> first | (cases h; done) | kernel_rfl
  exact fnOk_of ok (Nat.lt_of_le_of_lt hd (by decide)) (fun env => ⟨h0, (by show A.depth + 1 ≤ _; omega), (by show A.units + _ ≤ _; omega)⟩) (fun env => t1_ok h0 (by show A.depth + 1 ≤ _; omega) (by show A.units + _ ≤ _; omega))
theorem entry_allow (h0 : A.handled = none) (hd : A.depth ≤ 420) (hu : A.units ≤ 800) {ps : List D} {nm : Str} {d : D} (he : allowV w.params [.obj 1 ps, .str nm] = some d) : MethOk (CR G) A (Str.ofString "allowance") 1 ps [.str nm] d := by
  intro pl Y s v b hr
  have hA := roomy h0 (Nat.le_trans hd (by decide)) (Nat.le_trans hu (by decide))
  obtain ⟨h0', hh, hob⟩ := hr.obj_inv
  obtain ⟨x, d, rl, vs, va, v3, v4, t1, t2, t3, t4, ep, rfl, hx, hdd, hl, lx, ld, lrl, hlen, hel⟩ := hob
  refine runRl (n := 2000) G hA b.kp (al_cons ⟨(hh _ _ hx).1, lx⟩ (al_cons ⟨(hh _ _ hdd).1, ld⟩ al_nil)) (pw2 (ne_of_cls hx hdd (by nofun))) (fun n0 t0 stk => emeth_run w stk n0 t0 x d rl va v3 v4 t1 t2 t3 t4 ep pl) fun h' k' hs => ?_
  have fa := (allow_ok (G := G) h0 hd hu)
  obtain ⟨oc, od, fd, sl, e56⟩ := fa.at'
  refine ⟨Kp.heap k', 56, _, rfl, k' _ _ (b.kp _ _ e56), ⟨fd, rfl⟩, Cfg.g_tb e56, fun s2 us b2 k2 hu2 => ?_⟩
  have r2 : Rep (CR G) Y s2.heap (.ref x) (.obj 1 ps) := hr.mono fun a o ha e => ⟨k2.kp a o (fun t => ha (b.ty a t)) (k' a o e), ha⟩
  exact fa.run Y s2 _ _ _ b2 (.cons r2 hu2) he
end
end Mine

end

section
open PySem PySem.W PyProof.Rows PySem.Calls
set_option maxRecDepth 100000
set_option linter.unusedVariables false
namespace Mine
theorem entry_run (w : World) (stk : Nat → Pos × List (Code × Pos)) (n0 t0 : Nat) :
   runT (K2 w.params) (S2 w) n0 t0 denZ 2000 Value A0 none (call (.ref 59) [])
     (st0 [.k, .k, .k, .k, .k, .k, .k, .k, .k, .k, .k, .k, .k, .k, .k, .k, .k, .k, .k, .k, .k, .l 1, .k, .l 1, .k, .k, .k, .k, .k, .k, .l 2, .l 2, .l 2, .l 1, .k, .k, .k, .l 1, .k, .l 1, .k, .l 1, .k, .k, .k, .l 1, .k, .l 0, .l 0, .l 0, .l 2, .l 1, .k, .k, .k, .l 1, .k, .l 1, .k, .l 1, .k, .k, .k, .l 1, .k, .l 0, .l 0, .l 0, .l 2, .l 1, .k, .k, .k, .l 1, .k, .l 1, .k, .l 1, .k, .k, .k, .l 1, .k, .l 0, .l 0, .l 0, .l 2, .l 1, .k, .k, .k, .l 1, .k, .l 1, .k, .l 1, .k, .k, .k, .l 1, .k, .l 0, .l 0, .l 0] [] stk) (prI [0, 1, 3, 4])
   = some (.ok (.ref (n0 + 1)), [(n0, entD w.params (.ref (n0 + 3)) (n0 + 4) .none .none (t0 + 2) (t0 + 4) (t0 + 6) (t0 + 8) 4), (n0 + 1, entO n0), (n0 + 3, W.listOf #[] 0), (n0 + 4, W.listOf #[] 0)], 5, 9, [n0, n0, n0, n0 + 1, n0 + 1, n0 + 1, n0 + 1, n0 + 1, n0 + 2, n0, n0, n0, n0 + 1, n0 + 1, n0 + 1, n0 + 1, n0 + 1, n0 + 2, n0, n0, n0, n0 + 1, n0 + 1, n0 + 1, n0 + 1, n0 + 1, n0 + 2, n0, n0, n0, n0 + 1, n0 + 1, n0 + 1, n0 + 1, n0 + 1, n0 + 2, n0 + 2, n0 + 2, n0 + 1, n0 + 1], [n0, n0, n0, n0 + 1, n0 + 1, n0 + 1, n0 + 1, n0 + 1, n0 + 2, n0, n0, n0, n0 + 1, n0 + 1, n0 + 1, n0 + 1, n0 + 1, n0 + 2, n0, n0, n0, n0 + 1, n0 + 1, n0 + 1, n0 + 1, n0 + 1, n0 + 2, n0, n0, n0, n0 + 1, n0 + 1, n0 + 1, n0 + 1, n0 + 1, n0 + 2, n0 + 2, n0 + 2, n0 + 1, n0 + 1]) := by
  kernel_rfl
theorem eset_run (w : World) (stk : Nat → Pos × List (Code × Pos)) (n0 t0 : Nat) (x d rl rl' : Addr) (va v3 v4 : Value) (t1 t2 t3 t4 : Tok) (ep : Nat) :
   runT (K2 w.params) (S2 w) n0 t0 denZ 2000 Unit A0 none (setAttr (.ref x) (Str.ofString "rulelines") (.ref rl'))
     (st0 [.l 0, .k, .k, .k, .l 0, .k, .l 0, .k, .l 0, .k, .k, .k, .l 0, .k, .l 1, .l 1, .l 1] [(x, entO d), (d, entD w.params va rl v3 v4 t1 t2 t3 t4 ep)] stk) (prI [0, 1])
   = some (.ok (), [(x, entO d), (d, entD w.params va rl' v3 v4 t1 t2 t3 t4 ep)], 0, 2, [d, d, d, x, x, x, x, x], [d, d, d, x, x, x, x, x]) := by
  kernel_rfl
end Mine

end

section
open PySem PySem.W PyProof.Rows PySem.Calls
set_option maxRecDepth 100000
set_option linter.unusedVariables false
namespace Mine
section
variable {C : Cfg} {A : Around} {T : Tab}
theorem def_run {a : Addr} {o : Obj} {fd : FuncData} {body : List Stmt} {names : List Str} (ok : DefOk C a o fd body names) (hroom : A.depth < recursionLimit) {Y : Addr → Prop} {s : Shared} {vs : List Value} {ds : List D} {Q : Value → Shared → Prop}
    (b : Bs C Y s) (hr : RepL C Y s.heap vs ds) (hlen : ds.length = names.length)
    (hbody : ∀ env s1, Fm env → env.scope = fd.scope → Inv C env (fun a => Y a ∧ ¬ C.Tb a) (fun _ => []) (par0 names ds) s1 → Kp C s s1 → (∀ a, Wf env (fun _ => []) a → s.heap.get? a = none) → wpAny C.M (A.deeper env) (execs body env) (fun fl s' => Q (match fl with | .ret v => v | _ => .none) s') (fun _ _ => False) s1) :
    wpAny C.M A (call (.ref a) vs) Q (fun _ _ => False) s := by
  have hvl : vs.length = names.length := hr.length.trans hlen
  have hsnd : ((names.zip vs).map (·.1)) = names := by rw [List.map_fst_zip]; omega
  have hpar : ∀ x ∈ names.zip vs, fd.scope.names.lookup x.1 = some .local ∨ (fd.scope.names.lookup x.1 = some .cell ∧ ((cellsFrom (s.heap.objs.size + 1) fd.scope.names []).lookup x.1).isSome = true) := fun x hx => by
    rcases ok.par x.1 (List.of_mem_zip hx).1 with h | h
    · exact .inl h
    · obtain ⟨c, hc⟩ := cellsFrom_has fd.scope.names (s.heap.objs.size + 1) [] x.1 (.inl h)
      exact .inr ⟨h, by rw [hc]; rfl⟩
  refine wpAny_call (codeAny_call_cells hroom (b.kp _ _ ok.at') ok.data (ok.lim.keeps b.kp) (ok.cd.keeps b.kp) ok.body (ok.bind vs hvl) ok.clo hpar (fun s1 x => ?_) ok.co ok.gen ok.kind)
  generalize henv : callEnvC fd s.heap.objs.size a = env at x ⊢
  have hL : env.locals = s.heap.objs.size := by rw [← henv]; rfl
  have hsc : env.scope = fd.scope := by rw [← henv]; rfl
  have hcells : env.cells = cellsFrom (s.heap.objs.size + 1) fd.scope.names [] := by rw [← henv]; rfl
  have hf : Fm env := ⟨by rw [hsc]; exact ok.kind, by rw [← henv]; exact ok.gl, by rw [← henv]; exact ok.bi, fun y hy => by
    rcases hy with hy | hy
    · rw [hcells]; exact cellsFrom_has _ _ _ _ (.inl (by unfold Env.kindOf at hy; rw [hsc] at hy; exact hy))
    · unfold Env.kindOf at hy; rw [hsc] at hy; exact absurd hy (ok.free y)⟩
  obtain ⟨h1, tk, rfl, hk1⟩ := x.toInCall.done
  have hLn : s.heap.get? env.locals = none := none_of_size (by rw [hL]; exact Nat.le_refl _)
  have hcn : ∀ y c, env.cells.lookup y = some c → s.heap.get? c = none := fun y c hc => none_of_size (Nat.le_of_lt (by have := x.above y c (mem_of_lookup hc); rwa [hL] at this))
  have gn : ∀ {a}, s.heap.get? a = none → C.g.get? a = none := fun {a} h => by
    cases e : C.g.get? a with
    | none => rfl
    | some o => have := b.kp a o e; rw [h] at this; cases this
  have wfn : ∀ a, Wf env (fun _ => []) a → s.heap.get? a = none := fun a w => by
    rcases w with rfl | ⟨y, w⟩ | ⟨y, w⟩
    · exact hLn
    · exact hcn y a w
    · cases w
  have hYn : ∀ a, Y a → ¬ Wf env (fun _ => []) a := fun a y w => b.yl a y (wfn a w)
  have al : ∀ a, s.heap.get? a ≠ none → h1.get? a ≠ none := fun a h q => by
    cases e : s.heap.get? a with
    | none => exact h e
    | some o => rw [hk1 a o e] at q; cases q
  have yfY : ∀ a, Y a → Yf C env (fun a => Y a ∧ ¬ C.Tb a) (fun _ => []) a := fun a y => by
    by_cases t : C.Tb a
    · exact .inr (.inl t)
    · exact .inl ⟨y, t⟩
  have inv : Inv C env (fun a => Y a ∧ ¬ C.Tb a) (fun _ => []) (par0 names ds) { s with heap := h1, toks := tk } := by
    refine ⟨fun b' o e => hk1 b' o (b.kp b' o e), b.jj.keep hk1, b.gb, fun a y => ?_, fun a y => ?_, fun a z => ⟨z.2, hYn a z.1⟩, fun a t => hYn a (b.ty a t), ⟨_, x.toInCall.ns⟩, fun y c hc => ⟨_, x.cell y c hc⟩, fun y c hc q => ?_, fun y z c h1' h2' => name_of_addr x.apart (mem_of_lookup h1') (mem_of_lookup h2'), fun y a ha => (nomatch ha), fun y z _ a ha => (nomatch ha), fun y sl e => ?_, fun a y o e => ?_⟩
    · rcases y with z | t | w
      · exact al a (b.yl a z.1)
      · exact al a (b.yl a (b.ty a t))
      · rcases w with rfl | ⟨y, w⟩ | ⟨y, w⟩
        · obtain ⟨o, _, _, e, _⟩ := x.toInCall.ns; rw [e]; simp
        · obtain ⟨o, e, _⟩ := x.cell y a w; rw [e]; simp
        · cases w
    · rcases y with z | t | w
      · exact b.yg a z.1
      · exact Cfg.tb_none t
      · exact gn (wfn a w)
    · have := x.above y c (mem_of_lookup hc); rw [q] at this; exact Nat.lt_irrefl _ this
    · obtain ⟨d', rfl, hm⟩ := lookup_par0 e
      obtain ⟨v, hmv, hrv⟩ := zip_rep hr hm
      have hrep : Rep C (Yf C env (fun a => Y a ∧ ¬ C.Tb a) (fun _ => [])) h1 v d' := hrv.mono fun b' o hb e => ⟨hk1 b' o e, fun q => by
        rcases q with z | t | w
        · exact hb z.1
        · exact hb (b.ty b' t)
        · have := wfn b' w; rw [this] at e; cases e⟩
      refine .var ?_ (.val hrep)
      have hyn : y ∈ names := (List.of_mem_zip hmv).1
      have hkd : env.kindOf y = fd.scope.names.lookup y := by unfold Env.kindOf; rw [hsc]
      have hnd : ((names.zip vs).map (·.1)).Nodup := by rw [hsnd]; exact ok.nodup
      rcases ok.par y hyn with h | h
      · exact .inl ⟨by rw [hkd]; exact h, _, x.toInCall.ns, bindL_at hnd hmv (by rw [hkd]; exact h)⟩
      · obtain ⟨c, hc⟩ := hf.c y (.inl (by rw [hkd]; exact h))
        refine .inr ⟨.inl (by rw [hkd]; exact h), c, hc, ?_⟩
        have := x.cell y c hc
        rwa [bindC_at hnd hmv (by rw [hkd, h]; simp)] at this
    · have old : ∀ a, Y a → ∀ o, h1.get? a = some o → ¬ isCd o := fun a y o e => by
        cases q : s.heap.get? a with
        | none => exact absurd q (b.yl a y)
        | some o' => rw [hk1 a o' q] at e; cases e; exact b.yc a y _ q
      rcases y with z | t | w
      · exact old a z.1 o e
      · exact old a (b.ty a t) o e
      · rcases w with rfl | ⟨y, w⟩ | ⟨y, w⟩
        · exact notCd_ns x.toInCall.ns o e
        · exact notCd_cell (x.cell y a w) o e
        · cases w
  refine wpAny_mono (hbody env _ hf hsc inv ⟨rfl, fun b' o _ e => hk1 b' o e, fun _ => b.gb, fun j => j.keep hk1⟩ wfn) (fun fl s' q => q) fun _ _ f => f.elim
theorem def_end {env : Env} {Y : Addr → Prop} {s s1 s' : Shared} {θ' : Str → List Addr} {σ' : St} {v : Value} {d : D} (b : Bs C Y s) (k1 : Kp C s s1) (wfn : ∀ a, Wf env (fun _ => []) a → s.heap.get? a = none) (i' : Inv C env (fun a => Y a ∧ ¬ C.Tb a) θ' σ' s')
    (st : Step C env (fun _ => []) θ' s1 s') (r : Rep C (Yf C env (fun a => Y a ∧ ¬ C.Tb a) θ') s'.heap v d) : Kp C s s' ∧ Rep C Y s'.heap v d := by
  refine ⟨⟨st.go.os.trans k1.os, fun b' o hb e => ?_, fun _ => i'.gb, fun _ => i'.jj⟩, ?_⟩
  · refine st.go.kp b' o (fun q => ?_) (k1.kp b' o hb e)
    rcases q with t | w
    · exact hb t
    · have := wfn b' w.wf; rw [this] at e; cases e
  · have less : ∀ a, Y a → Yf C env (fun a => Y a ∧ ¬ C.Tb a) θ' a := fun a y => by
      by_cases t : C.Tb a
      · exact .inr (.inl t)
      · exact .inl ⟨y, t⟩
    exact r.mono fun b' o hb e => ⟨e, fun q => hb (less b' q)⟩
end
end Mine

end

section
open PySem PySem.W PyProof.Rows PySem.Calls
set_option maxRecDepth 100000
set_option linter.unusedVariables false
namespace Mine
noncomputable abbrev Pb (P : Params) (b : Bool) : Params := { P with followText := fun r => if r = "special-get-raises" then b else P.followText r }
theorem pb_eq (P : Params) : Pb P (P.followText "special-get-raises") = P := by
  have e : (fun r => if r = "special-get-raises" then P.followText "special-get-raises" else P.followText r) = P.followText := by
    funext r
    split
    · rename_i h; rw [h]
    · rfl
  show ({ P with followText := _ } : Params) = P
  rw [e]
noncomputable abbrev setO (b : Bool) : Obj := ⟨.type "set", none, .set #[] 0 (.fresh 0 0 b), #[]⟩
noncomputable abbrev filO (m i : Addr) : Obj := ⟨.type "filter", none, .fields #[.ref m, .ref i], #[]⟩
noncomputable abbrev litL (u : Addr) : Obj := ⟨.type "list_iterator", none, .fields #[.ref u, .int 0 0], #[]⟩
theorem set_run_t (P : Params) (stk : Nat → Pos × List (Code × Pos)) (n0 t0 : Nat) (u : Addr) :
   runT (K2 (Pb P true)) ⟨PySem.Challenge.rw_rs0050_02.row.prog, Pb P true⟩ n0 t0 denZ 2000 Value A0 none (call (.type "set") [.ref u])
     (st0 [.l 1, .l 1, .l 1, .l 1, .l 1, .l 1, .l 0, .l 0, .l 0, .l 0, .l 0, .l 0, .l 2, .l 2, .l 2, .l 2, .l 2, .l 0, .l 2, .l 2, .l 4] [(u, W.listOf #[] 0)] stk) (prI [0, 1])
   = some (.ok (.ref n0), [(u, W.listOf #[] 0), (n0, setO (!P.followText "set-order"))], 4, 0, [n0 + 3, n0 + 1, n0 + 1, u, n0 + 1, n0 + 1, n0 + 1, n0 + 1, n0 + 1, u, u, u, u, u, u, n0, n0, n0, n0, n0, n0], [n0 + 3, n0 + 1, n0 + 1, u, n0 + 1, n0 + 1, n0 + 1, n0 + 1, n0 + 1, u, u, u, u, u, u, n0, n0, n0, n0, n0, n0]) := by
  kernel_rfl
theorem set_run_f (P : Params) (stk : Nat → Pos × List (Code × Pos)) (n0 t0 : Nat) (u : Addr) :
   runT (K2 (Pb P false)) ⟨PySem.Challenge.rw_rs0050_02.row.prog, Pb P false⟩ n0 t0 denZ 2000 Value A0 none (call (.type "set") [.ref u])
     (st0 [.l 1, .l 1, .l 1, .l 1, .l 1, .l 1, .l 0, .l 0, .l 0, .l 0, .l 0, .l 0, .l 2, .l 2, .l 2, .l 2, .l 2, .l 0, .l 2, .l 2, .l 4] [(u, W.listOf #[] 0)] stk) (prI [0, 1])
   = some (.ok (.ref n0), [(u, W.listOf #[] 0), (n0, setO (!P.followText "set-order"))], 4, 0, [n0 + 3, n0 + 1, n0 + 1, u, n0 + 1, n0 + 1, n0 + 1, n0 + 1, n0 + 1, u, u, u, u, u, u, n0, n0, n0, n0, n0, n0], [n0 + 3, n0 + 1, n0 + 1, u, n0 + 1, n0 + 1, n0 + 1, n0 + 1, n0 + 1, u, u, u, u, u, u, n0, n0, n0, n0, n0, n0]) := by
  kernel_rfl
theorem fil_run_t (P : Params) (stk : Nat → Pos × List (Code × Pos)) (n0 t0 : Nat) (m u : Addr) :
   runT (K2 (Pb P true)) ⟨PySem.Challenge.rw_rs0050_02.row.prog, Pb P true⟩ n0 t0 denZ 2000 Value A0 none (call (.type "filter") [.ref m, .ref u])
     (st0 [.l 0, .l 0, .l 0, .l 1, .l 2, .l 2, .l 2, .l 2] [(u, W.listOf #[] 0)] stk) (prI [0, 1, 2])
   = some (.ok (.ref (n0 + 1)), [(u, W.listOf #[] 0), (n0, litL u), (n0 + 1, filO m n0)], 2, 0, [n0 + 1, n0 + 1, n0 + 1, n0 + 1, n0, u, u, u], [n0 + 1, n0 + 1, n0 + 1, n0 + 1, n0, u, u, u]) := by
  kernel_rfl
theorem fil_run_f (P : Params) (stk : Nat → Pos × List (Code × Pos)) (n0 t0 : Nat) (m u : Addr) :
   runT (K2 (Pb P false)) ⟨PySem.Challenge.rw_rs0050_02.row.prog, Pb P false⟩ n0 t0 denZ 2000 Value A0 none (call (.type "filter") [.ref m, .ref u])
     (st0 [.l 0, .l 0, .l 0, .l 1, .l 2, .l 2, .l 2, .l 2] [(u, W.listOf #[] 0)] stk) (prI [0, 1, 2])
   = some (.ok (.ref (n0 + 1)), [(u, W.listOf #[] 0), (n0, litL u), (n0 + 1, filO m n0)], 2, 0, [n0 + 1, n0 + 1, n0 + 1, n0 + 1, n0, u, u, u], [n0 + 1, n0 + 1, n0 + 1, n0 + 1, n0, u, u, u]) := by
  kernel_rfl
theorem set_run (w : World) (stk : Nat → Pos × List (Code × Pos)) (n0 t0 : Nat) (u : Addr) :
   runT (K2 w.params) (S2 w) n0 t0 denZ 2000 Value A0 none (call (.type "set") [.ref u])
     (st0 [.l 1, .l 1, .l 1, .l 1, .l 1, .l 1, .l 0, .l 0, .l 0, .l 0, .l 0, .l 0, .l 2, .l 2, .l 2, .l 2, .l 2, .l 0, .l 2, .l 2, .l 4] [(u, W.listOf #[] 0)] stk) (prI [0, 1])
   = some (.ok (.ref n0), [(u, W.listOf #[] 0), (n0, setO (!w.params.followText "set-order"))], 4, 0, [n0 + 3, n0 + 1, n0 + 1, u, n0 + 1, n0 + 1, n0 + 1, n0 + 1, n0 + 1, u, u, u, u, u, u, n0, n0, n0, n0, n0, n0], [n0 + 3, n0 + 1, n0 + 1, u, n0 + 1, n0 + 1, n0 + 1, n0 + 1, n0 + 1, u, u, u, u, u, u, n0, n0, n0, n0, n0, n0]) := by
  have e := pb_eq w.params
  cases h : w.params.followText "special-get-raises" with
  | true => rw [h] at e; have z := set_run_t w.params stk n0 t0 u; rw [e] at z; exact z
  | false => rw [h] at e; have z := set_run_f w.params stk n0 t0 u; rw [e] at z; exact z
theorem fil_run (w : World) (stk : Nat → Pos × List (Code × Pos)) (n0 t0 : Nat) (m u : Addr) :
   runT (K2 w.params) (S2 w) n0 t0 denZ 2000 Value A0 none (call (.type "filter") [.ref m, .ref u])
     (st0 [.l 0, .l 0, .l 0, .l 1, .l 2, .l 2, .l 2, .l 2] [(u, W.listOf #[] 0)] stk) (prI [0, 1, 2])
   = some (.ok (.ref (n0 + 1)), [(u, W.listOf #[] 0), (n0, litL u), (n0 + 1, filO m n0)], 2, 0, [n0 + 1, n0 + 1, n0 + 1, n0 + 1, n0, u, u, u], [n0 + 1, n0 + 1, n0 + 1, n0 + 1, n0, u, u, u]) := by
  have e := pb_eq w.params
  cases h : w.params.followText "special-get-raises" with
  | true => rw [h] at e; have z := fil_run_t w.params stk n0 t0 m u; rw [e] at z; exact z
  | false => rw [h] at e; have z := fil_run_f w.params stk n0 t0 m u; rw [e] at z; exact z
end Mine

end

section
open PySem PySem.W PyProof.Rows PySem.Calls
set_option maxRecDepth 100000
set_option linter.unusedVariables false
namespace Mine
theorem fiter_t (P : Params) (stk : Nat → Pos × List (Code × Pos)) (n0 t0 : Nat) (f m i : Addr) :
   runT (K2 (Pb P true)) ⟨PySem.Challenge.rw_rs0050_02.row.prog, Pb P true⟩ n0 t0 denZ 2000 Value A0 none (pyIter (.ref f)) (st0 [.l 0, .l 0, .l 0, .l 0] [(f, filO m i)] stk) (prI [0])
   = some (.ok (.ref f), [(f, filO m i)], 0, 0, [f, f, f, f], [f, f, f, f]) := by kernel_rfl
theorem fiter_f (P : Params) (stk : Nat → Pos × List (Code × Pos)) (n0 t0 : Nat) (f m i : Addr) :
   runT (K2 (Pb P false)) ⟨PySem.Challenge.rw_rs0050_02.row.prog, Pb P false⟩ n0 t0 denZ 2000 Value A0 none (pyIter (.ref f)) (st0 [.l 0, .l 0, .l 0, .l 0] [(f, filO m i)] stk) (prI [0])
   = some (.ok (.ref f), [(f, filO m i)], 0, 0, [f, f, f, f], [f, f, f, f]) := by kernel_rfl
theorem fiter_run (w : World) (stk : Nat → Pos × List (Code × Pos)) (n0 t0 : Nat) (f m i : Addr) :
   runT (K2 w.params) (S2 w) n0 t0 denZ 2000 Value A0 none (pyIter (.ref f)) (st0 [.l 0, .l 0, .l 0, .l 0] [(f, filO m i)] stk) (prI [0])
   = some (.ok (.ref f), [(f, filO m i)], 0, 0, [f, f, f, f], [f, f, f, f]) := by
  have e := pb_eq w.params
  cases h : w.params.followText "special-get-raises" with
  | true => rw [h] at e; have z := fiter_t w.params stk n0 t0 f m i; rw [e] at z; exact z
  | false => rw [h] at e; have z := fiter_f w.params stk n0 t0 f m i; rw [e] at z; exact z
theorem fhint_run (w : World) (stk : Nat → Pos × List (Code × Pos)) (n0 t0 : Nat) (f m i : Addr) :
   runT (K2 w.params) (S2 w) n0 t0 denZ 2000 Bool A0 none (Builtin.List.listLengthHint (.ref f)) (st0 [.l 0, .l 0] [(f, filO m i)] stk) (prI [0])
   = some (.ok true, [(f, filO m i)], 0, 0, [f, f], [f, f]) := by kernel_rfl
theorem floop_run (w : World) (stk : Nat → Pos × List (Code × Pos)) (n0 t0 : Nat) (S f m i u : Addr) (ep : Nat) :
   runT (K2 w.params) (S2 w) n0 t0 denZ 2000 Fin A0 none (Builtin.«list.extend.loop» ⟨[.ref S, .ref f, .none], []⟩)
     (st0 [.l 1, .l 1, .l 1, .l 1, .l 2, .l 2, .l 2, .l 2, .l 3, .l 2, .l 2, .l 5] [(S, W.listOf #[] ep), (f, filO m i), (i, litL u), (u, W.listOf #[] 0)] stk) (prI [0, 1, 3])
   = some (.ok (.done (.ret .none)), [(S, W.listOf #[] ep), (f, filO m i), (u, W.listOf #[] 0)], 2, 0, [n0 + 1, i, i, u, i, i, i, i, f, f, f, f], [n0 + 1, i, i, u, i, i, i, i, f, f, f, f]) := by kernel_rfl
end Mine

end

section
open PySem PySem.W PyProof.Rows PySem.Calls
set_option maxRecDepth 100000
set_option linter.unusedVariables false
namespace Mine
theorem contains_run (w : World) (stk : Nat → Pos × List (Code × Pos)) (n0 t0 : Nat) (u : Addr) (b : Bool) :
   runT (K2 w.params) (S2 w) n0 t0 denZ 2000 Value A0 none (getAttr (.ref u) (Str.ofString "__contains__") true) (st0 [.l 0, .l 0, .l 0, .l 0, .l 0, .l 0] [(u, setO b)] stk) (prI [0])
   = some (.ok (.ref n0), [(u, setO b)], 1, 1, [u, u, u, u, u, u], [u, u, u, u, u, u]) := by kernel_rfl
theorem list_fil_ok {w : World} {A : Around} {s : Shared} {g : Heap} {f m i u : Addr} {Q : Value → Shared → Prop} {E : Value → Shared → Prop}
    (h0 : A.handled = none) (hd : A.depth ≤ 450) (hu : A.units ≤ 900) (X : (K2 w.params).In g) (hl : g.NoLimit) (hg : ∀ b o, g.get? b = some o → s.heap.get? b = some o)
    (hf : s.heap.get? f = some (filO m i) ∧ g.get? f = none) (hi : s.heap.get? i = some (litL u) ∧ g.get? i = none) (hu' : s.heap.get? u = some (W.listOf #[] 0) ∧ g.get? u = none) (hfi : ¬ f = i) (hfu : ¬ f = u) (hiu : ¬ i = u)
    (hQ : ∀ h' tk, (∀ b o, b ≠ i → s.heap.get? b = some o → h'.get? b = some o) → (∃ ep, h'.get? s.heap.objs.size = some (W.listOf #[] ep)) → Q (.ref s.heap.objs.size) { s with heap := h', toks := tk }) :
    wpAny (model PySem.Challenge.rw_rs0050_02.row.prog w) A (call (.type "list") [.ref f]) Q E s := by
  refine callType_codes (Q₁ := fun obj s₁ => obj = .ref s.heap.objs.size ∧ s₁ = { s with heap := s.heap.push { cls := .type "list", data := .seq #[] } }) F.called_list (F.typeCall_list_1 _) F.entry_list_init
    (code_list_new _ ⟨rfl, rfl⟩) fun obj s₁ h₁ => ?_
  obtain ⟨rfl, rfl⟩ := h₁
  have hS : (s.heap.push { cls := .type "list", data := .seq #[] }).get? s.heap.objs.size = some { cls := .type "list", data := .seq #[] } := Heap.get?_push_size _ rfl
  have nS : ∀ {b o}, s.heap.get? b = some o → ¬ s.heap.objs.size = b := fun e => Nat.ne_of_gt (Heap.lt_size e)
  refine ⟨⟨_, hS, rfl⟩, F.args_list_init_2 _ _, ?_⟩
  show wpAny _ _ (do let old ← Builtin.List.listItems (.ref s.heap.objs.size); Builtin.List.listUpdate (.ref s.heap.objs.size) (fun _ => #[]); letGo old.toList.reverse; Builtin.List.listExtendWith (.ref s.heap.objs.size) (.ref f) .none) _ _ _
  refine wpAny_bind (wpAny_listItems hS rfl ?_)
  show wpAny _ _ (updateSeq s.heap.objs.size (fun _ => #[]) >>= fun _ => letGo (#[] : Array Value).toList.reverse >>= fun _ => Builtin.List.listExtendWith (.ref s.heap.objs.size) (.ref f) .none) _ _ _
  refine wpAny_bind (wpAny_updateSeq hS rfl ?_)
  refine wpAny_bind (wpAny_letGo ?_)
  have hS₂ := Heap.get?_update_self (Obj.mapSeq (fun _ => (#[] : Array Value))) hS rfl
  generalize hH : (s.heap.push { cls := .type "list", data := .seq #[] }).update s.heap.objs.size (Obj.mapSeq fun _ => (#[] : Array Value)) = H at hS₂ ⊢
  obtain ⟨S, hSd⟩ : ∃ S, S = s.heap.objs.size := ⟨_, rfl⟩
  rw [← hSd] at hS₂ nS hQ ⊢
  have kH : ∀ b o, s.heap.get? b = some o → H.get? b = some o := fun b o e => by
    rw [← hH, ← hSd]
    exact (Heap.get?_update_ne _ _ _ _ (fun q => nS e q.symm)).trans (Heap.get?_push_of_some _ e)
  have gH : ∀ b o, g.get? b = some o → H.get? b = some o := fun b o e => kH _ _ (hg b o e)
  have gS : g.get? S = none := by
    cases q : g.get? S with
    | none => rfl
    | some o => exact absurd rfl (hSd ▸ nS (hg _ _ q))
  have hA1 : Roomy A.in1.in1 := ⟨h0, by show A.depth ≤ 500; omega, by show A.units + 1 + 1 ≤ 1000; omega⟩
  unfold Builtin.List.listExtendWith
  have tf : Looks (model PySem.Challenge.rw_rs0050_02.row.prog w) H (typeOf (.ref f)) (.type "filter") := (Looks.ld (kH _ _ hf.1)).andThen .now
  refine wpAny_bind (Looks.here tf ?_)
  have h1 : Builtin.List.listSameRef (.ref S) (.ref f) = false := by
    show (S == f) = false
    simpa using nS hf.1
  have h2 : (Value.type "filter" == Value.type "list") = false := by decide
  have h3 : (Value.type "filter" == Value.type "tuple") = false := by decide
  simp only [h1, h2, h3, Bool.or_false, Bool.false_eq_true, if_false]
  refine wpAny_bind ?_
  refine runRd (n := 2000) hA1 X hl gH (al_cons ⟨kH _ _ hf.1, hf.2⟩ al_nil) pw1 (fun n0 t0 stk => fiter_run w stk n0 t0 f m i) fun H1 k1 hs1 => ?_
  refine wpAny_bind (wpAny_holding ?_)
  have gH1 : ∀ b o, g.get? b = some o → H1.get? b = some o := fun b o e => k1 _ _ (gH b o e)
  refine runRd (n := 2000) hA1 X hl gH1 (al_cons ⟨k1 _ _ (kH _ _ hf.1), hf.2⟩ al_nil) pw1 (fun n0 t0 stk => fhint_run w stk n0 t0 f m i) fun H2 k2 hs2 => ?_
  rw [if_pos (by simp)]
  refine wpAny_bind (wpAny_rule ?_)
  refine wpAny_bind ?_
  have hS2 := k2 _ _ (k1 _ _ hS₂)
  show wpAny _ _ (updateSeq S (·.push .none) >>= fun _ => updateSeq S (·.pop)) _ _ _
  refine wpAny_bind (wpAny_updateSeq hS2 rfl ?_ (by simp) (by simp [sizeLine]))
  have hS3 := Heap.get?_update_self (Obj.mapSeq (·.push Value.none)) hS2 rfl
  refine wpAny_updateSeq hS3 rfl ?_ (by simp [sizeLine]) (by simp [sizeLine])
  have hS4 := Heap.get?_update_self (Obj.mapSeq (·.pop)) hS3 rfl
  dsimp only
  generalize hH4 : (H2.update S (Obj.mapSeq (·.push Value.none))).update S (Obj.mapSeq (·.pop)) = H4 at hS4 ⊢
  have k4 : ∀ b o, b ≠ S → H2.get? b = some o → H4.get? b = some o := fun b o hb e => by
    rw [← hH4]
    exact (Heap.get?_update_ne _ _ _ _ hb).trans ((Heap.get?_update_ne _ _ _ _ hb).trans e)
  have kA : ∀ b o, s.heap.get? b = some o → H4.get? b = some o := fun b o e => k4 _ _ (fun q => nS e q.symm) (k2 _ _ (k1 _ _ (kH _ _ e)))
  have hS5 : H4.get? S = some (W.listOf #[] 2) := hS4
  refine wpAny_pure ⟨plainId_quiet F.plain_extend_loop _, codeAny_builtin F.entry_extend_loop ?_⟩
  rw [Around.under_plainId F.plain_extend_loop _]
  refine runG (n := 2000) (led := [(S, W.listOf #[] 2), (f, filO m i), (i, litL u), (u, W.listOf #[] 0)]) hA1 X hl (fun b o e => kA _ _ (hg b o e)) (al_cons ⟨hS5, gS⟩ (al_cons ⟨kA _ _ hf.1, hf.2⟩ (al_cons ⟨kA _ _ hi.1, hi.2⟩ (al_cons ⟨kA _ _ hu'.1, hu'.2⟩ al_nil)))) (by simp; exact ⟨⟨nS hf.1, nS hi.1, nS hu'.1⟩, ⟨hfi, hfu⟩, hiu⟩) (fun n0 t0 stk => floop_run w stk n0 t0 S f m i u 2) fun H6 k6 n6 hs6 => ?_
  refine ⟨rfl, hQ H6 _ (fun b o hb e => ?_) ⟨2, (n6 _ (.head _)).1⟩⟩
  by_cases hbf : b = f
  · subst hbf
    rw [hf.1] at e; cases e
    exact (n6 _ (.tail _ (.head _))).1
  · by_cases hbu : b = u
    · subst hbu
      rw [hu'.1] at e; cases e
      exact (n6 _ (.tail _ (.tail _ (.head _)))).1
    · exact k6 b o (by simp; exact ⟨fun q => nS e q.symm, hbf, hb, hbu⟩) (kA _ _ e)
end Mine

end

section
namespace Mine

open PySem PySem.W PyProof.Rows PySem.Calls
set_option maxRecDepth 100000
set_option maxHeartbeats 8000000
set_option pp.maxSteps 30000
set_option pp.deepTerms.threshold 3
set_option linter.unusedSimpArgs false
set_option linter.unusedVariables false
local macro_rules | `(tactic| k_all) => `(tactic| first | exact Mine.allLt_ne (by assumption) | (refine Mine.ne_append ?_ ?_ <;> k_all) | (with_reducible assumption))
local macro_rules | `(tactic| k_room) => `(tactic| ((try simp only [depth_under_make, depth_under_kw, depth_in1, depth_deeper, depth_caller]); (try dsimp only [Mine.topA]); (simp only [recursionLimit] at *); omega))
local macro_rules | `(tactic| k_inst) => `(tactic| (refine' instAcc ?N ?h1 ?h2; (case N => k_asm); (case h1 => k_mem); (case h2 => k_mem)))
theorem keepN {g h h' : Heap} {L : Addr} {news : List (Addr × Obj)} (N : News g L h news) (k : ∀ b o, h.get? b = some o → h'.get? b = some o) : News g L h' news := fun p hp => ⟨k _ _ (N p hp).1, (N p hp).2⟩
theorem ltN {g h : Heap} {L : Addr} {news : List (Addr × Obj)} (N : News g L h news) : ∀ p ∈ news, Nat.lt p.1 h.objs.size := fun p hp => Heap.lt_size (N p hp).1
theorem keepN' {g h h' : Heap} {L n : Addr} {news : List (Addr × Obj)} (N : News g L h news) (lt : ∀ p ∈ news, Nat.lt p.1 n) (k : ∀ b o, b ≠ n → h.get? b = some o → h'.get? b = some o) : News g L h' news := fun p hp => ⟨k _ _ (Nat.ne_of_lt (lt p hp)) (N p hp).1, (N p hp).2⟩
theorem newOf {g h h' : Heap} {L : Addr} {m : Str → Option Value} (F : Fr g L h m) {a : Addr} {o : Obj} (hp : h'.get? a = some o ∧ h.get? a = none) : h'.get? a = some o ∧ a ≠ L ∧ g.get? a = none := by
  refine ⟨hp.1, fun q => ?_, ?_⟩
  · obtain ⟨_, _, _, e, _⟩ := F.ns
    rw [← q, hp.2] at e; cases e
  · cases q : g.get? a with
    | none => rfl
    | some o => have := F.keep _ _ q; rw [hp.2] at this; cases this
theorem merge_raw : ∀ {w : World} {loose : List Str} {mean : ExcName → Option Value} {mg mb : Str → Option Value} {dp un : Nat} {gd : Option (List Code)} {outer : List Env} {base g : Heap} {s : Shared} {x1 d1 u1 r1 x2 d2 u2 r2 : Nat} {t1 t2 t3 t4 s1 s2 s3 s4 : Tok} {n1 n2 m1 m2 : Nat} {va vb : List Value} {Q E : Value → Shared → Prop}
 (G : Mine.Gr (Mine.K2 w.params) (Mine.topA dp un gd outer) base outer loose mean mg mb g s) (X1 : (Mine.hK w.params).In g) (hdp : dp ≤ 400) (hun : un ≤ 500) (hm : ∀ p ∈ [(x1, Mine.entO d1), (d1, Mine.entD w.params (.ref u1) r1 .none .none t1 t2 t3 t4 n1), (u1, W.listOf #[] 0), (r1, W.listOf va.toArray m1), (x2, Mine.entO d2), (d2, Mine.entD w.params (.ref u2) r2 .none .none s1 s2 s3 s4 n2), (u2, W.listOf #[] 0), (r2, W.listOf vb.toArray m2)], s.heap.get? p.1 = some p.2 ∧ g.get? p.1 = none) (hl : va.length + vb.length ≤ 4)
 (ret : ∀ s' (x' d' rl' : Nat) vu u1' u2' u3' u4' m', (∀ b o, g.get? b = some o → s'.heap.get? b = some o) → s'.heap.get? x' = some (Mine.entO d') → s'.heap.get? d' = some (Mine.entD w.params vu rl' .none .none u1' u2' u3' u4' m') → s'.heap.get? rl' = some (W.listOf (va ++ vb).toArray 0) → g.objs.size ≤ x' → g.objs.size ≤ d' → g.objs.size ≤ rl' → (∀ p ∈ [(x1, Mine.entO d1), (d1, Mine.entD w.params (.ref u1) r1 .none .none t1 t2 t3 t4 n1), (u1, W.listOf #[] 0), (r1, W.listOf va.toArray m1), (x2, Mine.entO d2), (d2, Mine.entD w.params (.ref u2) r2 .none .none s1 s2 s3 s4 n2), (u2, W.listOf #[] 0), (r2, W.listOf vb.toArray m2)], s'.heap.get? p.1 = some p.2) → s'.os = s.os → s'.gens = s.gens → Q (.ref x') s'),
 wpAny (model PySem.Challenge.rw_rs0050_02.row.prog w) (Mine.topA dp un gd outer) (call (.ref 70) [.ref x1, .ref x2]) Q E s := by
  have kz : PySem.Challenge.rw_rs0050_02 = PySem.Challenge.rw_rs0050_02 → Mine.hK = Mine.hK → True := by
    k_fill
    intros; trivial
  clear kz
  intro w loose mean mg mb dp un gd outer base g s x1 d1 u1 r1 x2 d2 u2 r2 t1 t2 t3 t4 s1 s2 s3 s4 n1 n2 m1 m2 va vb Q E G X1 hdp hun hm hl ret
  have X2 := G.X
  have hNL := G.T.nolimit
  have GX := X1.keeps G.k
  refine wpAny_call ?_
  refine' Mine.enter_raw (muts := [(x1, Mine.entO d1), (d1, Mine.entD w.params (.ref u1) r1 .none .none t1 t2 t3 t4 n1), (u1, W.listOf #[] 0), (r1, W.listOf va.toArray m1), (x2, Mine.entO d2), (d2, Mine.entD w.params (.ref u2) r2 .none .none s1 s2 s3 s4 n2), (u2, W.listOf #[] 0), (r2, W.listOf vb.toArray m2)]) G X1 ?m ?ho ?cd ?room ?bind ?loc ?_ ?c1 ?c2 ?c3 ?c4
  case m => exact hm
  case ho => k_is
  case cd => k_is
  case room => k_room
  case bind => first | exact BindsTo.of_eq rfl | exact binds_K GX rfl (by k_is) rfl rfl rfl
  case loc => exact locs rfl
  case c1 => decide
  case c2 => exact rfl
  case c3 => exact rfl
  case c4 => exact rfl
  intro L' h' F' N' l1 X' T'
  clear X1 GX
  try dsimp only
  try k_fold
  
  have hA : Mine.Roomy (Mine.topA (dp + 1) (un + 3) gd outer) := ⟨rfl, (show dp + 1 ≤ 500 from Mine.up_to1 hdp rfl), (show un + 3 ≤ 1000 from Mine.up_to1 hun rfl)⟩
  k_steps
  show wpAny _ _ (call (.ref 59) []) _ _ _
  refine Mine.runI (n := 2000) hA F' N' X2 hNL Mine.sub_nil .nil (fun n0 t0 stk => Mine.entry_run w stk n0 t0) fun n0 h2 F2 l2 l3 N2 hs2 => ?_
  replace N2 := N2 ([(n0, Mine.entD w.params (.ref (n0 + 3)) (n0 + 4) .none .none (s.toks + 2 + 2) (s.toks + 2 + 4) (s.toks + 2 + 6) (s.toks + 2 + 8) 4), (n0 + 1, Mine.entO n0), (n0 + 3, W.listOf #[] 0), (n0 + 4, W.listOf #[] 0)] ++ [(x1, Mine.entO d1), (d1, Mine.entD w.params (.ref u1) r1 .none .none t1 t2 t3 t4 n1), (u1, W.listOf #[] 0), (r1, W.listOf va.toArray m1), (x2, Mine.entO d2), (d2, Mine.entD w.params (.ref u2) r2 .none .none s1 s2 s3 s4 n2), (u2, W.listOf #[] 0), (r2, W.listOf vb.toArray m2)]) (fun p hp => by
    rcases List.mem_append.mp hp with hp | hp
    · exact .inl hp
    · exact .inr ⟨hp, List.not_mem_nil⟩)
  clear F' N'
  k_steps
  rename_i h3 F3 N3
  have mu2 := N3 (u2, W.listOf #[] 0) (by k_mem)
  refine Mine.runRn (n := 2000) (led := [(u2, W.listOf #[] 0)]) (news := fun n0 _ => [(n0, Mine.setO (!w.params.followText "set-order"))]) hA X2 hNL F3.keep (Mine.al_cons ⟨mu2.1, mu2.2.2⟩ Mine.al_nil) Mine.pw1 (fun n0 t0 stk => Mine.set_run w stk n0 t0 u2) (fun n0 t0 p hp => by rw [List.mem_singleton.mp hp]; exact Nat.le_refl _) fun h4 k4 n4 hs4 => ?_
  have F4 := F3.keeps k4
  have N4 := keepN N3 k4
  have nq := newOf F3 (n4 _ (.head _))
  clear N3
  k_steps
  refine Mine.runRn (n := 2000) (news := fun n0 _ => []) hA X2 hNL F4.keep (Mine.al_cons ⟨nq.1, nq.2.2⟩ Mine.al_nil) Mine.pw1 (fun n0 t0 stk => Mine.contains_run w stk n0 t0 _ _) (fun n0 t0 p hp => nomatch hp) fun h5 k5 n5 hs5 => ?_
  have F5 := F4.keeps k5
  have N5 := keepN N4 k5
  clear N4 F4
  k_steps
  have mu1 := N5 (u1, W.listOf #[] 0) (by k_mem)
  refine Mine.runRn (n := 2000) (led := [(u1, W.listOf #[] 0)]) (news := fun n0 _ => [(n0, Mine.litL u1), (n0 + 1, Mine.filO h4.objs.size n0)]) hA X2 hNL F5.keep (Mine.al_cons ⟨mu1.1, mu1.2.2⟩ Mine.al_nil) Mine.pw1 (fun n0 t0 stk => Mine.fil_run w stk n0 t0 _ u1) (fun n0 t0 p hp => by
    exact Mine.al_cons (P := fun p => n0 ≤ p.1) (Nat.le_refl _) (Mine.al_cons (Nat.le_succ _) Mine.al_nil) p hp) fun h6 k6 n6 hs6 => ?_
  have F6 := F5.keeps k6
  have N6 := keepN N5 k6
  have ni := newOf F5 (n6 _ (.head _))
  have nf := newOf F5 (n6 _ (.tail _ (.head _)))
  have lt5 := ltN N5
  have L5 : L' < h5.objs.size := by obtain ⟨_, _, _, e, _⟩ := F5.ns; exact Heap.lt_size e
  clear N5 F5
  k_steps
  have mu1 := N6 (u1, W.listOf #[] 0) (by k_mem)
  refine Mine.list_fil_ok (m := h4.objs.size) (i := h5.objs.size) (u := u1) (g := g) rfl ((show dp + 1 ≤ 450 from Mine.up_to1 hdp rfl)) ((show un + 3 ≤ 900 from Mine.up_to1 hun rfl)) X2 hNL F6.keep ⟨nf.1, nf.2.2⟩ ⟨ni.1, ni.2.2⟩ ⟨mu1.1, mu1.2.2⟩ ?f1 ?f2 ?f3 fun h7 tk7 k7 n7 => ?_
  case f1 => exact Nat.succ_ne_self _
  case f2 =>
    have := lt5 (u1, W.listOf #[] 0) (by k_mem)
    exact Nat.ne_of_gt (Nat.lt_succ_of_lt this)
  case f3 =>
    have := lt5 (u1, W.listOf #[] 0) (by k_mem)
    exact Nat.ne_of_gt this
  have g5 : g.get? h5.objs.size = none := ni.2.2
  have F7 : Fr g L' h7 _ := ⟨F6.ns.at' fun o e => k7 _ _ (Nat.ne_of_lt L5) e, fun b o e => k7 _ _ (fun q => by rw [q, g5] at e; cases e) (F6.keep _ _ e), F6.above⟩
  have N7 := keepN' N6 lt5 k7
  clear F6 N6
  k_steps
  rename_i h8 F8 N8
  have L8 : L' < h8.objs.size := by obtain ⟨_, _, _, e, _⟩ := F8.ns; exact Heap.lt_size e
  have mr1 := N8 (r1, W.listOf va.toArray m1) (by k_mem)
  have mr2 := N8 (r2, W.listOf vb.toArray m2) (by k_mem)
  refine add_lists F8 N8 (vs := va) (ws := vb) ⟨_, mr1.1, rfl, _, rfl⟩ ⟨_, mr2.1, rfl, _, rfl⟩ (fun h9 F9 N9 => ?_) (by simp only [sizeLine]; omega)
  have l8 : n0 + 1 < h8.objs.size := Heap.lt_size (N8 (n0 + 1, Mine.entO n0) (by k_mem)).1
  have l8' : n0 < h8.objs.size := Nat.lt_of_succ_lt l8
  clear F8 N8
  k_steps
  show Q (.ref (n0 + 1)) _
  rename_i h10 F10 N10
  have gl : g.objs.size ≤ n0 := Nat.le_trans F10.above (Nat.le_of_lt l3)
  refine ret _ (n0 + 1) n0 h8.objs.size _ _ _ _ _ _ F10.keep (N10 (n0 + 1, Mine.entO n0) (by k_mem)).1 (N10 _ (.tail _ (.head _))).1 (N10 _ (.head _)).1 (Nat.le_succ_of_le gl) gl (Nat.le_trans gl (Nat.le_of_lt l8')) (fun p hp => (N10 p (.tail _ (.tail _ (.tail _ (.tail _ (.tail _ hp)))))).1) rfl rfl

end Mine
end

section
open PySem PySem.W PyProof.Rows PySem.Calls
set_option maxRecDepth 100000
set_option linter.unusedVariables false
namespace Mine
section
variable {C : Cfg} {A : Around} {T : Tab} {env : Env} {Z : Addr → Prop} {θ : Str → List Addr} {σ σ' : St}
theorem Inv.sub {s : Shared} (i : Inv C env Z θ σ s) (h : ∀ x sl, σ'.lookup x = some sl → σ.lookup x = some sl) : Inv C env Z θ σ' s :=
  ⟨i.kp, i.jj, i.gb, i.yl, i.yg, i.zt, i.tw, i.ns, i.cl, i.cn, i.ci, i.ol, i.oo, fun x sl e => i.vs x sl (h x sl e), i.yc⟩
theorem comp_new {n : Nat} {sc : Scope} {elt : Expr} {gens : List Comprehension} {scope : Scope} {pos : Pos} {d : D} {s : Shared} (hA : Ro A) (hf : Fm env) (hT : TabOk C A T) (hs : env.scope = sc)
    (h : evE T n sc σ (.ListComp elt gens scope pos) = some d) (i : Inv C env Z θ σ s) :
    wpAny C.M A (eval (.ListComp elt gens scope pos) env) (fun v s' => Kp C s s' ∧ Rep C (Yf C env Z θ) s'.heap v d ∧ ∃ a, v = .ref a ∧ s.heap.get? a = none) (fun _ _ => False) s := by
  cases n with
  | zero => exact no h
  | succ n =>
    cases gens with
    | nil => exact no h
    | cons g gs =>
      refine gdE h fun hc h => ?_
      refine bndE h fun its h1 h => ?_
      refine bndE h fun r h2 h => ?_
      refine ifsE h fun hz h => ?_
      rw [← so h]
      obtain ⟨tgt, iter, ifs, as⟩ := g
      obtain rfl : as = 0 := dec (and_2 hc)
      obtain ⟨out, σ'⟩ := r
      subst hs
      exact ev_comp_new hA hf (compOk_of (and_1 (and_1 hc))) (ev_sound hA hT _ _) (and_2 (and_1 hc)) (evI_ok hA hf hT rfl (fun a t => .inr (.inl t)) (fun e d => (ev_sound hA hT n env.scope).ev _ hf rfl _ _ _ e d) h1) h2 hz i
theorem callWith_machine0 {f : Value} {pos : Pos} {s : Shared} {Q : Value → Shared → Prop} {E : Value → Shared → Prop} (hk : Looks C.M C.g (keeperOf f) .machine) (kp : Keep C.g s.heap)
    (h : wpAny C.M A (call f []) Q E s) : wpAny C.M A (callWith pos f [] [] []) Q E s := by
  unfold callWith
  refine wpAny_bind (wpAny_holding (evalArgs_nil3 (wpAny_bind (wpAny_standAt ?_))))
  refine wpAny_bind (hk _ _ _ _ kp ?_)
  exact wpAny_bind (wpAny_mono h (fun r s2 h2 => wpAny_bind (wpAny_holding (wpAny_point (wpAny_pure h2)))) fun _ _ e => e)
end
noncomputable def call0 (e : Expr) : Option Str := match e with
  | .Call f es kws _ => gd (es.isEmpty && kws.isEmpty) (nameOf f)
  | _ => none
noncomputable def call2 (e : Expr) : Option (Str × Str × Str) := match e with
  | .Call f es kws _ => gd kws.isEmpty ((nameOf f).bind fun m => (names2 es).map fun p => (m, p.1, p.2))
  | _ => none
noncomputable def attrOf (e : Expr) : Option (Str × Str) := match e with
  | .Attribute o m _ => (nameOf o).map fun x => (x, m)
  | _ => none
theorem call0_some {e : Expr} {x : Str} (h : call0 e = some x) : ∃ p1 p2, e = .Call (.Name x p1) [] [] p2 := by
  cases e with
  | Call f es kws p =>
    refine gdE h fun h1 h => ?_
    obtain ⟨p1, rfl⟩ := nameOf_some h
    rw [List.isEmpty_iff.mp (and_1 h1), List.isEmpty_iff.mp (and_2 h1)]
    exact ⟨p1, p, rfl⟩
  | _ => exact no h
theorem call2_some {e : Expr} {x} (h : call2 e = some x) : ∃ p1 p2 p3 p4, e = .Call (.Name x.1 p1) [.Name x.2.1 p2, .Name x.2.2 p3] [] p4 := by
  cases e with
  | Call f es kws p =>
    refine gdE h fun h1 h => ?_
    refine bndE h fun m h2 h => ?_
    obtain ⟨q, h3, rfl⟩ := mpd h
    obtain ⟨p1, rfl⟩ := nameOf_some h2
    obtain ⟨p2, p3, rfl⟩ := names2_some h3
    rw [List.isEmpty_iff.mp h1]
    exact ⟨p1, p2, p3, p, rfl⟩
  | _ => exact no h
theorem attrOf_some {e : Expr} {x} (h : attrOf e = some x) : ∃ p1 p2, e = .Attribute (.Name x.1 p1) x.2 p2 := by
  cases e with
  | Attribute o m p =>
    obtain ⟨y, h2, rfl⟩ := mpd h
    obtain ⟨p1, rfl⟩ := nameOf_some h2
    exact ⟨p1, p, rfl⟩
  | _ => exact no h
noncomputable def asgOf (s : Stmt) : Option (Expr × Expr) := match s with
  | .Assign ts e _ => (one ts).map fun t => (t, e)
  | _ => none
theorem asgOf_some {s : Stmt} {q} (h : asgOf s = some q) : ∃ p, s = .Assign [q.1] q.2 p := by
  cases s with
  | Assign ts e p =>
    obtain ⟨t, h1, rfl⟩ := mpd h
    rw [one_some h1]
    exact ⟨p, rfl⟩
  | _ => exact no h
noncomputable def isComp (e : Expr) : Bool := Nat.beq e.ctorIdx 8
theorem isComp_some {e : Expr} (h : isComp e = true) : ∃ el gs sc pos, e = .ListComp el gs sc pos := by
  cases e with
  | ListComp el gs sc pos => exact ⟨_, _, _, _, rfl⟩
  | _ => exact nob h
noncomputable def asEntry (s : Stmt) : Option (Str × Str) := (asgOf s).bind fun q => (nameOf q.1).bind fun f => (call0 q.2).map fun e => (f, e)
theorem asEntry_some {s : Stmt} {f e : Str} (h : asEntry s = some (f, e)) : ∃ p1 p2 p3 p4, s = .Assign [.Name f p1] (.Call (.Name e p2) [] [] p3) p4 := by
  refine bndE h fun q h1 h => ?_
  refine bndE h fun f' h2 h => ?_
  obtain ⟨e', h3, h⟩ := mpd h
  cases h
  obtain ⟨p4, rfl⟩ := asgOf_some h1
  obtain ⟨p1, h4⟩ := nameOf_some h2
  obtain ⟨p2, p3, h5⟩ := call0_some h3
  rw [h4, h5]
  exact ⟨p1, p2, p3, p4, rfl⟩
noncomputable def asLines (s : Stmt) : Option (Str × Str) := (asgOf s).bind fun q => gd (isComp q.2) (attrOf q.1)
noncomputable def lineE (s : Stmt) : Expr := match asgOf s with
  | some q => q.2
  | none => .Constant .none 0 ⟨0, 0, 0, 0⟩
theorem asLines_some {s : Stmt} {f m : Str} (h : asLines s = some (f, m)) : ∃ p1 p2 p3 el gs sc pos, s = .Assign [.Attribute (.Name f p1) m p2] (.ListComp el gs sc pos) p3 := by
  refine bndE h fun q h1 h => ?_
  refine gdE h fun h2 h3 => ?_
  obtain ⟨p, rfl⟩ := asgOf_some h1
  obtain ⟨p1, p2, h4⟩ := attrOf_some h3
  obtain ⟨el, gs, sc, pos, h5⟩ := isComp_some h2
  rw [h4, h5]
  exact ⟨p1, p2, p, el, gs, sc, pos, rfl⟩
noncomputable def asRet (s : Stmt) : Option (Str × Str × Str) := match s with
  | .Return e _ => e.bind call2
  | _ => none
theorem asRet_some {s : Stmt} {m a b : Str} (h : asRet s = some (m, a, b)) : ∃ p1 p2 p3 p4 p5, s = .Return (some (.Call (.Name m p1) [.Name a p2, .Name b p3] [] p4)) p5 := by
  cases s with
  | Return e p =>
    obtain ⟨e, rfl, h⟩ := bnd h
    obtain ⟨p1, p2, p3, p4, rfl⟩ := call2_some h
    exact ⟨p1, p2, p3, p4, p, rfl⟩
  | _ => exact no h
section
variable {w : World} {g : Heap} {G : Gd w g} {A : Around} {env : Env} {Z : Addr → Prop} {θ : Str → List Addr} {σ : St}
theorem glob_main {ob : Nat → List D → Heap → Value → Prop} {x : Str} {v : Value} (e : nsIn (K2 w.params) mainGlobals x = some (some v)) : GlobIs (Cf ob G) x v := fun env hg hb => by
  unfold loadGlobal
  rw [hg]
  exact (looks_nsIn G.X e).andThen .now
theorem glob_bi {ob : Nat → List D → Heap → Value → Prop} {x : Str} {v : Value} (e1 : nsIn (K2 w.params) mainGlobals x = some none) (e2 : bootBuiltins x = some v) (hx : x ≠ "__name__") : GlobIs (Cf ob G) x v := fun env hg hb => by
  unfold loadGlobal
  rw [hg, hb]
  obtain ⟨_, _, _, mb, T⟩ := G.T
  have hb : Looks (Cf ob G).M g (nsGet builtinsNs x) (some v) := fun A Q E s k q => wpAny_nsGet (T.b.keeps k) (by rw [T.builtins x hx, e2]; exact q)
  exact (looks_nsIn G.X e1).andThen (hb.andThen .now)
theorem bare_rep {Y : Addr → Prop} {h : Heap} {x : Nat} : Rep (CR G) Y h (.ref x) (.obj 2 [.int x]) := .obj (h0 := only h []) (fun b o e => nomatch (only_get e).2) rfl
theorem bare_is {Y : Addr → Prop} {h : Heap} {x : Nat} {v : Value} (r : Rep (CR G) Y h v (.obj 2 [.int x])) : v = .ref x := let ⟨_, _, hob⟩ := r.obj_inv; hob
theorem entry_stm {s : Shared} {st : Stmt} {f e : Str} (hA : Roomy A) (hf : Fm env) (i : Inv (CR G) env Z θ σ s) (hst : asEntry st = some (f, e)) (hk : CanSt env f) (he : env.kindOf e = some .globalImplicit) (hg : GlobIs (CR G) e (.ref 59)) (hd : (e == ("__debug__" : Str)) = false)
    {Q : Flow → Shared → Prop} {E : Value → Shared → Prop}
    (hQ : ∀ s' (x d u rl : Nat) t1 t2 t3 t4, Inv (CR G) env (fun a => Z a ∨ a ∈ [x, d, u, rl]) (upd θ f []) (setS f (.val (.obj 2 [.int x])) σ) s' → Step (CR G) env θ (upd θ f []) s s' → (∀ a ∈ [x, d, u, rl], s.heap.get? a = none) → s'.heap.get? x = some (entO d) → s'.heap.get? d = some (entD w.params (.ref u) rl .none .none t1 t2 t3 t4 4) → s'.heap.get? u = some (W.listOf #[] 0) → s'.heap.get? rl = some (W.listOf #[] 0) → Q .next s') :
    wpAny (CR G).M A (exec st env) Q E s := by
  obtain ⟨p1, p2, p3, p4, rfl⟩ := asEntry_some hst
  refine wpAny_Assign_Name (Call_Name0 (wpAny_Name (glob_ok hf he hg i.kp ?_) hd)) rfl
  refine callWith_machine0 (Looks.of_peek G.X (by kernel_rfl)) i.kp ?_
  refine runRn (n := 2000) (led := []) (news := fun n0 t0 => [(n0, entD w.params (.ref (n0 + 3)) (n0 + 4) .none .none (t0 + 2) (t0 + 4) (t0 + 6) (t0 + 8) 4), (n0 + 1, entO n0), (n0 + 3, W.listOf #[] 0), (n0 + 4, W.listOf #[] 0)]) hA G.X G.lim i.kp al_nil .nil (fun n0 t0 stk => entry_run w stk n0 t0) (fun n0 t0 p hp => ?_) fun h' k' n' hs => ?_
  · exact al_cons (P := fun p => n0 ≤ p.1) (Nat.le_refl _) (al_cons (Nat.le_add_right _ _) (al_cons (Nat.le_add_right _ _) (al_cons (Nat.le_add_right _ _) al_nil))) p hp
  generalize hn : s.heap.objs.size = n at n' hs ⊢
  have nd := n' _ (.head _)
  have nx := n' _ (.tail _ (.head _))
  have nu := n' _ (.tail _ (.tail _ (.head _)))
  have nr := n' _ (.tail _ (.tail _ (.tail _ (.head _))))
  dsimp only at nd nx nu nr
  have k1 : Kp (CR G) s { s with heap := h', toks := s.toks + 9 } := Kp.heap k'
  have four : ∀ {P : Addr → Prop}, P (n + 1) → P n → P (n + 3) → P (n + 4) → ∀ a ∈ [n + 1, n, n + 3, n + 4], P a := fun h1 h2 h3 h4 => gl_cons h1 (gl_cons h2 (gl_cons h3 (gl_cons h4 gl_nil)))
  have hn0 := four (P := fun a => s.heap.get? a = none) nx.2 nd.2 nu.2 nr.2
  have i1 := i.addZ (N := fun a => a ∈ [n + 1, n, n + 3, n + 4]) k1 hn0 (four (P := fun a => h'.get? a ≠ none) (ne_none nx.1) (ne_none nd.1) (ne_none nu.1) (ne_none nr.1))
    (four (P := fun a => ∀ o, h'.get? a = some o → ¬ isCd o) (fun o e => by rw [nx.1] at e; cases e; intro c; cases c.1) (fun o e => by rw [nd.1] at e; cases e; intro c; obtain ⟨_, vs, q⟩ := c; cases q) (fun o e => by rw [nu.1] at e; cases e; intro c; obtain ⟨_, vs, q⟩ := c; cases q) (fun o e => by rw [nr.1] at e; cases e; intro c; obtain ⟨_, vs, q⟩ := c; cases q))
  refine Inv.store_val hf hk i1 (bare_rep (x := n + 1)) fun s2 i2 g2 => ?_
  have up : ∀ a ∈ [n + 1, n, n + 3, n + 4], ∀ o, h'.get? a = some o → s2.heap.get? a = some o := fun a ha o e => g2.kp a o (fun q => (i1.zt a (.inr ha)).2 q.wf) e
  exact hQ s2 (n + 1) n (n + 3) (n + 4) _ _ _ _ i2 ((k1.step i.jj).trans (Step.of_upd g2 fun a h => nomatch h)) hn0 (up _ (.head _) _ nx.1) (up _ (.tail _ (.head _)) _ nd.1) (up _ (.tail _ (.tail _ (.head _))) _ nu.1) (up _ (.tail _ (.tail _ (.tail _ (.head _)))) _ nr.1)
theorem lines_stm {s : Shared} {st : Stmt} {f m : Str} {x d rl : Nat} {va v3 v4 : Value} {t1 t2 t3 t4 : Tok} {ep : Nat} {l : List D} (hA : Roomy A) (hf : Fm env) (i : Inv (CR G) env Z θ σ s) (hst : asLines st = some (f, m)) (hm : m = Str.ofString "rulelines") (hx : σ.lookup f = some (.val (.obj 2 [.int x]))) (hdb : (f == ("__debug__" : Str)) = false)
    (zx : Z x) (zd : Z d) (ex : s.heap.get? x = some (entO d)) (ed : s.heap.get? d = some (entD w.params va rl v3 v4 t1 t2 t3 t4 ep))
    (hc : wpAny (CR G).M A (eval (lineE st) env) (fun v s' => Kp (CR G) s s' ∧ Rep (CR G) (Yf (CR G) env Z θ) s'.heap v (.list l) ∧ ∃ a, v = .ref a ∧ s.heap.get? a = none) (fun _ _ => False) s) {Q : Flow → Shared → Prop} {E : Value → Shared → Prop}
    (hQ : ∀ s' (rl' : Nat) vs n, Inv (CR G) env Z θ σ s' → s'.os = s.os → s'.heap.get? x = some (entO d) → s'.heap.get? d = some (entD w.params va rl' v3 v4 t1 t2 t3 t4 ep) → s.heap.get? rl' = none → s'.heap.get? rl' = some (W.listOf vs.toArray n) → ¬ Yf (CR G) env Z θ rl' → RepL (CR G) (Yf (CR G) env Z θ) s'.heap vs l → (∀ b o, b ≠ d → ¬ (CR G).Tb b → s.heap.get? b = some o → s'.heap.get? b = some o) → Q .next s') :
    wpAny (CR G).M A (exec st env) Q E s := by
  obtain ⟨p1, p2, p3, el, gs, sc, pos, rfl⟩ := asLines_some hst
  subst hm
  refine plainObj_wpAny_Assign_Attribute (wpAny_mono hc (fun v s1 q => ?_) fun _ _ f => f.elim) rfl
  obtain ⟨k1, r1, rl', rfl, hnew⟩ := q
  have i1 := i.next k1
  refine (ev_name hf.k hx hdb).use i1 fun v s2 k2 i2 r2 => ?_
  obtain rfl := bare_is r2
  have k12 := k1.trans k2
  have tz : ∀ a, Z a → ¬ (CR G).Tb a := fun a z => (i.zt a z).1
  have ex2 := k12.kp x _ (tz x zx) ex
  have ed2 := k12.kp d _ (tz d zd) ed
  have hxd : ¬ x = d := ne_of_cls ex ed (fun q => by cases q)
  refine runG (n := 2000) hA G.X G.lim i2.kp (al_cons ⟨ex2, i2.yg x (.inl zx)⟩ (al_cons ⟨ed2, i2.yg d (.inl zd)⟩ al_nil)) (pw2 hxd) (fun n0 t0 stk => eset_run w stk n0 t0 x d rl rl' va v3 v4 t1 t2 t3 t4 ep) fun h' k' n' hs => ?_
  have ex3 := (n' _ (.head _)).1
  have ed3 := (n' _ (.tail _ (.head _))).1
  dsimp only at ex3 ed3
  have kk : ∀ b o, b ≠ d → s2.heap.get? b = some o → h'.get? b = some o := fun b o hb e => by
    by_cases q : b = x
    · subst q; rw [ex2] at e; cases e; exact ex3
    · exact k' b o (nm2 q hb) e
  obtain ⟨_, vs, e9, hny, hpl, hrl⟩ := (k2.rep r1).list_inv
  cases e9
  obtain ⟨nl, hpl⟩ := hpl
  have i3 : Inv (CR G) env Z θ σ { s2 with heap := h', toks := s2.toks + 2 } := by
    refine i2.step (T := fun a => a = d) (fun a q => .inl (q ▸ zd)) (fun b o hb e => kk b o hb e) (fun b q _ => q ▸ ne_none ed3) ?_ i2.gb (fun a q o e => ?_)
    · exact i2.jj.keepP (T := fun a => a = d) (fun a q => q ▸ tz d zd) (fun a o q e => by rw [q, ed2] at e; cases e; intro c; obtain ⟨_, vs, q⟩ := c; cases q) fun b o hb e => kk b o hb e
    · rw [q] at e
      rw [show h'.get? d = some o from e] at ed3
      cases ed3
      intro c; obtain ⟨_, vs, q⟩ := c; cases q
  have nrd : rl' ≠ d := fun q => by rw [q, ed] at hnew; cases hnew
  refine hQ _ rl' vs nl i3 k12.os ex3 ed3 hnew (kk _ _ nrd hpl) hny (hrl.mono fun b o hb e => ⟨kk b o (fun q => hb (q ▸ .inl zd)) e, hb⟩) fun b o hb ht e => kk b o hb (k12.kp b o ht e)
end
end Mine

end

section
open PySem PySem.W PyProof.Rows PySem.Calls
set_option maxRecDepth 100000
set_option linter.unusedVariables false
namespace Mine
open Classical in
noncomputable def hideP (h : Heap) (Y : Addr → Prop) : Heap := hideAll h ((List.range h.objs.size).filter fun a => decide (Y a))
theorem hideP_get {h : Heap} {Y : Addr → Prop} {b : Addr} {o : Obj} (e : h.get? b = some o) (hb : ¬ Y b) : (hideP h Y).get? b = some o :=
  hideAll_get _ e fun q => hb (by simpa using (List.mem_filter.mp q).2)
theorem of_hideP {h : Heap} {Y : Addr → Prop} {b : Addr} {o : Obj} (e : (hideP h Y).get? b = some o) : h.get? b = some o ∧ ¬ Y b := by
  have e1 := of_hideAll _ e
  refine ⟨e1, fun y => ?_⟩
  have : (hideP h Y).get? b = none := hideAll_none _ (List.mem_filter.mpr ⟨List.mem_range.mpr (Heap.lt_size e1), by simpa using y⟩)
  rw [this] at e; cases e
noncomputable def sOrder : Str := Str.ofString "order"
noncomputable def sCut : Str := Str.ofString "cut"
noncomputable def sFormer : Str := Str.ofString "former"
noncomputable def sLatter : Str := Str.ofString "latter"
noncomputable def bookS (P : Params) (i : Nat) : Stmt := ((bodyA P 169)[i]?).getD (.Pass ⟨0, 0, 0, 0⟩)
noncomputable def TB : Tab where
  glob := [(Str.ofString "_law_rule", .fn 164)]
  fn := fun a ds => gd (Nat.beq a 164) (ruleD' ds)
  attr := fun _ _ _ => none
  meth := fun _ _ _ _ => none
  accLen := fun _ _ => none
  accStr := fun _ _ => none
  accCall := fun _ _ _ _ => none
noncomputable def pageOf (d : D) : Option D := D.casesOn (motive_1 := fun _ => Option D) d none (fun _ => none) (fun _ => none) (fun _ => none) (fun _ => none) (fun _ => none) (fun _ => none) (fun t l => gd (Nat.beq t 0) ((one l).bind fun p => (asI p).map .int))
theorem pageOf_some {d p : D} (h : pageOf d = some p) : ∃ i, p = .int i ∧ d = .obj 0 [.int i] := by
  cases d with
  | obj t l =>
    refine gdE h fun h1 h => ?_
    refine bndE h fun x h2 h => ?_
    obtain ⟨i, h3, rfl⟩ := mpd h
    rw [Nat.eq_of_beq_eq_true h1, one_some h2, asI_some h3]
    exact ⟨i, rfl, rfl⟩
  | _ => exact no h
noncomputable def pagesOf : List D → Option (List D)
  | [] => some []
  | d :: r => (pageOf d).bind fun p => (pagesOf r).map (p :: ·)
noncomputable def bookV (P : Params) (ds : List D) : Option D := (two ds).bind fun q => (evE TB 12 (fdA P 169).scope (par0 [sOrder, sCut] [q.1, q.2]) (lineE (bookS P 1))).bind fun d1 => (asL d1).bind fun l1 =>
  (evE TB 12 (fdA P 169).scope (par0 [sOrder, sCut] [q.1, q.2]) (lineE (bookS P 3))).bind fun d2 => (asL d2).bind fun l2 => (pagesOf l1).bind fun a => (pagesOf l2).bind fun b => if a.length + b.length ≤ 4 then some (.obj 1 (a ++ b)) else none
section
variable {w : World} {g : Heap} {G : Gd w g} {A : Around} {Y : Addr → Prop}
theorem tb_ok (h0 : A.handled = none) (hd : A.depth ≤ 450) (hu : A.units ≤ 900) : TabOk (CR G) A TB where
  glob := fun x gl h => gl_cons (P := fun p : Str × Gl => GlobIs (CR G) p.1 p.2.val ∧ (p.1 == ("__debug__" : Str)) = false) ⟨glob_main (by kernel_rfl), by decide⟩ gl_nil _ (mem_of_lookup h)
  fn := fun x a ds d h1 h2 => by
    obtain rfl : a = 164 := Nat.eq_of_beq_eq_true (gd_some (b := Nat.beq a 164) (x := ruleD' ds) h2).1
    exact (rule_ok (G := G) h0 hd hu).mono fun ds d e => (gd_some (b := Nat.beq 164 164) (x := ruleD' ds) e).2
  attr := fun _ _ _ _ h => nomatch h
  meth := fun _ _ _ _ _ h => nomatch h
  accLen := fun _ _ _ h => nomatch h
  accStr := fun _ _ _ h => nomatch h
  accCall := fun _ _ _ _ _ _ h => nomatch h
  accNew := fun x a h => gl_cons (P := fun p : Str × Gl => ∀ a, p.2 = .acc a → AccNewOk (CR G) A a) (fun _ e => by cases e) gl_nil _ (mem_of_lookup h) a rfl
theorem IsRule.mono {P : Params} {h h' : Heap} {v : Value} {p : Int} (r : IsRule P g h v p) (k : ∀ b o, h.get? b = some o → h'.get? b = some o) : IsRule P g h' v p := by
  obtain ⟨r, dct, q, c, c1, ct, fdl, sl, tp, t1, t2, ts, R⟩ := r
  exact ⟨r, dct, q, c, c1, ct, fdl, sl, tp, t1, t2, ts, ⟨R.e, R.rng, k _ _ R.hr, k _ _ R.hd, k _ _ R.hq, k _ _ R.hc, R.cd.keeps k, R.lo, R.ng⟩⟩
theorem pages_rep {Y' : Addr → Prop} {h h' : Heap} (k : ∀ b o, ¬ Y' b → h.get? b = some o → h'.get? b = some o) {l a : List D} {vs : List Value} (hr : RepL (CR G) Y' h vs l) (e : pagesOf l = some a) : vs.length = a.length ∧ ∀ (i : Nat) (v' : Value) (d' : D), vs[i]? = some v' → a[i]? = some d' → ∃ p, d' = D.int p ∧ IsRule w.params g h' v' p := by
  induction l generalizing a vs with
  | nil => rw [hr.nil_inv, ← so e]; exact ⟨rfl, fun i v' d' h1 => no h1⟩
  | cons x l ih =>
    refine bndE e fun p h1 e => ?_
    obtain ⟨a', h2, rfl⟩ := mpd e
    obtain ⟨p, rfl, rfl⟩ := pageOf_some h1
    obtain ⟨v, us, rfl, r1, r2⟩ := hr.cons_inv
    obtain ⟨hl, hel⟩ := ih r2 h2
    refine ⟨congrArg Nat.succ hl, fun i v' d' e1 e2 => ?_⟩
    cases i with
    | zero =>
      obtain ⟨_, hh, hob⟩ := r1.obj_inv
      rw [← so e1, ← so e2]
      exact ⟨p, rfl, IsRule.mono hob fun b o e => k b o (hh b o e).2 (hh b o e).1⟩
    | succ i => exact hel i v' d' e1 e2
theorem line_new {T : Tab} {env : Env} {Z : Addr → Prop} {θ : Str → List Addr} {σ : St} {C : Cfg} {n : Nat} {sc : Scope} {st : Stmt} {f m : Str} {d : D} {s : Shared} (hA : Ro A) (hf : Fm env) (hT : TabOk C A T) (hs : env.scope = sc) (hst : asLines st = some (f, m))
    (h : evE T n sc σ (lineE st) = some d) (i : Inv C env Z θ σ s) :
    wpAny C.M A (eval (lineE st) env) (fun v s' => Kp C s s' ∧ Rep C (Yf C env Z θ) s'.heap v d ∧ ∃ a, v = .ref a ∧ s.heap.get? a = none) (fun _ _ => False) s := by
  obtain ⟨p1, p2, p3, el, gs, sc', pos, rfl⟩ := asLines_some hst
  exact comp_new hA hf hT hs h i
theorem upd_nil {x : Str} : upd (fun _ => []) x [] = fun _ => [] := by funext y; exact ite_self _
theorem sub_set {σ σ' : St} {x : Str} {sl : Sl} (hx : σ.lookup x = none) (h : ∀ y s, σ.lookup y = some s → σ'.lookup y = some s) : ∀ y s, σ.lookup y = some s → (setS x sl σ').lookup y = some s := fun y s e => by
  rw [lookup_setS]
  by_cases q : y = x
  · rw [q, hx] at e; exact no e
  · rw [if_neg q]; exact h y s e
theorem book_ok (h0 : A.handled = none) (hd : A.depth ≤ 340) (hu : A.units ≤ 400) : FnOk (CR G) A 169 (bookV w.params) := by
  refine ⟨fnAt_of G.X (by kernel_rfl), fun Y s vs ds d b hr he => ?_⟩
  obtain ⟨⟨ps, c⟩, hq, he⟩ := bnd he
  refine bndE he fun d1 e1 he => ?_
  refine bndE he fun l1 f1 he => ?_
  refine bndE he fun d2 e2 he => ?_
  refine bndE he fun l2 f2 he => ?_
  refine bndE he fun a ea he => ?_
  refine bndE he fun bb eb he => ?_
  refine ifsE he fun hlen he => ?_
  rw [← so he]
  rw [two_some hq] at hr
  rw [asL_some f1] at e1
  rw [asL_some f2] at e2
  clear he hq f1 f2
  obtain ⟨o, ok⟩ : ∃ o, DefOk (CR G) 169 o (fdA w.params 169) (bodyA w.params 169) [sOrder, sCut] := by
    refine defOk_of (by kernel_rfl) (by kernel_rfl) (by kernel_rfl) (fun vs h => ?_) (by decide) (by kernel_rfl) (by kernel_rfl) (by kernel_rfl) (by kernel_rfl) (by kernel_rfl) (by kernel_rfl) (by kernel_rfl) (by kernel_rfl)
    rcases vs with _ | ⟨v, _ | ⟨v', _ | ⟨v2, r⟩⟩⟩ <;> first | (cases h; done) | kernel_rfl
  refine def_run ok (Nat.lt_of_le_of_lt hd (by decide)) b hr rfl fun env s1 hf hsc i k1 wfn => ?_
  have hR : Ro (A.deeper env) := ⟨h0, by show A.depth + 1 ≤ _; omega, by show A.units + _ ≤ _; omega⟩
  have hA : Roomy (A.deeper env) := ⟨h0, by show A.depth + 1 ≤ _; omega, by show A.units + _ ≤ _; omega⟩
  have hT : TabOk (CR G) (A.deeper env) TB := tb_ok h0 (by show A.depth + 1 ≤ _; omega) (by show A.units + _ ≤ _; omega)
  have hb : bodyA w.params 169 = [bookS w.params 0, bookS w.params 1, bookS w.params 2, bookS w.params 3, bookS w.params 4] := by kernel_rfl
  have q0 : asEntry (bookS w.params 0) = some (sFormer, Str.ofString "Entry") := by kernel_rfl
  have q1 : asLines (bookS w.params 1) = some (sFormer, Str.ofString "rulelines") := by kernel_rfl
  have q2 : asEntry (bookS w.params 2) = some (sLatter, Str.ofString "Entry") := by kernel_rfl
  have q3 : asLines (bookS w.params 3) = some (sLatter, Str.ofString "rulelines") := by kernel_rfl
  have q4 : asRet (bookS w.params 4) = some (Str.ofString "merge_entries", sFormer, sLatter) := by kernel_rfl
  have kd : ∀ x kd, (fdA w.params 169).scope.names.lookup x = some kd → env.kindOf x = some kd := fun x kd h => by unfold Env.kindOf; rw [hsc]; exact h
  have ck : CanSt env sFormer := .inl (kd _ _ (by kernel_rfl))
  have cl : CanSt env sLatter := .inl (kd _ _ (by kernel_rfl))
  have gE := kd (Str.ofString "Entry") _ (show _ = some .globalImplicit by kernel_rfl)
  have gM := kd (Str.ofString "merge_entries") _ (show _ = some .globalImplicit by kernel_rfl)
  have gtE : GlobIs (CR G) (Str.ofString "Entry") (.ref 59) := glob_main (by kernel_rfl)
  have gtM : GlobIs (CR G) (Str.ofString "merge_entries") (.ref 70) := glob_main (by kernel_rfl)
  have n1 : (par0 [sOrder, sCut] [ps, c]).lookup sFormer = none := rfl
  have n2 : (par0 [sOrder, sCut] [ps, c]).lookup sLatter = none := rfl
  have wf0 : ∀ b, s.heap.get? b ≠ none → ¬ Wf env (fun _ => []) b := fun b hb w => hb (wfn b w)
  have old1 : ∀ b o, s.heap.get? b = some o → ¬ (CR G).Tb b → s1.heap.get? b = some o := fun b o e t => k1.kp b o t e
  rw [hb]
  -- former = Entry()
  refine wpAny_execs_cons (entry_stm hA hf i q0 ck gE gtE (by decide) fun s2 x1 d1 u1 z1 t1 t2 t3 t4 i2 st2 new1 ex1 ed1 eu1 ez1 => ?_)
  rw [upd_nil] at i2 st2
  have old2 : ∀ b o, s.heap.get? b = some o → ¬ (CR G).Tb b → s2.heap.get? b = some o := fun b o e t => st2.go.kp b o (fun q => q.elim t fun w => wf0 b (ne_none e) w.wf) (old1 b o e t)
  show wpAny _ _ (execs [bookS w.params 1, bookS w.params 2, bookS w.params 3, bookS w.params 4] env) _ _ s2
  -- former.rulelines = [..]
  refine wpAny_execs_cons (lines_stm hA hf i2 q1 rfl (by rw [lookup_setS, if_pos rfl]) (by decide) (.inr (by k_mem)) (.inr (by k_mem)) ex1 ed1 (line_new hR hf hT hsc q1 e1 (i2.sub (sub_set n1 fun y s e => e))) fun s3 r1 va m1 i3 os3 ex1' ed1' new1' er1 ny1 rp1 k3 => ?_)
  have znt : ∀ {Z : Addr → Prop} {σ : St} {s : Shared}, Inv (CR G) env Z (fun _ => []) σ s → ∀ a, Z a → ¬ ((CR G).Tb a ∨ Wk env (fun _ => []) a) := fun i a z q => q.elim (i.zt a z).1 fun w => (i.zt a z).2 w.wf
  have s1n : ∀ {a}, s1.heap.get? a = none → s.heap.get? a = none := fun h => k1.back b.jj h
  have ne_new : ∀ {h : Heap} {a d : Addr} {o : Obj}, h.get? a = some o → h.get? d = none → a ≠ d := fun e n q => by rw [q, n] at e; cases e
  have old3 : ∀ b o, s.heap.get? b = some o → ¬ (CR G).Tb b → s3.heap.get? b = some o := fun b o e t => k3 b o (ne_new e (s1n (new1 d1 (by k_mem)))) t (old2 b o e t)
  have eu1' : s3.heap.get? u1 = some (W.listOf #[] 0) := k3 _ _ (ne_of_cls eu1 ed1 fun q => by injection q with q; exact absurd q (by decide)) (fun t => znt i2 u1 (.inr (by k_mem)) (.inl t)) eu1
  show wpAny _ _ (execs [bookS w.params 2, bookS w.params 3, bookS w.params 4] env) _ _ s3
  -- latter = Entry()
  refine wpAny_execs_cons (entry_stm hA hf i3 q2 cl gE gtE (by decide) fun s4 x2 d2 u2 z2 v1 v2 v3 v4 i4 st4 new2 ex2 ed2 eu2 ez2 => ?_)
  rw [upd_nil] at i4 st4
  have k4 : ∀ b o, ¬ ((CR G).Tb b ∨ Wk env (fun _ => []) b) → s3.heap.get? b = some o → s4.heap.get? b = some o := fun b o hb e => st4.go.kp b o hb e
  have old4 : ∀ b o, s.heap.get? b = some o → ¬ (CR G).Tb b → s4.heap.get? b = some o := fun b o e t => k4 b o (fun q => q.elim t fun w => wf0 b (ne_none e) w.wf) (old3 b o e t)
  have nyW : ∀ {Z : Addr → Prop} {a : Addr}, ¬ Yf (CR G) env Z (fun _ => []) a → ¬ ((CR G).Tb a ∨ Wk env (fun _ => []) a) := fun h q => h (.inr (q.imp id Wk.wf))
  have fx1 := k4 _ _ (znt i3 x1 (.inr (by k_mem))) ex1'
  have fd1 := k4 _ _ (znt i3 d1 (.inr (by k_mem))) ed1'
  have fu1 := k4 _ _ (znt i3 u1 (.inr (by k_mem))) eu1'
  have fr1 := k4 _ _ (nyW ny1) er1
  show wpAny _ _ (execs [bookS w.params 3, bookS w.params 4] env) _ _ s4
  -- latter.rulelines = [..]
  refine wpAny_execs_cons (lines_stm hA hf i4 q3 rfl (by rw [lookup_setS, if_pos rfl]) (by decide) (.inr (by k_mem)) (.inr (by k_mem)) ex2 ed2 (line_new hR hf hT hsc q3 e2 (i4.sub (sub_set n2 (sub_set n1 fun y s e => e)))) fun s5 r2 vb m2 i5 os5 ex2' ed2' new2' er2 ny2 rp2 k5 => ?_)
  have nd2 := new2 d2 (by k_mem)
  have s3n : ∀ {a}, s3.heap.get? a = none → s.heap.get? a = none := fun {a} h => by
    cases e : s.heap.get? a with
    | none => rfl
    | some o =>
      by_cases t : (CR G).Tb a
      · exact absurd h (i3.yl a (.inr (.inl t)))
      · rw [old3 a o e t] at h; cases h
  have old5 : ∀ b o, s.heap.get? b = some o → ¬ (CR G).Tb b → s5.heap.get? b = some o := fun b o e t => k5 b o (ne_new e (s3n nd2)) t (old4 b o e t)
  have gx1 := k5 _ _ (ne_new ex1' nd2) (fun t => znt i3 x1 (.inr (by k_mem)) (.inl t)) fx1
  have gd1 := k5 _ _ (ne_new ed1' nd2) (fun t => znt i3 d1 (.inr (by k_mem)) (.inl t)) fd1
  have gu1 := k5 _ _ (ne_new eu1' nd2) (fun t => znt i3 u1 (.inr (by k_mem)) (.inl t)) fu1
  have gr1 := k5 _ _ (ne_new er1 nd2) (fun t => nyW ny1 (.inl t)) fr1
  have gu2 : s5.heap.get? u2 = some (W.listOf #[] 0) := k5 _ _ (ne_of_cls eu2 ed2 fun q => by injection q with q; exact absurd q (by decide)) (fun t => znt i4 u2 (.inr (by k_mem)) (.inl t)) eu2
  have yof : ∀ {Z : Addr → Prop} {a : Addr}, (∀ b, Y b → ¬ (CR G).Tb b → Z b) → ¬ Yf (CR G) env Z (fun _ => []) a → ¬ Y a := fun {Z a} hz h y => by
    by_cases t : (CR G).Tb a
    · exact h (.inr (.inl t))
    · exact h (.inl (hz a y t))
  have rp1' : RepL (CR G) Y s5.heap va l1 := rp1.mono fun b o hb e => ⟨k5 b o (ne_new e nd2) (fun t => nyW hb (.inl t)) (k4 b o (nyW hb) e), yof (fun b y t => .inl ⟨y, t⟩) hb⟩
  have rp2' : RepL (CR G) Y s5.heap vb l2 := rp2.mono fun b o hb e => ⟨e, yof (fun b y t => .inl (.inl ⟨y, t⟩)) hb⟩
  show wpAny _ _ (execs [bookS w.params 4] env) _ _ s5
  obtain ⟨w1, w2, w3, w4, w5, hret⟩ := asRet_some q4
  rw [hret]
  refine wpAny_execs_cons ?_
  show wpAny _ _ (standAt w5 >>= fun _ => eval (.Call (.Name (Str.ofString "merge_entries") w1) [.Name sFormer w2, .Name sLatter w3] [] w4) env >>= fun v => pure (Flow.ret v)) _ _ s5
  refine wpAny_bind (wpAny_standAt (wpAny_bind (Call_Name rfl (wpAny_Name (glob_ok hf gM gtM i5.kp ?_) (by decide)))))
  have f70 : ∀ {h : Heap}, Keep g h → FnAt 70 h := fun {h} k => by
    obtain ⟨oc, od, fd, sl, e⟩ := fnAt_of G.X (a := 70) (by kernel_rfl)
    exact ⟨oc, od, fd, sl, k _ _ e⟩
  have args : Evs (CR G) (A.deeper env) env (fun a => (Y a ∧ ¬ (CR G).Tb a ∨ a ∈ [x1, d1, u1, z1]) ∨ a ∈ [x2, d2, u2, z2]) (fun _ => []) (setS sLatter (.val (.obj 2 [.int x2])) (setS sFormer (.val (.obj 2 [.int x1])) (par0 [sOrder, sCut] [ps, c]))) [.Name sFormer w2, .Name sLatter w3] [.obj 2 [.int x1], .obj 2 [.int x2]] := .cons rfl (ev_name hf.k (by rw [lookup_setS, if_neg (by decide), lookup_setS, if_pos rfl]) (by decide)) (.cons rfl (ev_name hf.k (by rw [lookup_setS, if_pos rfl]) (by decide)) .nil)
  refine callWith_F (first := []) (f70 i5.kp) ((args.spliced _).use i5 fun vs6 s6 k6 i6 r6 => ⟨f70 i6.kp, ?_⟩) rfl rfl
  obtain ⟨_, us, rfl, ra, r6⟩ := r6.cons_inv
  obtain ⟨_, us, rfl, rb, r6⟩ := r6.cons_inv
  obtain rfl := r6.nil_inv
  obtain rfl := bare_is ra
  obtain rfl := bare_is rb
  show wpAny _ _ (call (.ref 70) [.ref x1, .ref x2]) _ _ s6
  have tz : ∀ {a : Addr}, ((Y a ∧ ¬ (CR G).Tb a ∨ a ∈ [x1, d1, u1, z1]) ∨ a ∈ [x2, d2, u2, z2]) → ¬ (CR G).Tb a := fun z => (i5.zt _ z).1
  have hm : ∀ p ∈ [(x1, entO d1), (d1, entD w.params (.ref u1) r1 .none .none t1 t2 t3 t4 4), (u1, W.listOf #[] 0), (r1, W.listOf va.toArray m1), (x2, entO d2), (d2, entD w.params (.ref u2) r2 .none .none v1 v2 v3 v4 4), (u2, W.listOf #[] 0), (r2, W.listOf vb.toArray m2)], s6.heap.get? p.1 = some p.2 :=
    al_cons (k6.kp _ _ (tz (.inl (.inr (by k_mem)))) gx1) (al_cons (k6.kp _ _ (tz (.inl (.inr (by k_mem)))) gd1) (al_cons (k6.kp _ _ (tz (.inl (.inr (by k_mem)))) gu1) (al_cons (k6.kp _ _ (fun t => nyW ny1 (.inl t)) gr1) (al_cons (k6.kp _ _ (tz (.inr (by k_mem))) ex2') (al_cons (k6.kp _ _ (tz (.inr (by k_mem))) ed2') (al_cons (k6.kp _ _ (tz (.inr (by k_mem))) gu2) (al_cons (k6.kp _ _ (fun t => nyW ny2 (.inl t)) er2) al_nil)))))))
  have gnz : ∀ {a : Addr}, ((Y a ∧ ¬ (CR G).Tb a ∨ a ∈ [x1, d1, u1, z1]) ∨ a ∈ [x2, d2, u2, z2]) → g.get? a = none := fun z => i5.yg _ (.inl z)
  have gn : ∀ {a : Addr} {s' : Shared}, Keep g s'.heap → s'.heap.get? a = none → g.get? a = none := fun {a s'} k h => by
    cases q : g.get? a with
    | none => rfl
    | some o => have := k _ _ q; rw [h] at this; cases this
  have hg : ∀ a ∈ [x1, d1, u1, r1, x2, d2, u2, r2], g.get? a = none := gl_cons (gnz (.inl (.inr Mine.m0))) (gl_cons (gnz (.inl (.inr Mine.m1))) (gl_cons (gnz (.inl (.inr Mine.m2))) (gl_cons (gn i2.kp new1') (gl_cons (gnz (.inr Mine.m0)) (gl_cons (gnz (.inr Mine.m1)) (gl_cons (gnz (.inr Mine.m2)) (gl_cons (gn i4.kp new2') gl_nil)))))))
  have nl : va.length + vb.length ≤ 4 := by
    have := (pages_rep (fun b o _ e => e) rp1' ea).1
    have := (pages_rep (fun b o _ e => e) rp2' eb).1
    omega
  refine wpAny_top h0 fun gd outer => ?_
  obtain ⟨loose, mean, mg, mb, Gg⟩ := gr_of G (s := s6) (dp := A.depth + 1) (un := (A.deeper env).units) (gd := gd) (outer := outer) i6.kp hg
  refine merge_raw Gg (K1_of_K2 Gg.X) (by show A.depth + 1 ≤ 400; omega) (by show A.units + _ ≤ 500; omega) (fun p hp => ⟨hm p hp, hideAll_none _ (List.mem_map_of_mem (f := (·.1)) hp)⟩) nl fun s' x' d' rl' vu u1' u2' u3' u4' m' kh hx' hd' hrl' lx ld lrl hmu os' gens' => ?_
  have ksz : ∀ {a : Nat}, (hideAll s6.heap [x1, d1, u1, r1, x2, d2, u2, r2]).objs.size ≤ a → s6.heap.objs.size ≤ a := fun h => by rwa [hideAll_size] at h
  have kk : Keep s6.heap s'.heap := fun b o e => by
    by_cases hb : b ∈ [x1, d1, u1, r1, x2, d2, u2, r2]
    · obtain ⟨p, hp, rfl⟩ := List.mem_map.mp (show b ∈ List.map (·.1) [(x1, entO d1), (d1, entD w.params (.ref u1) r1 .none .none t1 t2 t3 t4 4), (u1, W.listOf #[] 0), (r1, W.listOf va.toArray m1), (x2, entO d2), (d2, entD w.params (.ref u2) r2 .none .none v1 v2 v3 v4 4), (u2, W.listOf #[] 0), (r2, W.listOf vb.toArray m2)] from hb)
      rw [hm p hp] at e; cases e
      exact hmu p hp
    · exact kh b o (hideAll_get _ e hb)
  have k6' : Kp (CR G) s6 s' := ⟨os', fun b o _ e => kk b o e, fun h => by rw [gens']; exact h, fun j => j.keep kk⟩
  have b185 := big185 (G.X.keeps i6.kp)
  have fresh : ∀ {a : Nat}, s6.heap.objs.size ≤ a → ¬ Y a := fun {a} h y => by
    have hn := none_of_size h
    by_cases t : (CR G).Tb a
    · exact i6.yl a (.inr (.inl t)) hn
    · exact i6.yl a (.inl (.inl (.inl ⟨y, t⟩))) hn
  refine wpAny_pure ?_
  show Kp (CR G) s s' ∧ Rep (CR G) Y s'.heap (.ref x') (.obj 1 (a ++ bb))
  refine ⟨⟨?_, fun b o t e => kk _ _ (k6.kp b o t (old5 b o e t)), fun _ => k6'.gb i6.gb, fun _ => k6'.jj i6.jj⟩, ?_⟩
  · rw [os', k6.os, os5, st4.go.os, os3, st2.go.os, k1.os]
  · have r1e := pages_rep (h' := hideP s'.heap Y) (fun a' o hb e => hideP_get (kk _ _ (k6.kp a' o (fun t => hb (b.ty _ t)) e)) hb) rp1' ea
    have r2e := pages_rep (h' := hideP s'.heap Y) (fun a' o hb e => hideP_get (kk _ _ (k6.kp a' o (fun t => hb (b.ty _ t)) e)) hb) rp2' eb
    refine .obj (h0 := hideP s'.heap Y) (fun b o e => of_hideP e) ⟨x', d', rl', va ++ vb, vu, .none, .none, u1', u2', u3', u4', m', rfl, hideP_get hx' (fresh (ksz lx)), hideP_get hd' (fresh (ksz ld)), ⟨0, hideP_get hrl' (fresh (ksz lrl))⟩, Nat.le_trans b185 (ksz lx), Nat.le_trans b185 (ksz ld), Nat.le_trans b185 (ksz lrl), by rw [List.length_append, List.length_append, r1e.1, r2e.1], fun i v' d' e1 e2 => ?_⟩
    by_cases hi : i < va.length
    · rw [List.getElem?_append_left hi] at e1
      rw [List.getElem?_append_left (by rw [← r1e.1]; exact hi)] at e2
      exact r1e.2 i v' d' e1 e2
    · rw [List.getElem?_append_right (by omega)] at e1
      rw [List.getElem?_append_right (by rw [← r1e.1]; omega), ← r1e.1] at e2
      exact r2e.2 _ v' d' e1 e2
end
end Mine

end

section
open PySem PySem.W PyProof.Rows PySem.Calls
set_option maxRecDepth 100000
set_option linter.unusedVariables false
namespace Mine
noncomputable def smallPs (n : Nat) (ps : List (Str × Str)) : Bool := decide (ps.length ≤ n) && ps.all fun p => decide (p.1.length + p.2.length ≤ 100)
noncomputable def T2 (P : Params) : Tab where
  glob := [(Str.ofString "len", .len), (Str.ofString "range", .range), (Str.ofString "str", .str), (Str.ofString "isinstance", .isinstance), (Str.ofString "bool", .bool), (Str.ofString "min", .min), (Str.ofString "_Accumulator", .acc 148)]
  fn := fun _ _ => none
  attr := fun _ _ _ => none
  meth := fun t ds m as => gd (Nat.beq t 1 && m == Str.ofString "allowance") ((one as).bind fun a => (asS a).bind fun nm => allowV P [.obj 1 ds, .str nm])
  accLen := fun m ps => if smallPs 3 ps = true ∧ 0 ≤ m ∧ m ≤ 1000000 then some (m + ((ps.map fun c => c.1.length + c.2.length).sum : Nat)) else none
  accStr := fun m ps => if smallPs 3 ps = true then some (Txt.join "" (ps.map fun c => Txt.join "" [c.1, c.2])) else none
  accCall := fun m mg ps args => bif m == Str.ofString "push" then (two args).bind fun q => (asS q.1).bind fun a => (asS q.2).bind fun b => if ps.length ≤ 2 then some (ps ++ [(a, b)], .none) else none
    else gd (m == Str.ofString "pop_from") ((one args).bind fun d => (asI d).bind fun k => if 0 ≤ k ∧ k < ps.length ∧ ps.length ≤ 3 then some (ps.take k.toNat, .list ((ps.drop k.toNat).map pairD)) else none)
section
variable {w : World} {g : Heap} {G : Gd w g} {A : Around}
theorem smallPs_of {n : Nat} {ps : List (Str × Str)} (h : smallPs n ps = true) : ps.length ≤ n ∧ ∀ p ∈ ps, p.1.length + p.2.length ≤ 100 := by
  exact ⟨dec (and_1 h), fun p hp => dec (List.all_eq_true.mp (and_2 h) p hp)⟩
theorem t2_ok (h0 : A.handled = none) (hd : A.depth ≤ 345) (hu : A.units ≤ 390) : TabOk (CR G) A (T2 w.params) where
  glob := fun x gl h => gl_cons (P := fun p : Str × Gl => GlobIs (CR G) p.1 p.2.val ∧ (p.1 == ("__debug__" : Str)) = false) ⟨glob_bi (by kernel_rfl) (by kernel_rfl) (by decide), by decide⟩ (gl_cons ⟨glob_bi (by kernel_rfl) (by kernel_rfl) (by decide), by decide⟩ (gl_cons ⟨glob_bi (by kernel_rfl) (by kernel_rfl) (by decide), by decide⟩ (gl_cons ⟨glob_bi (by kernel_rfl) (by kernel_rfl) (by decide), by decide⟩ (gl_cons ⟨glob_bi (by kernel_rfl) (by kernel_rfl) (by decide), by decide⟩ (gl_cons ⟨glob_bi (by kernel_rfl) (by kernel_rfl) (by decide), by decide⟩ (gl_cons ⟨glob_main (by kernel_rfl), by decide⟩ gl_nil)))))) _ (mem_of_lookup h)
  fn := fun x a ds d h1 h2 => nomatch h2
  attr := fun _ _ _ _ h => nomatch h
  meth := fun t ds m as d h => by
    refine gdE h fun hc h => ?_
    refine bndE h fun a h1 h => ?_
    refine bndE h fun nm h2 h => ?_
    rw [one_some h1, asS_some h2, Nat.eq_of_beq_eq_true (and_1 hc), eq_of_beq (and_2 hc)]
    exact entry_allow h0 (Nat.le_trans hd (by decide)) (Nat.le_trans hu (by decide)) h
  accLen := fun m ps n h => by
    refine ifsE h fun hc h => ?_
    rw [← so h]
    have := smallPs_of hc.1
    exact acc_len_ok h0 (Nat.le_trans hd (by decide)) (Nat.le_trans hu (by decide)) this.1 this.2 hc.2
  accStr := fun m ps x h => by
    refine ifsE h fun hc h => ?_
    rw [← so h]
    have := smallPs_of hc
    exact acc_str_ok h0 (Nat.le_trans hd (by decide)) (Nat.le_trans hu (by decide)) this.1 this.2
  accCall := fun m mg ps args ps' d h => by
    rcases biff h with ⟨hm, h⟩ | ⟨_, h⟩
    · refine bndE h fun q h1 h => ?_
      refine bndE h fun a h2 h => ?_
      refine bndE h fun b h3 h => ?_
      refine ifsE h fun hn h => ?_
      cases h
      rw [two_some h1, asS_some h2, asS_some h3, eq_of_beq hm]
      exact acc_push_ok h0 (Nat.le_trans hd (by decide)) (Nat.le_trans hu (by decide)) hn
    · refine gdE h fun hm h => ?_
      refine bndE h fun x h1 h => ?_
      refine bndE h fun k h2 h => ?_
      obtain ⟨⟨hk, hkl, hn⟩, h⟩ := ifs h
      cases h
      rw [one_some h1, asI_some h2, eq_of_beq hm]
      obtain ⟨j, rfl⟩ := Int.eq_ofNat_of_zero_le hk
      exact acc_pop_ok h0 (Nat.le_trans hd (by decide)) (Nat.le_trans hu (by decide)) (Int.ofNat_lt.mp hkl) hn
  accNew := fun x a h => gl_cons (P := fun p : Str × Gl => ∀ a, p.2 = .acc a → AccNewOk (CR G) A a) (fun _ e => by cases e) (gl_cons (fun _ e => by cases e) (gl_cons (fun _ e => by cases e) (gl_cons (fun _ e => by cases e) (gl_cons (fun _ e => by cases e) (gl_cons (fun _ e => by cases e) (gl_cons (fun a e => by cases e; exact acc_new_ok h0 (Nat.le_trans hd (by decide)) (Nat.le_trans hu (by decide))) gl_nil)))))) _ (mem_of_lookup h) a rfl
end
end Mine

end

section
open PySem PySem.W PyProof.Rows PySem.Calls
set_option maxRecDepth 100000
set_option linter.unusedVariables false
namespace Mine
open PySem.Builtin PySem.Builtin.Str PySem.StrLaws
noncomputable def posL (c : Nat) : Nat → List Nat → List Nat
  | _, [] => []
  | k, a :: r => if a = c then k :: posL c (k + 1) r else posL c (k + 1) r
theorem occ_loop (x : Str) (c lim : Nat) : ∀ (l : List Nat) (k : Nat) (st : Array Nat × Nat), x.cps.toList.drop k = l → k ≤ x.length → st.2 ≤ k →
    (forIn (List.range' k (l.length + 1)) st (occBody x ⟨#[c]⟩ x.length lim)).run.fst.toList = st.1.toList ++ (posL c k l).take (lim - st.1.size)
  | [], k, st, hd, hk, hf => by
    have hlen : ¬ (k + 1 ≤ x.length) := by
      have := List.drop_eq_nil_iff.mp hd
      simp [Str.length] at this ⊢
      omega
    rw [show ([] : List Nat).length + 1 = 1 from rfl, show List.range' k 1 = [k] from rfl, List.forIn_cons]
    unfold occBody
    rw [if_neg (fun h => hlen h.1.2)]
    simp [posL]
  | a :: r, k, st, hd, hk, hf => by
    have hak : x.cps.toList[k]? = some a := by
      have : (x.cps.toList.drop k)[0]? = some a := by rw [hd]; rfl
      rw [List.getElem?_drop] at this
      simpa using this
    have hr : x.cps.toList.drop (k + 1) = r := by
      rw [← List.tail_drop, hd]; rfl
    have hlt : k < x.length := by
      obtain ⟨h, _⟩ := List.getElem?_eq_some_iff.mp hak
      simpa [Str.length] using h
    have key := subAt_one x c k
    rw [hak] at key
    rw [List.length_cons, List.range'_succ, List.forIn_cons]
    by_cases hc : a = c
    · subst hc
      have k2 := key.mpr rfl
      by_cases hs : st.1.size < lim
      · unfold occBody
        rw [if_pos ⟨⟨⟨hs, hf⟩, k2.1⟩, k2.2⟩]
        show (forIn (List.range' (k + 1) (r.length + 1)) (st.1.push k, k + (⟨#[a]⟩ : Str).length) (occBody x ⟨#[a]⟩ x.length lim)).run.fst.toList = _
        rw [occ_loop x a lim r (k + 1) _ hr hlt (Nat.le_refl _)]
        simp only [posL, if_pos, Array.toList_push, Array.size_push]
        rw [show lim - st.1.size = (lim - (st.1.size + 1)) + 1 by omega, List.take_succ_cons]
        simp
      · unfold occBody
        rw [if_neg (fun h => hs h.1.1.1)]
        show (forIn (List.range' (k + 1) (r.length + 1)) (st.1, st.2) (occBody x ⟨#[a]⟩ x.length lim)).run.fst.toList = _
        rw [occ_loop x a lim r (k + 1) _ hr hlt (Nat.le_succ_of_le hf)]
        simp [show lim - st.1.size = 0 by omega]
    · unfold occBody
      rw [if_neg (fun h => hc (Option.some.inj (key.mp ⟨h.1.2, h.2⟩)))]
      show (forIn (List.range' (k + 1) (r.length + 1)) (st.1, st.2) (occBody x ⟨#[c]⟩ x.length lim)).run.fst.toList = _
      rw [occ_loop x c lim r (k + 1) _ hr hlt (Nat.le_succ_of_le hf)]
      simp [posL, hc]
theorem occ_char (x : Str) (c lim : Nat) : occurrences x ⟨#[c]⟩ 0 x.length lim = (posL c 0 x.cps.toList).take lim := by
  rw [occ_eq]
  have := occ_loop x c lim x.cps.toList 0 (#[], 0) (by simp) (Nat.zero_le _) (Nat.le_refl _)
  rw [show x.length + 1 - 0 = x.cps.toList.length + 1 by simp [Str.length]]
  rw [this]
  simp
theorem posL_none {c : Nat} : ∀ {l : List Nat} {k : Nat}, c ∉ l → posL c k l = []
  | [], _, _ => rfl
  | a :: r, k, h => by
    simp only [List.mem_cons, not_or] at h
    rw [posL, if_neg (Ne.symm h.1), posL_none h.2]
theorem posL_append {c : Nat} : ∀ {l r : List Nat} {k : Nat}, posL c k (l ++ r) = posL c k l ++ posL c (k + l.length) r
  | [], r, k => by simp [posL]
  | a :: l, r, k => by
    simp only [List.cons_append, posL]
    rw [posL_append (l := l), List.length_cons, show k + 1 + l.length = k + (l.length + 1) by omega]
    split <;> rfl
theorem posL_first {c : Nat} : ∀ {l : List Nat} {k : Nat}, c ∈ l → ∃ t, posL c k l = (k + l.idxOf c) :: t
  | a :: r, k, h => by
    by_cases hc : a = c
    · subst hc; exact ⟨posL a (k + 1) r, by rw [posL, if_pos rfl]; simp⟩
    · have hr : c ∈ r := (List.mem_cons.mp h).resolve_left (Ne.symm hc)
      obtain ⟨t, ht⟩ := posL_first (l := r) (k := k + 1) hr
      refine ⟨t, ?_⟩
      rw [posL, if_neg hc, ht, List.idxOf_cons]
      have : (a == c) = false := by simpa using hc
      simp [this]
      omega
noncomputable abbrev txt (l : List Nat) : Str := ⟨l.toArray⟩
theorem txt_append (a b : List Nat) : txt a ++ txt b = txt (a ++ b) := by
  show (⟨a.toArray ++ b.toArray⟩ : Str) = _
  simp
theorem txt_length (l : List Nat) : (txt l).length = l.length := by simp [Str.length]
noncomputable def slash : Str := txt [47]
theorem split_slash {h r : List Nat} (hh : 47 ∉ h) (hr : 47 ∉ r) (hl : h.length + r.length ≤ 1000) : splitD (.str (txt (h ++ 47 :: r))) (.str slash) = some (.list [.str (txt h), .str (txt r)]) := by
  have hocc : ∀ lim, occurrences (txt (h ++ 47 :: r)) slash 0 (txt (h ++ 47 :: r)).length (lim + 1) = [h.length] := fun lim => by
    show occurrences _ ⟨#[47]⟩ 0 _ _ = _
    rw [occ_char]
    show (posL 47 0 (h ++ 47 :: r)).take _ = _
    rw [posL_append, posL_none hh, posL, if_pos rfl, posL_none hr]
    simp
  have hcut : cutsOf (txt (h ++ 47 :: r)) slash = [txt h, txt r] := by
    unfold cutsOf
    rw [hocc]
    unfold partsBetween
    simp only [List.map_cons, List.map_nil, List.zip_cons_cons, List.zip_nil_right, strSub, slash, txt_length, List.length_cons, List.length_nil, List.cons_append, List.nil_append, List.cons.injEq, and_true]
    constructor
    · simp
    · simp [List.drop_append]
      rw [List.take_of_length_le (by simp; omega), List.drop_eq_nil_of_le (by omega)]
      rfl
  refine to_bnd (a := txt (h ++ 47 :: r)) rfl (to_bnd (a := slash) rfl ((if_pos ?_).trans (by rw [hcut]; rfl)))
  · refine ⟨?_, ?_, ?_, ?_, ?_⟩
    · simp only [Bool.or_eq_false_iff, decide_eq_false_iff_not, Nat.not_lt, txt_length]
      refine ⟨by simp [slash, txt_length]; omega, ?_⟩
      have : Str.strKind slash = 1 := by simp [Str.strKind, slash]
      rw [this]
      unfold Str.strKind
      split
      · exact Nat.le_refl _
      · split <;> omega
    · rfl
    · rw [hocc]; rfl
    · simp [txt_length, sizeLine]; omega
    · rw [hcut]; simp [sizeLine]
theorem in_char {l : List Nat} {c : Nat} : inD (.str (txt [c])) (.str (txt l)) = some (decide (c ∈ l)) := by
  show some (!(occurrences (txt l) ⟨#[c]⟩ 0 (txt l).length 1).isEmpty) = _
  rw [found_one]
theorem index_char {l : List Nat} {c : Nat} (h : c ∈ l) : sindexD (.str (txt l)) (.str (txt [c])) = some (.int (l.idxOf c : Nat)) := by
  have : occurrences (txt l) (txt [c]) 0 (txt l).length 1 = [l.idxOf c] := by
    show occurrences (txt l) ⟨#[c]⟩ 0 _ _ = _
    rw [occ_char]
    obtain ⟨t, ht⟩ := posL_first (k := 0) h
    show (posL c 0 l).take 1 = _
    rw [ht, Nat.zero_add]; rfl
  exact to_bnd (a := txt l) rfl (to_bnd (a := txt [c]) rfl (by rw [this]; rfl))
end Mine

end

section
open PySem PySem.W PyProof.Rows PySem.Calls
set_option maxRecDepth 100000
set_option linter.unusedVariables false
namespace Mine
noncomputable def methV (T : Tab) (m : Str) (a b : D) : Option D := methG T a m [b]
noncomputable def plainTest (e : Expr) : Bool := !(Nat.beq e.ctorIdx 3 || Nat.beq e.ctorIdx 0 || Nat.beq e.ctorIdx 15 || Nat.beq e.ctorIdx 5)
noncomputable def plainAsg (e : Expr) : Bool := plainVal e && !(Nat.beq e.ctorIdx 23 || Nat.beq e.ctorIdx 6)
section
variable {T : Tab} {n : Nat} {sc : Scope} {σ σ1 σ' : St} {own : List Str}
theorem evE_bin {l r : Expr} {op : Operator} {p : Pos} (a b : D) {d : D} (h1 : evE T n sc σ l = some a) (h2 : evE T n sc σ r = some b) (h : binD op a b = some d) : evE T (n + 1) sc σ (.BinOp l op r p) = some d := to_bnd h1 (to_bnd h2 h)
theorem evE_cmp {l r : Expr} {op : CmpOp} {p : Pos} (a b : D) {c : Bool} (h1 : evE T n sc σ l = some a) (h2 : evE T n sc σ r = some b) (h : cmpB op a b = some c) (hm : behindInMarks op r = false) : evE T (n + 1) sc σ (.Compare l [op] [r] p) = some (.bool c) :=
  to_gd (to_not hm) (to_bnd h1 (to_bnd h2 (to_mpd h)))
theorem evE_sub {v s : Expr} {p : Pos} (a b : D) {d : D} (h1 : evE T n sc σ v = some a) (h2 : evE T n sc σ s = some b) (h : itemD a b = some d) (hs : notSlice s = true) : evE T (n + 1) sc σ (.Subscript v s p) = some d :=
  to_bnd h1 (by rw [hs]; exact to_bnd h2 h)
theorem evE_slice {v : Expr} {lo hi st : Option Expr} {q p : Pos} (a x y z : D) {d : D} (h1 : evE T n sc σ v = some a) (hx : evPart (evE T n sc σ) lo = some x) (hy : evPart (evE T n sc σ) hi = some y) (hz : evPart (evE T n sc σ) st = some z) (h : sliceD a x y z = some d) :
    evE T (n + 1) sc σ (.Subscript v (.Slice lo hi st q) p) = some d := to_bnd h1 (to_bnd hx (to_bnd hy (to_bnd hz h)))
theorem evE_if {t a b : Expr} {p : Pos} (c : Bool) {d : D} (ht : evT (evE T n sc σ) 8 t = some c) (h : evE T n sc σ (bif c then a else b) = some d) : evE T (n + 1) sc σ (.IfExp t a b p) = some d := to_bnd ht (by cases c <;> exact h)
theorem evE_meth {o : Expr} {m : Str} {ap p : Pos} {e : Expr} (a b : D) {d : D} (h1 : evE T n sc σ o = some a) (h2 : evE T n sc σ e = some b)
    (h : methV T m a b = some d) (hg : (m == Str.ofString "get") = false) (hb : (plainBase o && (ap.endLine == p.line)) = true) (hs : noStar e = true) : evE T (n + 1) sc σ (.Call (.Attribute o m ap) [e] [] p) = some d := by
  have h3 : evs (evE T n sc σ) [e] = some [b] := to_gd hs (to_bnd h2 rfl)
  have h4 : methD T (evE T n sc σ) σ o m [e] = some d := by
    unfold methD
    rw [hg]
    exact to_gd rfl (to_bnd h1 (to_bnd h3 h))
  exact to_gd rfl (to_gd (to_and hb rfl) h4)
theorem evT_cmp {ev : Expr → Option D} {k : Nat} {l r : Expr} {op : CmpOp} {p : Pos} (a b : D) {c : Bool} (h1 : ev l = some a) (h2 : ev r = some b) (h : cmpB op a b = some c) (hm : behindInMarks op r = false) : evT ev (k + 1) (.Compare l [op] [r] p) = some c :=
  to_gd (to_not hm) (to_bnd h1 (to_bnd h2 h))
theorem evT_and {ev : Expr → Option D} {k : Nat} {x y : Expr} {p : Pos} (a : Bool) {c : Bool} (h1 : evT ev k x = some a) (h2 : a = true → evT ev k y = some c) (h3 : a = false → c = false) : evT ev (k + 1) (.BoolOp .And [x, y] p) = some c :=
  (to_bnd h1 (by
    cases a with
    | true => exact h2 rfl
    | false => exact congrArg some (h3 rfl).symm))
theorem evT_or {ev : Expr → Option D} {k : Nat} {x y : Expr} {p : Pos} (a : Bool) {c : Bool} (h1 : evT ev k x = some a) (h2 : a = false → evT ev k y = some c) (h3 : a = true → c = true) : evT ev (k + 1) (.BoolOp .Or [x, y] p) = some c :=
  (to_bnd h1 (by
    cases a with
    | false => exact h2 rfl
    | true => exact congrArg some (h3 rfl).symm))
theorem evT_not {ev : Expr → Option D} {k : Nat} {x : Expr} {p : Pos} (a : Bool) (h1 : evT ev k x = some a) : evT ev (k + 1) (.UnaryOp .Not x p) = some (!a) := to_mpd h1
theorem evT_val {ev : Expr → Option D} {k : Nat} {x : Expr} (a : D) {c : Bool} (hp : plainTest x = true) (h1 : ev x = some a) (h2 : truthD a = some c) : evT ev (k + 1) x = some c := by
  have h3 : (ev x).bind truthD = some c := to_bnd h1 h2
  clear h1
  cases x with
  | UnaryOp _ _ _ => exact nob hp
  | BoolOp _ _ _ => exact nob hp
  | Compare _ _ _ _ => exact nob hp
  | IfExp _ _ _ _ => exact nob hp
  | _ => exact h3
theorem setS_ne {x y : Str} {u s : Sl} {r : St} (h : ¬ x = y) : setS x u ((y, s) :: r) = (y, s) :: setS x u r := if_neg fun q => h (eq_of_beq q)
theorem setS_eq {x : Str} {u s : Sl} {r : St} : setS x u ((x, s) :: r) = (x, u) :: r := if_pos (beq_self_eq_true x)
theorem setS_setS {x : Str} {u v : Sl} {σ : St} : setS x v (setS x u σ) = setS x v σ := by
  induction σ with
  | nil => exact setS_eq
  | cons p r ih =>
    obtain ⟨y, s⟩ := p
    by_cases h : x = y
    · subst h
      rw [setS_eq, setS_eq, setS_eq]
    · rw [setS_ne h, setS_ne h, setS_ne h, ih]
theorem compLoop_name {step : St → Option (List D × St)} {x : Str} {p : Pos} {tests : St → Option Bool} {t : D → Bool} {f : D → D} {its : List D} {σ0 : St} (h0 : ∀ v, setS x v σ0 = setS x v σ) (ht : ∀ d ∈ its, tests (setS x (.val d) σ) = some (t d))
    (hf : ∀ d ∈ its, t d = true → step (setS x (.val d) σ) = some ([f d], setS x (.val d) σ)) : ∃ σ1, compLoop step (.Name x p) tests its σ0 = some ((its.filter t).map f, σ1) := by
  induction its generalizing σ0 with
  | nil => exact ⟨σ0, rfl⟩
  | cons d r ih =>
    obtain ⟨σ1, h1⟩ := ih (σ0 := setS x (.val d) σ) (fun v => setS_setS) (fun d hd => ht d (.tail _ hd)) fun d hd => hf d (.tail _ hd)
    have e1 := ht d (.head _)
    refine ⟨σ1, to_bnd (a := setS x (.val d) σ) (congrArg some (h0 _)) (to_bnd e1 ?_)⟩
    cases htd : t d with
    | true =>
      refine to_bnd (hf d (.head _) htd) (to_bnd h1 ?_)
      rw [List.filter_cons_of_pos htd]; rfl
    | false =>
      refine to_bnd (a := ([], setS x (.val d) σ)) rfl (to_bnd h1 ?_)
      rw [List.filter_cons_of_neg (fun q => nob (htd.symm.trans q))]; rfl
theorem evE_comp {elt iter : Expr} {x : Str} {p q : Pos} {ifs : List Expr} {scope : Scope} {its : List D} (t : D → Bool) (f : D → D) (hok : compOk scope sc [⟨.Name x p, iter, ifs, 0⟩] = true) (hsrc : plainSrc iter = true) (hit : evI T sc (evE T n sc σ) σ iter = some its)
    (ht : ∀ d ∈ its, testsD (fun σ e => evT (evE T n (relScope scope sc) σ) 8 e) ifs (setS x (.val d) (captured scope σ)) = some (t d))
    (hf : ∀ d ∈ its, t d = true → evE T n (relScope scope sc) (setS x (.val d) (captured scope σ)) elt = some (f d)) (hl : its.length ≤ 1000000) :
    evE T (n + 1) sc σ (.ListComp elt [⟨.Name x p, iter, ifs, 0⟩] scope q) = some (.list ((its.filter t).map f)) := by
  obtain ⟨σ1, h1⟩ := compLoop_name (p := p) (σ0 := captured scope σ) (σ := captured scope σ) (step := fun σ => (evE T n (relScope scope sc) σ elt).map fun d => ([d], σ)) (tests := testsD (fun σ e => evT (evE T n (relScope scope sc) σ) 8 e) ifs) (fun v => rfl) ht fun d hd htd => to_mpd (hf d hd htd)
  exact to_gd (to_and (to_and hok hsrc) rfl) (to_bnd hit (to_bnd (a := (_, σ1)) ((if_pos rfl).trans h1) (if_pos (by rw [List.length_map]; exact Nat.le_trans (List.length_filter_le _ _) hl))))
theorem exL_next {step : St → Stmt → Option (FlD × St)} {s : Stmt} {r : List Stmt} (σ1 : St) {q : Option (FlD × St)} (h : step σ s = some (.next, σ1)) (h2 : exL step r σ1 = q) : exL step (s :: r) σ = q := to_bnd h h2
theorem exL_ret {step : St → Stmt → Option (FlD × St)} {s : Stmt} {r : List Stmt} {d : D} {σ1 : St} (h : step σ s = some (.ret d, σ1)) : exL step (s :: r) σ = some (.ret d, σ1) := to_bnd h rfl
theorem exS_if {t : Expr} {b o : List Stmt} {p : Pos} (c : Bool) {q : Option (FlD × St)} (ht : evT (evE T n sc σ) 8 t = some c) (h : exL (exS T own n sc) (bif c then b else o) σ = q) : exS T own (n + 1) sc σ (.If t b o p) = q := to_bnd ht h
theorem frozen_none {e : Expr} (hp : plainAsg e = true) : frozen σ e = none := by
  cases e with
  | Name _ _ => exact nob hp
  | _ => rfl
theorem assignD_plain {x : Str} {e : Expr} (hp : plainAsg e = true) : assignD T n sc σ x e = gd (plainVal e) (match evX T (fun σ e => evE T n sc σ e) σ e with
      | some r => some (setS x (.val r.1) r.2)
      | none => (evE T n sc σ e).map fun d => setS x (.val d) σ) := by
  cases e with
  | Name _ _ => exact nob hp
  | Dict _ _ _ => exact nob hp
  | ListComp _ _ _ _ => exact nob hp
  | _ => rfl
theorem exS_assign {x : Str} {p q : Pos} {e : Expr} (d : D) (h : evE T n sc σ e = some d) (hk : canB sc x = true) (ho : own.contains x = false) (hp : plainAsg e = true) (hx : evX T (fun σ e => evE T n sc σ e) σ e = none) : exS T own (n + 1) sc σ (.Assign [.Name x p] e q) = some (.next, setS x (.val d) σ) := by
  have h2 : assignD T n sc σ x e = some (setS x (.val d) σ) := by
    rw [assignD_plain hp, hx]
    exact to_gd (and_1 hp) (to_mpd h)
  exact (to_gd hk (by rw [ho]; exact to_mpd h2))
theorem exS_assign_comp {x : Str} {p q q2 : Pos} {elt : Expr} {gens : List Comprehension} {scope : Scope} (d : D) (h : evE T (n + 1) sc σ (.ListComp elt gens scope q2) = some d) (hk : canB sc x = true) (ho : own.contains x = false) : exS T own (n + 1) sc σ (.Assign [.Name x p] (.ListComp elt gens scope q2) q) = some (.next, setS x (.val d) σ) := by
  have h2 : assignD T n sc σ x (.ListComp elt gens scope q2) = some (setS x (.val d) σ) := to_mpd (f := fun d => setS x (.val d) σ) h
  exact (to_gd hk (by rw [ho]; exact to_mpd h2))
theorem exS_ret {e : Expr} {p : Pos} (d : D) (h : evE T n sc σ e = some d) (hn : plainAsg e = true) : exS T own (n + 1) sc σ (.Return (some e) p) = some (.ret d, σ) := by
  show (match frozen σ e with
    | some r => some (FlD.ret r.1, r.2)
    | none => (evE T n sc σ e).map fun d => (FlD.ret d, σ)) = _
  rw [frozen_none hn]
  exact to_mpd h
theorem exS_tup {es : List Expr} {k : Nat} {p q : Pos} {e : Expr} (d : D) (h : evE T n sc σ e = some d) (hb : bindD (.Tuple es k p) d σ = some σ') (hc : ((tgtNames (.Tuple es k p)).all (canB sc) && plainVal e && notTup e) = true) : exS T own (n + 1) sc σ (.Assign [.Tuple es k p] e q) = some (.next, σ') :=
  to_gd hc (to_bnd h (to_mpd hb))
end
section
variable {C : Cfg} {A : Around} {env : Env} {σ σ1 σ' : St}
theorem Stm.sub {t : Sem Flow} {f : FlD} (h : Stm C A env σ t f σ1) (hs : ∀ x sl, σ'.lookup x = some sl → σ1.lookup x = some sl) : Stm C A env σ t f σ' := fun Z θ s i =>
  h.use i fun fl θ' s' i' st fr => ⟨θ', i'.sub hs, st, fr⟩
end
end Mine

end

section
open PySem PySem.W PyProof.Rows PySem.Calls
set_option maxRecDepth 100000
set_option linter.unusedVariables false
set_option maxHeartbeats 4000000
namespace Mine
noncomputable def thenOf (s : Stmt) : List Stmt := match s with
  | .If _ b _ _ => b
  | _ => []
noncomputable def testOf (s : Stmt) : Expr := match s with
  | .If t _ _ _ => t
  | _ => .Constant .none 0 ⟨0, 0, 0, 0⟩
noncomputable def posI (s : Stmt) : Pos := match s with
  | .If _ _ _ p => p
  | _ => ⟨0, 0, 0, 0⟩
noncomputable def reachX : List Stmt := fBody (nthS (fBody (nthS PySem.Challenge.pw_rs0050_02.main.body 9)) 1)
theorem reach_x (P : Params) : reachB P = reachX := by kernel_rfl
theorem methV_split {T : Tab} {x : Str} {b : D} : methV T (Str.ofString "split") (.str x) b = splitD (.str x) b := by kernel_rfl
theorem methV_index {T : Tab} {x : Str} {b : D} : methV T (Str.ofString "index") (.str x) b = sindexD (.str x) b := by kernel_rfl
theorem methV_join {T : Tab} {x : Str} {b : D} : methV T (Str.ofString "join") (.str x) b = joinD (.str x) b := by kernel_rfl
theorem methV_obj {T : Tab} {t : Nat} {os : List D} {m : Str} {b : D} : methV T m (.obj t os) b = T.meth t os m [b] := rfl
theorem signS_eq {p : Nat} (hp : p < 4) : signS p = txt [97 + p] := by
  obtain rfl | rfl | rfl | rfl := four hp
  all_goals kernel_rfl
theorem bin_str {x y : List Nat} (h : x.length + y.length ≤ 10000) : binD .Add (.str (txt x)) (.str (txt y)) = some (.str (txt (x ++ y))) := by
  show (if (txt x).length + (txt y).length ≤ sizeLine then some (D.str (txt x ++ txt y)) else none) = _
  rw [if_pos (by rw [txt_length, txt_length]; exact Nat.le_trans h (by decide)), txt_append]
theorem reach_val {P : Params} {p : Nat} {h r : List Nat} (hp : p < 4) (hh : 47 ∉ h) (hr : 47 ∉ r) (hl : h.length + r.length ≤ 900) :
    reachV P p (txt (h ++ 47 :: r)) = some (.int (if 97 + p ∈ h then 1 + ((r ++ [97 + p]).idxOf (97 + p) : Nat) else 0)) := by
  have key : ∃ σ, exL (exS T0 [] 12 (reachSc P)) reachX ((Str.ofString "sign", .val (.str (txt [97 + p]))) :: par0 [Str.ofString "name"] [.str (txt (h ++ 47 :: r))]) = some (.ret (.int (if 97 + p ∈ h then 1 + ((r ++ [97 + p]).idxOf (97 + p) : Nat) else 0)), σ) := by
    refine ⟨[(Str.ofString "sign", .val (.str (txt [97 + p]))), (Str.ofString "name", .val (.str (txt (h ++ 47 :: r)))), (Str.ofString "held", .val (.str (txt h))), (Str.ofString "rest", .val (.str (txt r)))], exL_next [(Str.ofString "sign", .val (.str (txt [97 + p]))), (Str.ofString "name", .val (.str (txt (h ++ 47 :: r)))), (Str.ofString "held", .val (.str (txt h))), (Str.ofString "rest", .val (.str (txt r)))] (exS_tup (.list [.str (txt h), .str (txt r)]) (evE_meth (.str (txt (h ++ 47 :: r))) (.str slash) (by kernel_rfl) (by kernel_rfl) (methV_split.trans (split_slash hh hr (by omega))) (by kernel_rfl) (by kernel_rfl) (by kernel_rfl)) (by kernel_rfl) (by kernel_rfl)) ?_⟩
    refine exL_ret (exS_ret _ (evE_if (decide (97 + p ∈ h)) (evT_cmp (.str (txt [97 + p])) (.str (txt h)) (by kernel_rfl) (by kernel_rfl) in_char (by kernel_rfl)) ?_) (by kernel_rfl))
    by_cases hm : 97 + p ∈ h
    · rw [if_pos hm, decide_eq_true hm]
      exact evE_bin (.int 1) (.int ((r ++ [97 + p]).idxOf (97 + p) : Nat)) (by kernel_rfl) (evE_meth (.str (txt (r ++ [97 + p]))) (.str (txt [97 + p])) (evE_bin (.str (txt r)) (.str (txt [97 + p])) (by kernel_rfl) (by kernel_rfl) (bin_str (by simp; omega))) (by kernel_rfl) (methV_index.trans (index_char (by simp))) (by kernel_rfl) (by kernel_rfl) (by kernel_rfl)) rfl
    · rw [if_neg hm, decide_eq_false hm]
      kernel_rfl
  obtain ⟨σ, hk⟩ := key
  refine to_gd rfl (to_bnd (a := (.ret _, σ)) ?_ rfl)
  rw [reach_x, signS_eq hp, hk]
end Mine

end

section
open PySem PySem.W PyProof.Rows PySem.Calls
set_option maxRecDepth 100000
set_option linter.unusedVariables false
set_option maxHeartbeats 4000000
namespace Mine
noncomputable def allowX : List Stmt := fBody (nthS (cBody (nthS PySem.Challenge.pw_rs0050_02.main.body 2)) 3)
theorem allow_x (P : Params) : bodyA P 56 = allowX := by kernel_rfl
theorem exS_for {T : Tab} {n : Nat} {sc : Scope} {σ : St} {own : List Str} {tgt iter : Expr} {body : List Stmt} {p : Pos} (all : List D) {q : Option (FlD × St)} (hc : (plainSrc iter && (tgtNames tgt).all (canB sc)) = true) (hx : evX T (fun σ e => evE T n sc σ e) σ iter = none)
    (hi : evI T sc (evE T n sc σ) σ iter = some all) (h : forD (fun σ => exL (exS T own n sc) body σ) tgt all σ = q) : exS T own (n + 1) sc σ (.For tgt iter body [] p) = q := by
  exact to_gd hc (by rw [hx]; exact to_bnd hi h)
theorem evT_congr {ev : Expr → Option D} {k : Nat} {x : Expr} {a b : Bool} (h : evT ev k x = some a) (e : a = b) : evT ev k x = some b := e ▸ h
noncomputable def toA : Option Nat → D
  | none => .bool true
  | some q => .int q
noncomputable def allowStep (m : Nat → Int) (st : Int × Option Nat) (p : Nat) : Int × Option Nat :=
  if m p = 0 then st else if st.1 < m p then (m p, some p) else if m p = st.1 ∧ st.2 = some 0 then (st.1, some p) else st
noncomputable def mOf (h r : List Nat) (p : Nat) : Int := if 97 + p ∈ h then 1 + ((r ++ [97 + p]).idxOf (97 + p) : Nat) else 0
noncomputable def sgA (ps : List D) (nm : Str) (st : Int × Option Nat) (J : St) : St := (sSelf, .val (.obj 1 ps)) :: (Str.ofString "filename", .val (.str nm)) :: (Str.ofString "best_match", .val (.int st.1)) :: (Str.ofString "allowance", .val (toA st.2)) :: J
noncomputable def tgtOf (s : Stmt) : Expr := match s with
  | .For t _ _ _ _ => t
  | _ => .Constant .none 0 ⟨0, 0, 0, 0⟩
noncomputable def iterOf (s : Stmt) : Expr := match s with
  | .For _ t _ _ _ => t
  | _ => .Constant .none 0 ⟨0, 0, 0, 0⟩
noncomputable def posF (s : Stmt) : Pos := match s with
  | .For _ _ _ _ p => p
  | _ => ⟨0, 0, 0, 0⟩
noncomputable def loopOf (s : Stmt) : List Stmt := match s with
  | .For _ _ b _ _ => b
  | _ => []
theorem allow_step {P : Params} {ps : List D} {nm : Str} {p : Nat} {m : Int} (hr : reachV P p nm = some (.int m)) (st : Int × Option Nat) (J : St) (hJ : J = [] ∨ ∃ x y, J = [(Str.ofString "line", x), (Str.ofString "m", y)]) {mm : Nat → Int} (hm : mm p = m) :
    exL (exS (T1 P) [] 11 (fdA P 56).scope) (loopOf (nthS allowX 2)) (setS (Str.ofString "line") (.val (.obj 0 [.int p])) (sgA ps nm st J)) = some (.next, sgA ps nm (allowStep mm st p) [(Str.ofString "line", .val (.obj 0 [.int p])), (Str.ofString "m", .val (.int m))]) := by
  obtain ⟨b, a⟩ := st
  have hmeth : (T1 P).meth 0 [.int p] (Str.ofString "applies_to") [.str nm] = some (.int m) := by
    have : (T1 P).meth 0 [.int p] (Str.ofString "applies_to") [.str nm] = reachV P p nm := by kernel_rfl
    rw [this, hr]
  have s1 : ∀ J, J = [] ∨ (∃ x y, J = [(Str.ofString "line", x), (Str.ofString "m", y)]) → ∃ K, setS (Str.ofString "line") (.val (.obj 0 [.int p])) (sgA ps nm (b, a) J) = sgA ps nm (b, a) ((Str.ofString "line", .val (.obj 0 [.int p])) :: K) ∧ setS (Str.ofString "m") (.val (.int m)) (sgA ps nm (b, a) ((Str.ofString "line", .val (.obj 0 [.int p])) :: K)) = sgA ps nm (b, a) [(Str.ofString "line", .val (.obj 0 [.int p])), (Str.ofString "m", .val (.int m))] := by
    rintro J (rfl | ⟨x, y, rfl⟩)
    · exact ⟨[], by kernel_rfl, by kernel_rfl⟩
    · exact ⟨[(Str.ofString "m", y)], by kernel_rfl, by kernel_rfl⟩
  obtain ⟨K, e1, e2⟩ := s1 J hJ
  rw [e1]
  refine exL_next _ (exS_assign (.int m) (evE_meth (.obj 0 [.int p]) (.str nm) (by kernel_rfl) (by kernel_rfl) (methV_obj.trans hmeth) (by kernel_rfl) (by kernel_rfl) (by kernel_rfl)) (by kernel_rfl) (by kernel_rfl) (by kernel_rfl) (by kernel_rfl)) ?_
  rw [e2]
  have setb : ∀ v : Int, setS (Str.ofString "best_match") (.val (.int v)) (sgA ps nm (b, a) [(Str.ofString "line", .val (.obj 0 [.int p])), (Str.ofString "m", .val (.int m))]) = sgA ps nm (v, a) [(Str.ofString "line", .val (.obj 0 [.int p])), (Str.ofString "m", .val (.int m))] := fun v => by kernel_rfl
  have seta : ∀ v : Int, setS (Str.ofString "allowance") (.val (.int p)) (sgA ps nm (v, a) [(Str.ofString "line", .val (.obj 0 [.int p])), (Str.ofString "m", .val (.int m))]) = sgA ps nm (v, some p) [(Str.ofString "line", .val (.obj 0 [.int p])), (Str.ofString "m", .val (.int m))] := fun v => by kernel_rfl
  have nil : ∀ σ, exL (exS (T1 P) [] 11 (fdA P 56).scope) [] σ = some (.next, σ) := fun σ => rfl
  have nil10 : ∀ σ, exL (exS (T1 P) [] 10 (fdA P 56).scope) [] σ = some (.next, σ) := fun σ => rfl
  refine exL_next _ (exS_if (m != 0) (evT_val (.int m) (by kernel_rfl) (by kernel_rfl) rfl) ?_) (nil _)
  by_cases h0 : m = 0
  · have : allowStep mm (b, a) p = (b, a) := by unfold allowStep; rw [hm, if_pos h0]
    rw [this, h0]
    rfl
  · have hb0 : (m != 0) = true := by simpa using h0
    rw [hb0]
    refine exL_next _ (exS_if (decide (b < m)) (evT_cmp (.int m) (.int b) (by kernel_rfl) (by kernel_rfl) rfl (by kernel_rfl)) ?_) (nil10 _)
    by_cases h1 : b < m
    · have : allowStep mm (b, a) p = (m, some p) := by unfold allowStep; rw [hm, if_neg h0, if_pos h1]
      rw [this, decide_eq_true h1]
      exact exL_next (sgA ps nm (m, a) [(Str.ofString "line", .val (.obj 0 [.int p])), (Str.ofString "m", .val (.int m))]) (by kernel_rfl) (exL_next (sgA ps nm (m, some p) [(Str.ofString "line", .val (.obj 0 [.int p])), (Str.ofString "m", .val (.int m))]) (by kernel_rfl) rfl)
    · rw [decide_eq_false h1]
      have ht : truthD (toA a) = some (!decide (a = some 0)) := by
        cases a with
        | none => rfl
        | some q =>
          show some ((q : Int) != 0) = _
          congr 1
          rw [Bool.eq_iff_iff]
          simp
      refine exL_next _ (exS_if (decide (m = b ∧ a = some 0)) (evT_and (m == b) (evT_cmp (.int m) (.int b) (by kernel_rfl) (by kernel_rfl) rfl (by kernel_rfl)) (fun q => evT_congr (evT_not _ (evT_val (toA a) (by kernel_rfl) (by kernel_rfl) ht)) ?_) (fun q => ?_)) ?_) rfl
      · have : m = b := by simpa using q
        simp [this]
      · have : ¬ m = b := by simpa using q
        simp [this]
      · by_cases h2 : m = b ∧ a = some 0
        · have : allowStep mm (b, a) p = (b, some p) := by unfold allowStep; rw [hm, if_neg h0, if_neg h1, if_pos h2]
          rw [this, decide_eq_true h2]
          exact exL_next (sgA ps nm (b, some p) [(Str.ofString "line", .val (.obj 0 [.int p])), (Str.ofString "m", .val (.int m))]) (by kernel_rfl) rfl
        · have : allowStep mm (b, a) p = (b, a) := by unfold allowStep; rw [hm, if_neg h0, if_neg h1, if_neg h2]
          rw [this, decide_eq_false h2]
          rfl
theorem allow_loop {P : Params} {ps : List D} {nm : Str} {mm : Nat → Int} {x : Str} {px : Pos} (hx : x = Str.ofString "line") : ∀ (order : List Nat) (st : Int × Option Nat) (J : St), (∀ p ∈ order, reachV P p nm = some (.int (mm p))) → (J = [] ∨ ∃ x y, J = [(Str.ofString "line", x), (Str.ofString "m", y)]) →
    ∃ J', forD (fun σ => exL (exS (T1 P) [] 11 (fdA P 56).scope) (loopOf (nthS allowX 2)) σ) (.Name x px) (order.map fun p => .obj 0 [.int (p : Nat)]) (sgA ps nm st J) = some (.next, sgA ps nm (order.foldl (allowStep mm) st) J')
  | [], st, J, _, _ => ⟨J, rfl⟩
  | p :: r, st, J, h, hJ => by
    subst hx
    obtain ⟨J', ih⟩ := allow_loop (px := px) rfl r (allowStep mm st p) [(Str.ofString "line", .val (.obj 0 [.int p])), (Str.ofString "m", .val (.int (mm p)))] (fun q hq => h q (.tail _ hq)) (.inr ⟨_, _, rfl⟩)
    refine ⟨J', ?_⟩
    exact to_bnd (a := setS (Str.ofString "line") (.val (.obj 0 [.int p])) (sgA ps nm st J)) rfl (to_bnd (allow_step (h p (.head _)) st J hJ rfl) ih)
theorem allow_val {P : Params} {order h r : List Nat} (ho : ∀ p ∈ order, p < 4) (hh : 47 ∉ h) (hr : 47 ∉ r) (hl : h.length + r.length ≤ 900) :
    allowV P [.obj 1 (order.map fun p => .int (p : Nat)), .str (txt (h ++ 47 :: r))] = some (toA (order.foldl (allowStep (mOf h r)) (-1, none)).2) := by
  have key : ∃ σ, exL (exS (T1 P) [] 12 (fdA P 56).scope) allowX (par0 [sSelf, Str.ofString "filename"] [.obj 1 (order.map fun p => .int (p : Nat)), .str (txt (h ++ 47 :: r))]) = some (.ret (toA (order.foldl (allowStep (mOf h r)) (-1, none)).2), σ) := by
    obtain ⟨px, hpx⟩ : ∃ px, tgtOf (nthS allowX 2) = Expr.Name (Str.ofString "line") px := ⟨_, rfl⟩
    obtain ⟨J', hJ⟩ := allow_loop (P := P) (ps := order.map fun p => .int (p : Nat)) (nm := txt (h ++ 47 :: r)) (mm := mOf h r) (px := px) rfl order (-1, none) [] (fun p hp => reach_val (ho p hp) hh hr hl) (.inl rfl)
    have hb : allowX = [nthS allowX 0, nthS allowX 1, .For (tgtOf (nthS allowX 2)) (iterOf (nthS allowX 2)) (loopOf (nthS allowX 2)) [] (posF (nthS allowX 2)), nthS allowX 3] := by kernel_rfl
    have hmap : (order.map fun p => D.int (p : Nat)).map (fun d => D.obj 0 [d]) = order.map fun p => .obj 0 [.int (p : Nat)] := by rw [List.map_map]; rfl
    rw [hb, hpx]
    refine ⟨sgA (order.map fun p => .int (p : Nat)) (txt (h ++ 47 :: r)) (order.foldl (allowStep (mOf h r)) (-1, none)) J', ?_⟩
    refine exL_next [(sSelf, .val (.obj 1 (order.map fun p => .int (p : Nat)))), (Str.ofString "filename", .val (.str (txt (h ++ 47 :: r)))), (Str.ofString "best_match", .val (.int (-1)))] (by kernel_rfl) (exL_next (sgA (order.map fun p => .int (p : Nat)) (txt (h ++ 47 :: r)) (-1, none) []) (by kernel_rfl) ?_)
    refine exL_next _ (exS_for ((order.map fun p => D.int (p : Nat)).map (fun d => D.obj 0 [d])) (by kernel_rfl) (by kernel_rfl) (by kernel_rfl) (by rw [hmap]; exact hJ)) ?_
    exact exL_ret (by kernel_rfl)
  obtain ⟨σ, hk⟩ := key
  refine to_gd rfl (to_bnd (a := (.ret _, σ)) ?_ rfl)
  rw [allow_x, hk]
end Mine

end

section
open PySem PySem.W PyProof.Rows PySem.Calls
set_option maxRecDepth 100000
set_option linter.unusedVariables false
set_option maxHeartbeats 4000000
namespace Mine
theorem pick_runL {α : Type} (xs : List α) (a : Nat) : ∀ k : Nat, ((List.range k).map (a + ·)).filterMap (xs[·]?) = (xs.drop a).take k
  | 0 => by simp
  | k + 1 => by
    rw [List.range_succ, List.map_append, List.filterMap_append, pick_runL xs a k, List.take_add_one]
    congr 1
    simp only [List.map_cons, List.map_nil, List.getElem?_drop]
    cases h : xs[a + k]? <;> simp [h]
theorem slicePickL_from {α : Type} (l : List α) (a : Nat) : slicePickL l (some (a : Int)) none none = l.drop a := by
  unfold slicePickL
  rw [sliceBounds_plain]
  simp only [sliceRange_one, pick_runL, Option.elim, clipAt_nat]
  rcases Nat.le_total a l.length with h | h
  · rw [Nat.min_eq_left h, List.take_of_length_le (by simp)]
  · rw [Nat.min_eq_right h, List.drop_of_length_le (by simp), List.drop_of_length_le (by simpa using h)]; simp
noncomputable abbrev nD (p : Nat) : D := .int (p : Int)
noncomputable abbrev dL (l : List Nat) : D := .list (l.map nD)
noncomputable def abcd : Str := txt [97, 98, 99, 100]
theorem asInts_n : ∀ l : List Nat, asInts (l.map nD) = some (l.map fun p : Nat => (p : Int))
  | [] => rfl
  | a :: l => to_bnd (x := asI (nD a)) rfl (to_mpd (asInts_n l))
theorem any_n (g : Nat) : ∀ l : List Nat, (l.map fun p : Nat => (p : Int)).any (· == (g : Int)) = decide (g ∈ l)
  | [] => by simp
  | a :: l => by
    rw [List.map_cons, List.any_cons, any_n g l, Bool.eq_iff_iff]
    simp only [Bool.or_eq_true, beq_iff_eq, decide_eq_true_eq, List.mem_cons]
    have : ((a : Int) = (g : Int)) ↔ g = a := by omega
    rw [this]
theorem in_list (g : Nat) (l : List Nat) : inD (nD g) (dL l) = some (decide (g ∈ l)) := by
  show (asInts (l.map nD)).map _ = _
  rw [asInts_n, Option.map_some, any_n]
theorem idx_n (g : Nat) : ∀ l : List Nat, (l.map fun p : Nat => (p : Int)).idxOf (g : Int) = l.idxOf g
  | [] => rfl
  | a :: l => by
    rw [List.map_cons, List.idxOf_cons, List.idxOf_cons, idx_n g l]
    have : ((a : Int) == (g : Int)) = (a == g) := by rw [Bool.eq_iff_iff]; simp only [beq_iff_eq]; omega
    rw [this]
theorem index_list {g : Nat} {l : List Nat} (h : g ∈ l) (hl : l.length ≤ 100) : indexD (dL l) (nD g) = some (nD (l.idxOf g)) := by
  exact to_bnd (x := asL (dL l)) rfl (to_bnd (x := asI (nD g)) rfl (to_bnd (asInts_n l) ((if_pos ⟨List.mem_map_of_mem (f := fun p : Nat => (p : Int)) h, by rw [List.length_map]; exact Nat.le_trans hl (by decide)⟩).trans (by rw [idx_n]))))
theorem item_at {l : List D} {k : Nat} {d : D} (h : l[k]? = some d) (hl : l.length ≤ 1000) : itemD (.list l) (nD k) = some d := by
  have hk : k < l.length := (List.getElem?_eq_some_iff.mp h).1
  refine to_bnd (x := asI (nD k)) rfl ?_
  show itemL l (k : Int) = _
  unfold itemL
  rw [if_pos (by omega)]
  have e : seqIndex? (k : Int) l.length = some k := by
    unfold seqIndex?
    have h1 : ¬ ((k : Int) < 0) := by omega
    simp only [h1, if_false]
    rw [if_pos (by simp; omega)]
    simp
  rw [e]
  exact h
theorem item_abcd {p : Nat} (hp : p < 4) : itemD (.str abcd) (nD p) = some (.str (txt [97 + p])) := by
  obtain rfl | rfl | rfl | rfl := four hp
  all_goals kernel_rfl
theorem slice_from {l : List D} {k : Nat} (hl : l.length ≤ 1000) : sliceD (.list l) (nD k) .none .none = some (.list (l.drop k)) := by
  show (if (none : Option Int) ≠ some 0 ∧ l.length ≤ sizeLine then some (D.list (slicePickL l (some (k : Int)) none none)) else none) = _
  rw [if_pos ⟨nofun, Nat.le_trans hl (by decide)⟩, slicePickL_from]
theorem asStrs_t : ∀ l : List (List Nat), asStrs (l.map fun x => D.str (txt x)) = some (l.map txt)
  | [] => rfl
  | a :: l => to_bnd (x := asS (.str (txt a))) rfl (to_mpd (asStrs_t l))
theorem glue_fold : ∀ (l : List (List Nat)) (acc : Array Nat), ((l.map txt).foldl (fun acc p => acc ++ (txt []).cps ++ p.cps) acc) = acc ++ l.flatten.toArray
  | [], acc => by simp
  | a :: l, acc => by
    simp only [List.map_cons, List.foldl_cons]
    rw [glue_fold l]
    simp
theorem join_txt (l : List (List Nat)) : Txt.join (txt []) (l.map txt) = txt l.flatten := by
  show (⟨((l.map txt).drop 1).foldl (fun acc p => acc ++ (txt []).cps ++ p.cps) ((l.map txt).headD Str.empty).cps⟩ : Str) = _
  cases l with
  | nil => rfl
  | cons a l =>
    simp only [List.map_cons, List.drop_succ_cons, List.drop_zero, List.headD_cons]
    rw [glue_fold]
    simp
theorem join_D {l : List (List Nat)} (hl : l.flatten.length ≤ 1000) (hn : l.length ≤ 1000) : joinD (.str (txt [])) (.list (l.map fun x => D.str (txt x))) = some (.str (txt l.flatten)) := by
  show (asStrs _).bind _ = _
  rw [asStrs_t, Option.bind_some, if_pos, join_txt]
  have : ((l.map txt).map fun x => x.length).sum = l.flatten.length := by
    rw [List.map_map, List.length_flatten]
    congr 1
  rw [this, txt_length]
  simp only [List.length_nil, List.length_map]
  omega
theorem flat_one (l : List Nat) : (l.map fun p => [97 + p]).flatten = l.map (97 + ·) := by
  induction l with
  | nil => rfl
  | cons a l ih => simp [ih]
noncomputable def psOf (kept : List Nat) : List (Str × Str) := kept.map fun p => (txt [32], txt [97 + p])
noncomputable def heldL (kept : List Nat) : List Nat := (kept.map fun p => [32, 97 + p]).flatten
theorem mem_held {p : Nat} (hp : p < 4) : ∀ kept : List Nat, 97 + p ∈ heldL kept ↔ p ∈ kept
  | [] => by simp [heldL]
  | a :: l => by
    have : heldL (a :: l) = 32 :: (97 + a) :: heldL l := rfl
    have h1 : ¬ 97 + p = 32 := by omega
    have h2 : 97 + p = 97 + a ↔ p = a := by omega
    rw [this, List.mem_cons, List.mem_cons, mem_held hp l, List.mem_cons, h2]
    simp [h1]
theorem slash_held : ∀ kept : List Nat, (∀ p ∈ kept, p < 4) → 47 ∉ heldL kept
  | [], _ => by simp [heldL]
  | a :: l, h => by
    have : heldL (a :: l) = 32 :: (97 + a) :: heldL l := rfl
    have h1 : ¬ 47 = 97 + a := by omega
    rw [this, List.mem_cons, List.mem_cons]
    have := slash_held l fun p hp => h p (.tail _ hp)
    simp [h1, this]
theorem held_len : ∀ kept : List Nat, (heldL kept).length = 2 * kept.length
  | [] => rfl
  | a :: l => by
    have : heldL (a :: l) = 32 :: (97 + a) :: heldL l := rfl
    rw [this, List.length_cons, List.length_cons, held_len l, List.length_cons]
    omega
theorem smallPs_ok {kept : List Nat} (h : kept.length ≤ 3) : smallPs 3 (psOf kept) = true := by
  unfold smallPs psOf
  rw [Bool.and_eq_true, decide_eq_true_eq, List.length_map, List.all_eq_true]
  refine ⟨h, fun p hp => ?_⟩
  obtain ⟨q, _, rfl⟩ := List.mem_map.mp hp
  simp [txt_length]
theorem accStr_val {P : Params} {M : Int} {kept : List Nat} (h : kept.length ≤ 3) : (T2 P).accStr M (psOf kept) = some (txt (heldL kept)) := by
  show (if smallPs 3 (psOf kept) = true then some (Txt.join "" ((psOf kept).map fun c => Txt.join "" [c.1, c.2])) else none) = _
  rw [if_pos (smallPs_ok h)]
  have e : ((psOf kept).map fun c => Txt.join "" [c.1, c.2]) = (kept.map fun p => [32, 97 + p]).map txt := by
    unfold psOf
    rw [List.map_map, List.map_map]
    refine List.map_congr_left fun p _ => ?_
    have := join_txt [[32], [97 + p]]
    have e2 : ("" : Str) = txt [] := by decide
    simp only [Function.comp]
    rw [e2]
    simpa using this
  rw [e, show ("" : Str) = txt [] by decide, join_txt]
  rfl
end Mine

end

section
open PySem PySem.W PyProof.Rows PySem.Calls
set_option maxRecDepth 100000
set_option linter.unusedVariables false
set_option maxHeartbeats 4000000
namespace Mine
section
variable {T : Tab} {n : Nat} {sc : Scope} {σ σ1 σ' : St} {own : List Str}
theorem ne_self_str {x : Str} : cmpB .NotEq (.str x) (.str x) = some false := by
  show some (!(x == x)) = _
  rw [beq_self_eq_true]; rfl
theorem ne_self_int {x : Int} : cmpB .NotEq (.int x) (.int x) = some false := by
  show some (!(x == x)) = _
  rw [beq_self_eq_true]; rfl
theorem accOf_name {x : Str} {p : Pos} {m : Int} {ps : List (Str × Str)} (hx : σ.lookup x = some (.acc m ps)) (hd : (x == ("__debug__" : Str)) = false) : accOf σ (.Name x p) = some (m, ps) := to_gd (to_not hd) (to_bnd hx rfl)
theorem evE_accstr {f x : Str} {fp p q : Pos} {m : Int} {ps : List (Str × Str)} {s : Str} (hg : glF T sc (.Name f fp) = some .str) (hx : σ.lookup x = some (.acc m ps)) (hd : (x == ("__debug__" : Str)) = false) (h : T.accStr m ps = some s) : evE T (n + 1) sc σ (.Call (.Name f fp) [.Name x p] [] q) = some (.str s) :=
  to_gd rfl (to_bnd hg (to_bnd (accOf_name hx hd) (to_mpd h)))
theorem evE_acclen {f x : Str} {fp p q : Pos} {m k : Int} {ps : List (Str × Str)} (hg : glF T sc (.Name f fp) = some .len) (hx : σ.lookup x = some (.acc m ps)) (hd : (x == ("__debug__" : Str)) = false) (h : T.accLen m ps = some k) : evE T (n + 1) sc σ (.Call (.Name f fp) [.Name x p] [] q) = some (.int k) :=
  to_gd rfl (to_bnd hg (show (match accOf σ (.Name x p) with
    | some a => (T.accLen a.1 a.2).map D.int
    | none => op1C lenD (evE T n sc σ) [.Name x p]) = _ by rw [accOf_name hx hd]; exact to_mpd h))
theorem evs1 {ev : Expr → Option D} {a : Expr} {x : D} (ha : ev a = some x) (h1 : noStar a = true) : evs ev [a] = some [x] := to_gd h1 (to_bnd ha rfl)
theorem evs2 {ev : Expr → Option D} {a b : Expr} {x y : D} (ha : ev a = some x) (hb : ev b = some y) (h1 : noStar a = true) (h2 : noStar b = true) : evs ev [a, b] = some [x, y] := to_gd h1 (to_bnd ha (to_mpd (evs1 hb h2)))
theorem mcall_eq {o : Expr} {m : Str} {ap p2 : Pos} {es : List Expr} (hl : (ap.endLine == p2.line) = true) : mcall (.Call (.Attribute o m ap) es [] p2) = some (o, m, es) := to_gd hl rfl
theorem exS_push {x m : Str} {p ap p2 q : Pos} {e : Expr} {es : List Expr} {mg : Int} {ps ps' : List (Str × Str)} {ds : List D} {d : D} (hx : σ.lookup x = some (.acc mg ps)) (hd : (x == ("__debug__" : Str)) = false) (hl : (ap.endLine == p2.line) = true) (hn : (e :: es).length < 30) (h : evs (evE T n sc σ) (e :: es) = some ds) (hc : T.accCall m mg ps ds = some (ps', d)) :
    exS T own (n + 1) sc σ (.Expr (.Call (.Attribute (.Name x p) m ap) (e :: es) [] p2) q) = some (.next, setS x (.acc mg ps') σ) := by
  have h1 : evX T (fun σ e => evE T n sc σ e) σ (.Call (.Attribute (.Name x p) m ap) (e :: es) [] p2) = some (d, setS x (.acc mg ps') σ) :=
    to_bnd (mcall_eq hl) (to_bnd (accOf_name hx hd) (to_gd (to_dec hn) (to_bnd h (to_bnd (x := nameOf (.Name x p)) rfl (to_mpd (f := fun r => (r.2, setS x (.acc mg r.1) σ)) hc)))))
  have h2 : (σ.lookup x).bind slLst = none := to_bnd hx rfl
  exact to_bnd (mcall_eq hl) (to_bnd (x := nameOf (.Name x p)) rfl (by rw [h2]; exact to_mpd h1))
theorem exS_append {x m : Str} {p ap p2 q : Pos} {e : Expr} {ds : List D} {d : D} (hx : σ.lookup x = some (.lst ds)) (hd : (x == ("__debug__" : Str)) = false) (hl : (ap.endLine == p2.line) = true) (hm : (m == Str.ofString "append") = true) (hs : noStar e = true) (hn : ds.length ≤ 1000000) (h : evE T n sc σ e = some d) :
    exS T own (n + 1) sc σ (.Expr (.Call (.Attribute (.Name x p) m ap) [e] [] p2) q) = some (.next, setS x (.lst (ds ++ [d])) σ) := by
  have h2 : (σ.lookup x).bind slLst = some ds := to_bnd hx rfl
  exact to_bnd (mcall_eq hl) (to_bnd (x := nameOf (.Name x p)) rfl (by rw [h2]; exact to_gd (to_and (to_and hs (to_not hd)) hm) ((if_pos hn).trans (to_mpd h))))
theorem evE_list1 {e : Expr} {q : Pos} {d : D} (h : evE T n sc σ e = some d) (hs : noStar e = true) : evE T (n + 1) sc σ (.List [e] q) = some (.list [d]) := to_bnd (evs1 h hs) rfl
theorem lookup_append_left {J : St} {x : Str} {sl : Sl} : ∀ {σ : St}, σ.lookup x = some sl → (σ ++ J).lookup x = some sl
  | [], h => by simp at h
  | (y, s) :: r, h => by
    rw [List.cons_append, List.lookup_cons]
    rw [List.lookup_cons] at h
    split at h
    · exact h
    · exact lookup_append_left h
end
noncomputable def keptX : List Stmt := fBody (nthS PySem.Challenge.pw_rs0050_02.main.body 11)
noncomputable def kB0 : Stmt := nthS (loopOf (nthS keptX 5)) 0
noncomputable def kC1 : Stmt := nthS (thenOf kB0) 1
noncomputable def sgK (L : List D) (R M : Int) (O : List D) (od : D) (kept : List Nat) (m : Int) (tl : List D) (J : St) : St :=
  (Str.ofString "pages", .val (.list L)) :: (Str.ofString "room", .val (.int R)) :: (Str.ofString "margin", .val (.int M)) :: (Str.ofString "book", .val (.obj 1 O)) :: (Str.ofString "order", .val od) :: (Str.ofString "line", .acc M (psOf kept)) :: (Str.ofString "kept", .val (dL kept)) :: (Str.ofString "misses", .val (.int m)) :: (Str.ofString "told", .lst tl) :: J
noncomputable abbrev scK (P : Params) : Scope := (fdA P 174).scope
noncomputable abbrev ownK : List Str := [Str.ofString "line", Str.ofString "told"]
noncomputable abbrev goneSt (order kept rest : List Nat) : Int × Option Nat := order.foldl (allowStep (mOf (heldL kept) (rest.map (97 + ·)))) (-1, none)
theorem methV_list_index {T : Tab} {l : List D} {b : D} : methV T (Str.ofString "index") (.list l) b = indexD (.list l) b := by kernel_rfl
theorem slash_rest {rest : List Nat} (h : ∀ p ∈ rest, p < 4) : 47 ∉ rest.map (97 + ·) := fun q => by
  obtain ⟨p, _, e⟩ := List.mem_map.mp q
  omega
noncomputable def pieceF : D → D
  | .int i => .str (txt [32, 97 + i.toNat])
  | d => d
noncomputable def signF : D → D
  | .int i => .str (txt [97 + i.toNat])
  | d => d
theorem map_pieces (l : List Nat) : ((l.map nD).filter fun _ => true).map pieceF = (l.map fun p => [32, 97 + p]).map fun x => D.str (txt x) := by
  rw [List.filter_eq_self.mpr (fun _ _ => rfl), List.map_map, List.map_map]
  rfl
theorem map_signs (l : List Nat) : ((l.map nD).filter fun _ => true).map signF = (l.map fun p => [97 + p]).map fun x => D.str (txt x) := by
  rw [List.filter_eq_self.mpr (fun _ _ => rfl), List.map_map, List.map_map]
  rfl
section
variable {P : Params} {L : List D} {R M : Int} {O : List D} {od : D} {kept rest order : List Nat} {m : Int} {tl : List D} {k p : Nat}
theorem sign_ev {n : Nat} {sc : Scope} {σ : St} {T : Tab} {v e : Expr} {q : Pos} (hv : evE T n sc σ v = some (.str abcd)) (he : evE T n sc σ e = some (nD p)) (hs : notSlice e = true) (hp : p < 4) : evE T (n + 1) sc σ (.Subscript v e q) = some (.str (txt [97 + p])) :=
  evE_sub (.str abcd) (nD p) hv he (item_abcd hp) hs
theorem kept_tail (hl : kept.length ≤ 3) (h4 : ∀ q ∈ kept, q < 4) (ht : tl.length ≤ 1000) : exL (exS (T2 P) ownK 19 (scK P)) [nthS (loopOf (nthS keptX 5)) 1, nthS (loopOf (nthS keptX 5)) 2] (sgK L R M O od kept m tl [(Str.ofString "k", .val (nD k))]) =
    some (.next, sgK L R M O od kept m (tl ++ [.tup [.int m, dL kept]]) [(Str.ofString "k", .val (nD k))]) := by
  refine exL_next _ (exS_if false (evT_cmp (.str (txt (heldL kept))) (.str (txt (heldL kept))) (evE_accstr (m := M) (by kernel_rfl) (by kernel_rfl) (by kernel_rfl) (accStr_val hl)) ?_ ?_ (by kernel_rfl)) rfl) (exL_next _ (exS_append (ds := tl) (d := .tup [.int m, dL kept]) (by kernel_rfl) (by kernel_rfl) (by kernel_rfl) (by kernel_rfl) (by kernel_rfl) (by omega) (by kernel_rfl)) ?_)
  · refine evE_meth (.str (txt [])) (.list ((kept.map fun p => [32, 97 + p]).map fun x => D.str (txt x))) (by kernel_rfl) ?_ (methV_join.trans (join_D ?_ (by simp; omega))) (by kernel_rfl) (by kernel_rfl) (by kernel_rfl)
    · refine (evE_comp (its := kept.map nD) (fun _ => true) pieceF (by kernel_rfl) (by kernel_rfl) (by kernel_rfl) (fun d _ => rfl) (fun d hd _ => ?_) (by simp; omega)).trans (by rw [map_pieces])
      obtain ⟨q, hq, rfl⟩ := List.mem_map.mp hd
      exact evE_bin (.str (txt [32])) (.str (txt [97 + q])) (by kernel_rfl) (sign_ev (by kernel_rfl) (by kernel_rfl) (by kernel_rfl) (h4 q hq)) (bin_str (by simp))
    · rw [show (kept.map fun p => [32, 97 + p]).flatten = heldL kept from rfl, held_len]; omega
  · exact ne_self_str
  · kernel_rfl
theorem lens_ps : ∀ kept : List Nat, ((psOf kept).map fun c => c.1.length + c.2.length).sum = 2 * kept.length
  | [] => rfl
  | a :: l => by
    have : psOf (a :: l) = (txt [32], txt [97 + a]) :: psOf l := rfl
    rw [this, List.map_cons, List.sum_cons, lens_ps l, List.length_cons]
    simp only [txt_length, List.length_cons, List.length_nil]
    omega
theorem kept_test (hl : kept.length ≤ 3) (hp : p < 4) (hL : L[k]? = some (nD p)) (hLn : L.length ≤ 1000) :
    evT (evE (T2 P) 18 (scK P) (sgK L R M O od kept m tl [(Str.ofString "k", .val (nD k))])) 8 (testOf kB0) = some (!decide (p ∈ kept)) := by
  refine evT_cmp (.str (txt [97 + p])) (.str (txt (heldL kept))) (sign_ev (by kernel_rfl) (evE_sub (.list L) (nD k) (by kernel_rfl) (by kernel_rfl) (item_at hL hLn) (by kernel_rfl)) (by kernel_rfl) hp) (evE_accstr (m := M) (by kernel_rfl) (by kernel_rfl) (by kernel_rfl) (accStr_val hl)) ?_ (by kernel_rfl)
  show (inD (.str (txt [97 + p])) (.str (txt (heldL kept)))).map not = _
  rw [in_char, decide_eq_decide.mpr (mem_held hp kept)]; rfl
theorem kept_take (hl : kept.length ≤ 2) (hp : p < 4) (hL : L[k]? = some (nD p)) (hLn : L.length ≤ 1000) (J : St) :
    exL (exS (T2 P) ownK 18 (scK P)) [nthS (thenOf kB0) 2, nthS (thenOf kB0) 3] (sgK L R M O od kept m tl ((Str.ofString "k", .val (nD k)) :: J)) = some (.next, sgK L R M O od (kept ++ [p]) m tl ((Str.ofString "k", .val (nD k)) :: J)) := by
  have hpush : (T2 P).accCall (Str.ofString "push") M (psOf kept) [.str (txt [32]), .str (txt [97 + p])] = some (psOf (kept ++ [p]), .none) := by
    have e : (T2 P).accCall (Str.ofString "push") M (psOf kept) [.str (txt [32]), .str (txt [97 + p])] = if (psOf kept).length ≤ 2 then some (psOf kept ++ [(txt [32], txt [97 + p])], .none) else none := by kernel_rfl
    rw [e, if_pos (by rw [psOf, List.length_map]; exact hl), psOf, psOf, List.map_append]; rfl
  refine exL_next (σ1 := setS (Str.ofString "line") (.acc M (psOf (kept ++ [p]))) (sgK L R M O od kept m tl ((Str.ofString "k", .val (nD k)) :: J))) (exS_push (mg := M) (ps := psOf kept) (by kernel_rfl) (by kernel_rfl) (by kernel_rfl) (show 2 < 30 by decide) (evs2 (by kernel_rfl) (sign_ev (by kernel_rfl) (evE_sub (.list L) (nD k) (by kernel_rfl) (by kernel_rfl) (item_at hL hLn) (by kernel_rfl)) (by kernel_rfl) hp) (by kernel_rfl) (by kernel_rfl)) hpush) ?_
  refine exL_next _ (exS_assign (dL (kept ++ [p])) (evE_bin (dL kept) (dL [p]) (by kernel_rfl) (evE_list1 (evE_sub (.list L) (nD k) (by kernel_rfl) (by kernel_rfl) (item_at hL hLn) (by kernel_rfl)) (by kernel_rfl)) ?_) (by kernel_rfl) (by kernel_rfl) (by kernel_rfl) (by kernel_rfl)) (by kernel_rfl)
  show (if (kept.map nD).length + ([p].map nD).length ≤ sizeLine then some (D.list (kept.map nD ++ [p].map nD)) else none) = _
  rw [if_pos (by rw [List.length_map]; exact Nat.le_trans (Nat.add_le_add_right hl 1) (by decide))]
  show some (D.list (kept.map nD ++ [p].map nD)) = some (D.list ((kept ++ [p]).map nD))
  rw [List.map_append]
end
end Mine

end

section
open PySem PySem.W PyProof.Rows PySem.Calls
set_option maxRecDepth 100000
set_option linter.unusedVariables false
set_option maxHeartbeats 4000000
namespace Mine
theorem evI_sub {T : Tab} {n : Nat} {sc : Scope} {σ : St} {v s : Expr} {q : Pos} {l : List D} (h : evE T n sc σ (.Subscript v s q) = some (.list l)) : evI T sc (evE T n sc σ) σ (.Subscript v s q) = some l := to_bnd h rfl
theorem notin_list (g : Nat) (l : List Nat) : cmpB .NotIn (nD g) (dL l) = some (!decide (g ∈ l)) := by
  show (inD (nD g) (dL l)).map not = _
  rw [in_list]; rfl
theorem testsD_one {tv : St → Expr → Option Bool} {e : Expr} {σ : St} {c : Bool} (h : tv σ e = some c) : testsD tv [e] σ = some c := to_bnd h (by cases c <;> rfl)
noncomputable def neverT (kept rest : List Nat) : D → Bool
  | .int i => decide (i.toNat ∈ kept) && !decide (i.toNat ∈ rest)
  | _ => false
noncomputable def nzT : D → Bool
  | .int i => i != 0
  | _ => false
noncomputable def neverL (order kept rest : List Nat) : List Nat := order.filter fun q => decide (q ∈ kept) && !decide (q ∈ rest)
theorem map_never (order kept rest : List Nat) : ((order.map nD).filter (neverT kept rest)).map id = (neverL order kept rest).map nD := by
  rw [List.map_id, List.filter_map]
  rfl
theorem map_nz (l : List Nat) : ((l.map nD).filter nzT).map id = (l.filter (· != 0)).map nD := by
  rw [List.map_id, List.filter_map]
  congr 1
  refine List.filter_congr fun q _ => ?_
  show ((q : Int) != 0) = (q != 0)
  rw [Bool.eq_iff_iff]
  simp
section
variable {P : Params} {L : List D} {R M : Int} {O : List D} {od : D} {kept rest order : List Nat} {m : Int} {tl : List D} {k p g : Nat}
theorem slice_ev {T : Tab} {n : Nat} {sc : Scope} {σ : St} {v : Expr} {lo : Option Expr} {q q2 : Pos} (hv : evE T n sc σ v = some (.list L)) (hlo : evPart (evE T n sc σ) lo = some (nD (k + 1))) (hr : L.drop (k + 1) = rest.map nD) (hLn : L.length ≤ 1000) :
    evE T (n + 1) sc σ (.Subscript v (.Slice lo none none q) q2) = some (dL rest) :=
  evE_slice (.list L) (nD (k + 1)) .none .none hv hlo rfl rfl (by rw [slice_from hLn, hr])
theorem kept_gone (hl : kept.length ≤ 3) (h4 : ∀ q ∈ kept, q < 4) (hr4 : ∀ q ∈ rest, q < 4) (ho4 : ∀ q ∈ order, q < 4) (hrl : rest.length ≤ 100) (hol : order.length ≤ 100) (hr : L.drop (k + 1) = rest.map nD) (hLn : L.length ≤ 1000)
    (hg : (goneSt order kept rest).2 = some g) (hgk : g ∈ kept) (hn : neverL order kept rest ≠ [] → (((neverL order kept rest).filter (· != 0)) ++ [0])[0]? = some g) :
    exL (exS (T2 P) ownK 17 (scK P)) [nthS (thenOf kC1) 0, nthS (thenOf kC1) 1, nthS (thenOf kC1) 2, nthS (thenOf kC1) 3, nthS (thenOf kC1) 4, nthS (thenOf kC1) 5, nthS (thenOf kC1) 6, nthS (thenOf kC1) 7] (sgK L R M (order.map nD) (dL order) kept m tl [(Str.ofString "k", .val (nD k))]) =
      exL (exS (T2 P) ownK 17 (scK P)) [nthS (thenOf kC1) 6, nthS (thenOf kC1) 7] (sgK L R M (order.map nD) (dL order) kept m tl [(Str.ofString "k", .val (nD k)), (Str.ofString "rest", .val (.str (txt (rest.map (97 + ·))))), (Str.ofString "gone", .val (nD g)), (Str.ofString "never", .val (dL (neverL order kept rest))), (Str.ofString "place", .val (nD (kept.idxOf g)))]) := by
  have hmeth : (T2 P).meth 1 (order.map nD) (Str.ofString "allowance") [.str (txt (heldL kept ++ 47 :: rest.map (97 + ·)))] = some (nD g) := by
    have e : (T2 P).meth 1 (order.map nD) (Str.ofString "allowance") [.str (txt (heldL kept ++ 47 :: rest.map (97 + ·)))] = allowV P [.obj 1 (order.map nD), .str (txt (heldL kept ++ 47 :: rest.map (97 + ·)))] := by kernel_rfl
    rw [e, allow_val ho4 (slash_held kept h4) (slash_rest hr4) (by rw [held_len, List.length_map]; omega)]
    show some (toA (goneSt order kept rest).2) = _
    rw [hg]; rfl
  -- rest
  refine exL_next _ (exS_assign (.str (txt (rest.map (97 + ·)))) (evE_meth (.str (txt [])) (.list ((rest.map fun p => [97 + p]).map fun x => D.str (txt x))) (by kernel_rfl) ?_ (methV_join.trans ((join_D (by rw [flat_one, List.length_map]; omega) (by simp; omega)).trans (by rw [flat_one]))) (by kernel_rfl) (by kernel_rfl) (by kernel_rfl)) (by kernel_rfl) (by kernel_rfl) (by kernel_rfl) (by kernel_rfl)) ?_
  · refine (evE_comp (its := rest.map nD) (fun _ => true) signF (by kernel_rfl) (by kernel_rfl) (evI_sub (slice_ev (by kernel_rfl) (by kernel_rfl) hr hLn)) (fun d _ => rfl) (fun d hd _ => ?_) (by simp; omega)).trans (by rw [map_signs])
    obtain ⟨q, hq, rfl⟩ := List.mem_map.mp hd
    exact sign_ev (by kernel_rfl) (by kernel_rfl) (by kernel_rfl) (hr4 q hq)
  -- gone
  refine exL_next _ (exS_assign (nD g) (evE_meth (.obj 1 (order.map nD)) (.str (txt (heldL kept ++ 47 :: rest.map (97 + ·)))) (by kernel_rfl) (evE_bin (.str (txt (heldL kept ++ [47]))) (.str (txt (rest.map (97 + ·)))) (evE_bin (.str (txt (heldL kept))) (.str (txt [47])) (evE_accstr (m := M) (by kernel_rfl) (by kernel_rfl) (by kernel_rfl) (accStr_val hl)) (by kernel_rfl) (bin_str (by rw [held_len]; simp; omega))) (by kernel_rfl) ((bin_str (by rw [List.length_append, held_len]; simp; omega)).trans (by simp))) (methV_obj.trans hmeth) (by kernel_rfl) (by kernel_rfl) (by kernel_rfl)) (by kernel_rfl) (by kernel_rfl) (by kernel_rfl) (by kernel_rfl)) ?_
  -- is it one of the kept?
  refine exL_next _ (exS_if false (evT_or false (evT_val (.bool false) (by kernel_rfl) (by kernel_rfl) rfl) (fun _ => evT_cmp (nD g) (dL kept) (by kernel_rfl) (by kernel_rfl) ((notin_list g kept).trans (by rw [decide_eq_true hgk]; rfl)) (by kernel_rfl)) (fun h => nomatch h)) rfl) ?_
  -- never
  refine exL_next _ (exS_assign_comp (dL (neverL order kept rest)) ((evE_comp (its := order.map nD) (neverT kept rest) id (by kernel_rfl) (by kernel_rfl) (by kernel_rfl) (fun d hd => ?_) (fun d hd _ => ?_) (by simp; omega)).trans (by rw [map_never])) (by kernel_rfl) (by kernel_rfl)) ?_
  · obtain ⟨q, hq, rfl⟩ := List.mem_map.mp hd
    refine testsD_one (evT_and (decide (q ∈ kept)) (evT_cmp (nD q) (dL kept) (by kernel_rfl) (by kernel_rfl) (in_list q kept) (by kernel_rfl)) (fun hq2 => evT_cmp (nD q) (dL rest) (by kernel_rfl) (slice_ev (by kernel_rfl) (by kernel_rfl) hr hLn) ?_ (by kernel_rfl)) (fun hq2 => ?_))
    · rw [notin_list]
      show _ = some (decide (q ∈ kept) && !decide (q ∈ rest))
      rw [hq2, Bool.true_and]
    · show (decide (q ∈ kept) && _) = false
      rw [hq2, Bool.false_and]
  · obtain ⟨q, hq, rfl⟩ := List.mem_map.mp hd
    kernel_rfl
  -- the first of them
  refine exL_next _ (exS_if false (evT_and (!((neverL order kept rest).map nD).isEmpty) (evT_val (dL (neverL order kept rest)) (by kernel_rfl) (by kernel_rfl) ?_) (fun hne => evT_cmp (nD g) (nD g) (by kernel_rfl) (evE_sub (dL (((neverL order kept rest).filter (· != 0)) ++ [0])) (nD 0) (evE_bin (dL ((neverL order kept rest).filter (· != 0))) (dL [0]) ((evE_comp (its := (neverL order kept rest).map nD) nzT id (by kernel_rfl) (by kernel_rfl) (by kernel_rfl) (fun d hd => ?_) (fun d hd _ => ?_) ?_).trans (by rw [map_nz])) (by kernel_rfl) ?_) (by kernel_rfl) (item_at ?_ ?_) (by kernel_rfl)) ne_self_int (by kernel_rfl)) (fun _ => rfl)) rfl) ?_
  have nl : (neverL order kept rest).length ≤ 100 := Nat.le_trans (List.length_filter_le _ _) hol
  have fl : ((neverL order kept rest).filter (· != 0)).length ≤ 100 := Nat.le_trans (List.length_filter_le _ _) nl
  · show (if ((neverL order kept rest).map nD).length ≤ sizeLine then some (!((neverL order kept rest).map nD).isEmpty) else none) = _
    rw [if_pos (by rw [List.length_map]; simp only [sizeLine]; omega)]
  · obtain ⟨q, hq, rfl⟩ := List.mem_map.mp hd
    exact testsD_one (evT_val (nD q) (by kernel_rfl) (by kernel_rfl) rfl)
  · obtain ⟨q, hq, rfl⟩ := List.mem_map.mp hd
    kernel_rfl
  · have : (neverL order kept rest).length ≤ 100 := Nat.le_trans (List.length_filter_le _ _) hol
    rw [List.length_map]; omega
  · have : ((neverL order kept rest).filter (· != 0)).length ≤ 100 := Nat.le_trans (List.length_filter_le _ _) (Nat.le_trans (List.length_filter_le _ _) hol)
    show (if (((neverL order kept rest).filter (· != 0)).map nD).length + ([0].map nD).length ≤ sizeLine then some (D.list (((neverL order kept rest).filter (· != 0)).map nD ++ [0].map nD)) else none) = _
    rw [if_pos (by rw [List.length_map]; simp [sizeLine]; omega)]
    show _ = some (D.list ((((neverL order kept rest).filter (· != 0)) ++ [0]).map nD))
    rw [List.map_append]
  · rw [List.getElem?_map, hn (fun e => by rw [e] at hne; simp at hne)]
    rfl
  · have : ((neverL order kept rest).filter (· != 0)).length ≤ 100 := Nat.le_trans (List.length_filter_le _ _) (Nat.le_trans (List.length_filter_le _ _) hol)
    simp; omega
  -- its place
  exact exL_next _ (exS_assign (nD (kept.idxOf g)) (evE_meth (dL kept) (nD g) (by kernel_rfl) (by kernel_rfl) (methV_list_index.trans (index_list hgk (by omega))) (by kernel_rfl) (by kernel_rfl) (by kernel_rfl)) (by kernel_rfl) (by kernel_rfl) (by kernel_rfl) (by kernel_rfl)) rfl
theorem kept_out (hl : kept.length = 2 ∨ kept.length = 3) (hd : kept.Nodup) (hgk : g ∈ kept) {rs nv : D} :
    ∃ J, exL (exS (T2 P) ownK 17 (scK P)) [nthS (thenOf kC1) 6, nthS (thenOf kC1) 7] (sgK L R M O od kept m tl [(Str.ofString "k", .val (nD k)), (Str.ofString "rest", .val rs), (Str.ofString "gone", .val (nD g)), (Str.ofString "never", .val nv), (Str.ofString "place", .val (nD (kept.idxOf g)))]) =
      some (.next, sgK L R M O od (kept.erase g) m tl ((Str.ofString "k", .val (nD k)) :: J)) := by
  have ne : ∀ {a b : Nat}, a ≠ b → (a == b) = false := fun h => by simpa using h
  rcases hl with hl | hl
  · obtain ⟨a, b, rfl⟩ : ∃ a b, kept = [a, b] := by
      rcases kept with _ | ⟨a, _ | ⟨b, _ | ⟨c, r⟩⟩⟩ <;> simp at hl
      exact ⟨a, b, rfl⟩
    simp only [List.nodup_cons, List.mem_cons, List.not_mem_nil, or_false, not_or, not_false_eq_true, and_true, List.nodup_nil] at hd hgk
    have hab := ne hd
    rcases hgk with rfl | rfl
    · have e1 : ([g, b] : List Nat).idxOf g = 0 := by simp [List.idxOf_cons, *]
      have e2 : ([g, b] : List Nat).erase g = [b] := by simp [List.erase_cons, *]
      rw [e1, e2]
      exact ⟨[(Str.ofString "rest", .val rs), (Str.ofString "gone", .val (nD g)), (Str.ofString "never", .val nv), (Str.ofString "place", .val (nD 0)), (Str.ofString "white", .val (.str (txt [32]))), (Str.ofString "part", .val (.str (txt [97 + b])))], by kernel_rfl⟩
    · have e1 : ([a, g] : List Nat).idxOf g = 1 := by simp [List.idxOf_cons, *]
      have e2 : ([a, g] : List Nat).erase g = [a] := by simp [List.erase_cons, *]
      rw [e1, e2]
      exact ⟨[(Str.ofString "rest", .val rs), (Str.ofString "gone", .val (nD g)), (Str.ofString "never", .val nv), (Str.ofString "place", .val (nD 1))], by kernel_rfl⟩
  · obtain ⟨a, b, c, rfl⟩ : ∃ a b c, kept = [a, b, c] := by
      rcases kept with _ | ⟨a, _ | ⟨b, _ | ⟨c, _ | ⟨d, r⟩⟩⟩⟩ <;> simp at hl
      exact ⟨a, b, c, rfl⟩
    simp only [List.nodup_cons, List.mem_cons, List.not_mem_nil, or_false, not_or, not_false_eq_true, and_true, List.nodup_nil] at hd hgk
    obtain ⟨⟨h1, h2⟩, h3⟩ := hd
    have hab := ne h1
    have hac := ne h2
    have hbc := ne h3
    rcases hgk with rfl | rfl | rfl
    · have e1 : ([g, b, c] : List Nat).idxOf g = 0 := by simp [List.idxOf_cons, *]
      have e2 : ([g, b, c] : List Nat).erase g = [b, c] := by simp [List.erase_cons, *]
      rw [e1, e2]
      exact ⟨[(Str.ofString "rest", .val rs), (Str.ofString "gone", .val (nD g)), (Str.ofString "never", .val nv), (Str.ofString "place", .val (nD 0)), (Str.ofString "white", .val (.str (txt [32]))), (Str.ofString "part", .val (.str (txt [97 + c])))], by kernel_rfl⟩
    · have e1 : ([a, g, c] : List Nat).idxOf g = 1 := by simp [List.idxOf_cons, *]
      have e2 : ([a, g, c] : List Nat).erase g = [a, c] := by simp [List.erase_cons, *]
      rw [e1, e2]
      exact ⟨[(Str.ofString "rest", .val rs), (Str.ofString "gone", .val (nD g)), (Str.ofString "never", .val nv), (Str.ofString "place", .val (nD 1)), (Str.ofString "white", .val (.str (txt [32]))), (Str.ofString "part", .val (.str (txt [97 + c])))], by kernel_rfl⟩
    · have e1 : ([a, b, g] : List Nat).idxOf g = 2 := by simp [List.idxOf_cons, *]
      have e2 : ([a, b, g] : List Nat).erase g = [a, b] := by simp [List.erase_cons, *]
      rw [e1, e2]
      exact ⟨[(Str.ofString "rest", .val rs), (Str.ofString "gone", .val (nD g)), (Str.ofString "never", .val nv), (Str.ofString "place", .val (nD 2))], by kernel_rfl⟩
end
end Mine

end

section
open PySem PySem.W PyProof.Rows PySem.Calls
set_option maxRecDepth 100000
set_option linter.unusedVariables false
set_option maxHeartbeats 4000000
namespace Mine
theorem kB0_eq : nthS (loopOf (nthS keptX 5)) 0 = .If (testOf kB0) [nthS (thenOf kB0) 0, .If (testOf kC1) [nthS (thenOf kC1) 0, nthS (thenOf kC1) 1, nthS (thenOf kC1) 2, nthS (thenOf kC1) 3, nthS (thenOf kC1) 4, nthS (thenOf kC1) 5, nthS (thenOf kC1) 6, nthS (thenOf kC1) 7] [] (posI kC1), nthS (thenOf kB0) 2, nthS (thenOf kB0) 3] [] (posI kB0) := by kernel_rfl
noncomputable def GoneOk (order : List Nat) : Prop := ∀ kept rest : List Nat, kept ≠ [] → (∀ q ∈ kept, q < 4) → (∀ q ∈ rest, q < 4) → ∃ g, (goneSt order kept rest).2 = some g ∧ g ∈ kept ∧ (neverL order kept rest ≠ [] → (((neverL order kept rest).filter (· != 0)) ++ [0])[0]? = some g)
noncomputable def keptNext (r : Nat) (order kept : List Nat) (p : Nat) (rest : List Nat) : List Nat :=
  if p ∈ kept then kept else (if r ≤ kept.length then kept.erase ((goneSt order kept rest).2.getD 0) else kept) ++ [p]
noncomputable def missNext (kept : List Nat) (m : Int) (p : Nat) : Int := if p ∈ kept then m else m + 1
section
variable {P : Params} {L : List D} {M : Int} {r : Nat} {kept rest order : List Nat} {m : Int} {tl : List D} {k p : Nat}
theorem kept_room (hl : kept.length ≤ 3) (hM : 0 ≤ M ∧ M ≤ 1000000) {O : List D} {od : D} :
    evT (evE (T2 P) 17 (scK P) (sgK L r M O od kept m tl [(Str.ofString "k", .val (nD k))])) 8 (testOf kC1) = some (decide (r ≤ kept.length)) := by
  have hlen : (T2 P).accLen M (psOf kept) = some (M + ((2 * kept.length : Nat) : Int)) := by
    show (if smallPs 3 (psOf kept) = true ∧ 0 ≤ M ∧ M ≤ 1000000 then some (M + (((psOf kept).map fun c => c.1.length + c.2.length).sum : Nat)) else none) = _
    rw [if_pos ⟨smallPs_ok hl, hM⟩, lens_ps]
  have e : decide (r ≤ kept.length) = decide (M + 2 * (r : Int) ≤ M + ((2 * kept.length : Nat) : Int)) := decide_eq_decide.mpr (by omega)
  rw [e]
  exact evT_cmp (.int (M + ((2 * kept.length : Nat) : Int))) (.int (M + 2 * (r : Int))) (evE_acclen (m := M) (by kernel_rfl) (by kernel_rfl) (by kernel_rfl) hlen) (by kernel_rfl) rfl (by kernel_rfl)
theorem kept_first (hr : r = 2 ∨ r = 3) (hl : kept.length ≤ r) (hM : 0 ≤ M ∧ M ≤ 1000000) (hd : kept.Nodup) (h4 : ∀ q ∈ kept, q < 4) (hp : p < 4) (hr4 : ∀ q ∈ rest, q < 4) (ho4 : ∀ q ∈ order, q < 4) (hrl : rest.length ≤ 100) (hol : order.length ≤ 100) (hL : L[k]? = some (nD p)) (hrest : L.drop (k + 1) = rest.map nD) (hLn : L.length ≤ 1000) (hG : GoneOk order) :
    ∃ J, exS (T2 P) ownK 19 (scK P) (sgK L r M (order.map nD) (dL order) kept m tl [(Str.ofString "k", .val (nD k))]) (nthS (loopOf (nthS keptX 5)) 0) = some (.next, sgK L r M (order.map nD) (dL order) (keptNext r order kept p rest) (missNext kept m p) tl ((Str.ofString "k", .val (nD k)) :: J)) := by
  have htest := kept_test (P := P) (R := r) (M := M) (O := order.map nD) (od := dL order) (m := m) (tl := tl) (kept := kept) (k := k) (show kept.length ≤ 3 by omega) hp hL hLn
  rw [kB0_eq]
  unfold keptNext missNext
  by_cases hpk : p ∈ kept
  · rw [if_pos hpk, if_pos hpk]
    refine ⟨[], exS_if false ?_ rfl⟩
    rw [htest, decide_eq_true hpk]; rfl
  · rw [if_neg hpk, if_neg hpk]
    have ht : evT (evE (T2 P) 18 (scK P) (sgK L r M (order.map nD) (dL order) kept m tl [(Str.ofString "k", .val (nD k))])) 8 (testOf kB0) = some true := by rw [htest, decide_eq_false hpk]; rfl
    have hroom := kept_room (P := P) (L := L) (r := r) (m := m + 1) (tl := tl) (k := k) (O := order.map nD) (od := dL order) (show kept.length ≤ 3 by omega) hM
    by_cases hf : r ≤ kept.length
    · have hk0 : kept ≠ [] := fun e => by rw [e] at hf; simp at hf; omega
      obtain ⟨g, hg, hgk, hn⟩ := hG kept rest hk0 h4 hr4
      have e1 := kept_gone (P := P) (L := L) (R := r) (M := M) (m := m + 1) (tl := tl) (k := k) (show kept.length ≤ 3 by omega) h4 hr4 ho4 hrl hol hrest hLn hg hgk hn
      obtain ⟨J, e2⟩ := kept_out (P := P) (L := L) (R := r) (M := M) (O := order.map nD) (od := dL order) (m := m + 1) (tl := tl) (k := k) (rs := .str (txt (rest.map (97 + ·)))) (nv := dL (neverL order kept rest)) (show kept.length = 2 ∨ kept.length = 3 by omega) hd hgk
      have hle : (kept.erase g).length ≤ 2 := by rw [List.length_erase_of_mem hgk]; omega
      have e3 := kept_take (P := P) (L := L) (R := r) (M := M) (O := order.map nD) (od := dL order) (m := m + 1) (tl := tl) (k := k) hle hp hL hLn J
      refine ⟨J, exS_if true ht (exL_next (sgK L r M (order.map nD) (dL order) kept (m + 1) tl [(Str.ofString "k", .val (nD k))]) (by kernel_rfl) (exL_next _ (exS_if true (hroom.trans (by rw [decide_eq_true hf])) (e1.trans e2)) ?_))⟩
      rw [if_pos hf, hg]
      exact e3
    · have e3 := kept_take (P := P) (L := L) (R := r) (M := M) (O := order.map nD) (od := dL order) (m := m + 1) (tl := tl) (k := k) (show kept.length ≤ 2 by omega) hp hL hLn []
      refine ⟨[], exS_if true ht (exL_next (sgK L r M (order.map nD) (dL order) kept (m + 1) tl [(Str.ofString "k", .val (nD k))]) (by kernel_rfl) (exL_next _ (exS_if false (hroom.trans (by rw [decide_eq_false hf])) rfl) ?_))⟩
      rw [if_neg hf]
      exact e3
theorem keptNext_ok (hr : r = 2 ∨ r = 3) (hl : kept.length ≤ r) (hd : kept.Nodup) (h4 : ∀ q ∈ kept, q < 4) (hp : p < 4) (hr4 : ∀ q ∈ rest, q < 4) (hG : GoneOk order) : (keptNext r order kept p rest).length ≤ r ∧ (keptNext r order kept p rest).Nodup ∧ ∀ q ∈ keptNext r order kept p rest, q < 4 := by
  unfold keptNext
  by_cases hpk : p ∈ kept
  · rw [if_pos hpk]; exact ⟨hl, hd, h4⟩
  · rw [if_neg hpk]
    have app : ∀ l : List Nat, l.Nodup → (∀ q ∈ l, q ∈ kept) → (l ++ [p]).Nodup ∧ ∀ q ∈ l ++ [p], q < 4 := fun l hn hs => ⟨List.nodup_append.mpr ⟨hn, by simp, fun a ha b hb e => by
      rw [List.mem_singleton.mp hb] at e
      exact hpk (e ▸ hs a ha)⟩, fun q hq => by
      rcases List.mem_append.mp hq with hq | hq
      · exact h4 q (hs q hq)
      · rw [List.mem_singleton.mp hq]; exact hp⟩
    by_cases hf : r ≤ kept.length
    · rw [if_pos hf]
      have hk0 : kept ≠ [] := fun e => by rw [e] at hf; simp at hf; omega
      obtain ⟨g, hg, hgk, hn⟩ := hG kept rest hk0 h4 hr4
      rw [hg]
      refine ⟨?_, app _ (hd.erase _) fun q hq => List.mem_of_mem_erase hq⟩
      show (kept.erase g ++ [p]).length ≤ r
      rw [List.length_append, List.length_erase_of_mem hgk]
      have := List.length_pos_of_mem hgk
      simp; omega
    · rw [if_neg hf]
      refine ⟨?_, app _ hd fun q hq => hq⟩
      rw [List.length_append]; simp; omega
end
end Mine

end

section
open PySem PySem.W PyProof.Rows PySem.Calls
set_option maxRecDepth 100000
set_option linter.unusedVariables false
set_option maxHeartbeats 4000000
namespace Mine
section
variable {T : Tab} {n : Nat} {sc : Scope} {σ σ1 σ' : St} {own : List Str}
theorem evI_range {f : Str} {fp q : Pos} {a : Expr} {k : Nat} (hg : glF T sc (.Name f fp) = some .range) (hs : noStar a = true) (ha : evE T n sc σ a = some (nD k)) (hk : k ≤ 1000) : evI T sc (evE T n sc σ) σ (.Call (.Name f fp) [a] [] q) = some ((List.range k).map nD) := by
  have hsm : small (k : Int) = true := to_dec (by omega)
  have hm : rangeL 0 (k : Int) = (List.range k).map nD := by
    unfold rangeL
    rw [Int.sub_zero, Int.toNat_natCast]
    exact List.map_congr_left fun i _ => congrArg D.int (Int.zero_add _)
  show (bif isRng (glF T sc (.Name f fp)) && true then rngD (evE T n sc σ) [a] else _) = _
  rw [hg]
  exact to_bnd (evs1 ha hs) (to_bnd (x := asInts [nD k]) rfl (to_bnd (x := rngOf [(k : Int)]) rfl (to_gd (to_and (show small 0 = true from rfl) hsm) (congrArg some hm))))
theorem gd_none {α : Type} {b : Bool} : gd b (none : Option α) = none := by cases b <;> rfl
theorem evE_len {f x : Str} {fp p q : Pos} {l : List D} (hg : glF T sc (.Name f fp) = some .len) (hx : σ.lookup x = some (.val (.list l))) (he : evE T n sc σ (.Name x p) = some (.list l)) (hl : l.length ≤ 1000) : evE T (n + 1) sc σ (.Call (.Name f fp) [.Name x p] [] q) = some (nD l.length) := by
  have hacc : accOf σ (.Name x p) = none := by
    show gd _ ((σ.lookup x).bind slAcc) = none
    rw [hx]; exact gd_none
  exact to_gd rfl (to_bnd hg (show (match accOf σ (.Name x p) with
    | some a => (T.accLen a.1 a.2).map D.int
    | none => op1C lenD (evE T n sc σ) [.Name x p]) = _ by rw [hacc]; exact to_gd rfl (to_bnd he (if_pos (Nat.le_trans hl (by decide))))))
end
structure KS where
  kept : List Nat
  m : Int
  tl : List D
  k : Nat
noncomputable def unN : D → Nat
  | .int i => i.toNat
  | _ => 0
theorem map_unN (l : List Nat) : (l.map nD).map unN = l := by
  rw [List.map_map]
  exact List.map_id _
noncomputable def encK (pages : List Nat) (r : Nat) (M : Int) (order : List Nat) (s : KS) : St := sgK (pages.map nD) r M (order.map nD) (dL order) s.kept s.m s.tl [(Str.ofString "k", .val (nD s.k))]
noncomputable def decK (σ : St) : KS := ⟨match σ.lookup (Str.ofString "kept") with | some (.val (.list l)) => l.map unN | _ => [], match σ.lookup (Str.ofString "misses") with | some (.val (.int m)) => m | _ => 0, match σ.lookup (Str.ofString "told") with | some (.lst l) => l | _ => [], match σ.lookup (Str.ofString "k") with | some (.val d) => unN d | _ => 0⟩
theorem dec_enc (pages : List Nat) (r : Nat) (M : Int) (order : List Nat) (s : KS) : decK (encK pages r M order s) = s := by
  have e : decK (encK pages r M order s) = ⟨(s.kept.map nD).map unN, s.m, s.tl, s.k⟩ := by kernel_rfl
  rw [e, map_unN]
noncomputable def okK (pages : List Nat) (r : Nat) (s : KS) : Prop := s.kept.length ≤ r ∧ s.kept.Nodup ∧ (∀ q ∈ s.kept, q < 4) ∧ s.tl.length ≤ 900 ∧ s.k < pages.length
noncomputable def nextK (pages : List Nat) (r : Nat) (order : List Nat) (s : KS) : KS :=
  ⟨keptNext r order s.kept (pages.getD s.k 0) (pages.drop (s.k + 1)), missNext s.kept s.m (pages.getD s.k 0), s.tl ++ [.tup [.int (missNext s.kept s.m (pages.getD s.k 0)), dL (keptNext r order s.kept (pages.getD s.k 0) (pages.drop (s.k + 1)))]], s.k⟩
open Classical in
noncomputable def stepK (pages : List Nat) (r : Nat) (M : Int) (order : List Nat) (σ : St) : Option (FlD × St) :=
  if σ = encK pages r M order (decK σ) ∧ okK pages r (decK σ) then some (.next, encK pages r M order (nextK pages r order (decK σ))) else none
noncomputable def keptRun (r : Nat) (order : List Nat) : List Nat → List Nat → Int → List (Int × List Nat)
  | [], _, _ => []
  | p :: rest, kept, m => (missNext kept m p, keptNext r order kept p rest) :: keptRun r order rest (keptNext r order kept p rest) (missNext kept m p)
noncomputable def toldD (l : List (Int × List Nat)) : List D := l.map fun x => .tup [.int x.1, dL x.2]
theorem drop_cons {pages : List Nat} {k p : Nat} {rest : List Nat} (h : pages.drop k = p :: rest) : pages[k]? = some p ∧ pages.drop (k + 1) = rest ∧ k < pages.length := by
  have h1 : pages[k]? = some p := by
    have : (pages.drop k)[0]? = some p := by rw [h]; rfl
    rw [List.getElem?_drop] at this; simpa using this
  refine ⟨h1, ?_, (List.getElem?_eq_some_iff.mp h1).1⟩
  rw [← List.tail_drop, h]; rfl
section
variable {pages order : List Nat} {r : Nat} {M : Int}
theorem kept_loop (hr : r = 2 ∨ r = 3) (hG : GoneOk order) (hp4 : ∀ q ∈ pages, q < 4) (hpl : pages.length ≤ 100) {px : Pos} : ∀ (ps : List Nat) (k : Nat) (kept : List Nat) (m : Int) (tl : List D) (J : St), pages.drop k = ps → kept.length ≤ r → kept.Nodup → (∀ q ∈ kept, q < 4) → tl.length = k → (J = [] ∨ ∃ v, J = [(Str.ofString "k", .val (nD v))]) →
    ∃ σ', forD (stepK pages r M order) (.Name (Str.ofString "k") px) ((List.range' k ps.length).map nD) (sgK (pages.map nD) r M (order.map nD) (dL order) kept m tl J) = some (.next, σ') ∧ σ'.lookup (Str.ofString "told") = some (.lst (tl ++ toldD (keptRun r order ps kept m)))
  | [], k, kept, m, tl, J, _, _, _, _, _, hJ => ⟨_, rfl, by
    show some (Sl.lst tl) = _
    simp [keptRun, toldD]⟩
  | p :: rest, k, kept, m, tl, J, hd, hl, hn, h4, ht, hJ => by
    obtain ⟨hp, hrest, hk⟩ := drop_cons hd
    have hg : pages.getD k 0 = p := by simp [List.getD, hp]
    have hpm : p < 4 := hp4 p (List.mem_of_getElem? hp)
    have hr4 : ∀ q ∈ rest, q < 4 := fun q hq => hp4 q (by rw [← hrest] at hq; exact List.mem_of_mem_drop hq)
    obtain ⟨n1, n2, n3⟩ := keptNext_ok hr hl hn h4 hpm hr4 hG
    have hset : setS (Str.ofString "k") (.val (nD k)) (sgK (pages.map nD) r M (order.map nD) (dL order) kept m tl J) = encK pages r M order ⟨kept, m, tl, k⟩ := by
      rcases hJ with rfl | ⟨v, rfl⟩ <;> kernel_rfl
    have hstep : stepK pages r M order (encK pages r M order ⟨kept, m, tl, k⟩) = some (.next, encK pages r M order (nextK pages r order ⟨kept, m, tl, k⟩)) := by
      unfold stepK
      rw [dec_enc, if_pos ⟨rfl, hl, hn, h4, by show tl.length ≤ 900; omega, hk⟩]
    obtain ⟨σ', e1, e2⟩ := kept_loop hr hG hp4 hpl (px := px) rest (k + 1) (keptNext r order kept p rest) (missNext kept m p) (tl ++ [.tup [.int (missNext kept m p), dL (keptNext r order kept p rest)]]) [(Str.ofString "k", .val (nD k))] hrest n1 n2 n3 (by simp [ht]) (.inr ⟨k, rfl⟩)
    refine ⟨σ', ?_, ?_⟩
    · rw [List.length_cons, List.range'_succ, List.map_cons]
      have : encK pages r M order (nextK pages r order ⟨kept, m, tl, k⟩) = sgK (pages.map nD) r M (order.map nD) (dL order) (keptNext r order kept p rest) (missNext kept m p) (tl ++ [.tup [.int (missNext kept m p), dL (keptNext r order kept p rest)]]) [(Str.ofString "k", .val (nD k))] := by
        unfold encK nextK
        simp only [hg, hrest]
      exact to_bnd (congrArg some hset) (to_bnd hstep (this ▸ e1))
    · rw [e2]
      simp [keptRun, toldD]
end
section
variable {w : World} {g : Heap} {G : Gd w g} {A : Around} {Y : Addr → Prop} {pages order : List Nat} {r : Nat} {M : Int}
theorem kept_hstep {env : Env} (hA : Ro A) (hf : Fm env) (hT : TabOk (CR G) A (T2 w.params)) (hsc : env.scope = scK w.params) (hr : r = 2 ∨ r = 3) (hM : 0 ≤ M ∧ M ≤ 1000000) (hG : GoneOk order) (hp4 : ∀ q ∈ pages, q < 4) (hpl : pages.length ≤ 100) (ho4 : ∀ q ∈ order, q < 4) (hol : order.length ≤ 100) :
    ∀ σ f σ', stepK pages r M order σ = some (f, σ') → Stm (CR G) A env σ (execs (loopOf (nthS keptX 5)) env) f σ' := fun σ f σ' h => by
  unfold stepK at h
  split at h
  case isFalse => cases h
  rename_i hc
  cases h
  obtain ⟨he, hok⟩ := hc
  generalize decK σ = s at he hok
  subst he
  obtain ⟨kept, m, tl, k⟩ := s
  obtain ⟨hl, hn, h4, htl, hk⟩ := hok
  simp only at hl hn h4 htl hk
  have hp : pages[k]? = some (pages.getD k 0) := by simp [List.getD, List.getElem?_eq_getElem hk]
  have hpm : pages.getD k 0 < 4 := hp4 _ (List.mem_of_getElem? hp)
  have hr4 : ∀ q ∈ pages.drop (k + 1), q < 4 := fun q hq => hp4 q (List.mem_of_mem_drop hq)
  obtain ⟨n1, n2, n3⟩ := keptNext_ok hr hl hn h4 hpm hr4 hG
  obtain ⟨J, e1⟩ := kept_first (P := w.params) (L := pages.map nD) (M := M) (m := m) (tl := tl) (k := k) hr hl hM hn h4 hpm hr4 ho4 (by rw [List.length_drop]; omega) hol (by rw [List.getElem?_map, hp]; rfl) (by rw [List.map_drop]) (by rw [List.length_map]; omega) hG
  have hb : loopOf (nthS keptX 5) = nthS (loopOf (nthS keptX 5)) 0 :: [nthS (loopOf (nthS keptX 5)) 1, nthS (loopOf (nthS keptX 5)) 2] := by kernel_rfl
  rw [hb]
  have s1 := (exS_sound hA hf hT hsc ownK 19 _ _ _ _ e1).sub (σ' := sgK (pages.map nD) r M (order.map nD) (dL order) (keptNext r order kept (pages.getD k 0) (pages.drop (k + 1))) (missNext kept m (pages.getD k 0)) tl [(Str.ofString "k", .val (nD k))]) (fun x sl hx => lookup_append_left (J := J) hx)
  exact stm_cons_next s1 (exL_ok (fun σ st f σ' => exS_sound hA hf hT hsc ownK 19 σ st f σ') (kept_tail (P := w.params) (by omega) n3 (by omega)))
end
end Mine

end

section
open PySem PySem.W PyProof.Rows PySem.Calls
set_option maxRecDepth 100000
set_option linter.unusedVariables false
set_option maxHeartbeats 4000000
namespace Mine
theorem slash_txt : (Str.ofString "/" : Str) = txt ([] ++ 47 :: []) := by decide
theorem allow_empty {P : Params} {order : List Nat} (ho4 : ∀ q ∈ order, q < 4) : (T2 P).meth 1 (order.map nD) (Str.ofString "allowance") [.str (Str.ofString "/")] = some (.bool true) := by
  have e : (T2 P).meth 1 (order.map nD) (Str.ofString "allowance") [.str (Str.ofString "/")] = allowV P [.obj 1 (order.map nD), .str (Str.ofString "/")] := by kernel_rfl
  rw [e, slash_txt, allow_val ho4 (by simp) (by simp) (by simp)]
  have : ∀ (l : List Nat), l.foldl (allowStep (mOf [] [])) (-1, none) = (-1, none) := fun l => by
    induction l with
    | nil => rfl
    | cons a l ih =>
      rw [List.foldl_cons]
      have : allowStep (mOf [] []) (-1, none) a = (-1, none) := by unfold allowStep mOf; simp
      rw [this, ih]
  rw [this]; rfl
noncomputable def sPages : List Str := [Str.ofString "pages", Str.ofString "room", Str.ofString "margin", Str.ofString "book", Str.ofString "order"]
section
variable {w : World} {g : Heap} {G : Gd w g} {A : Around} {Y : Addr → Prop} {pages order : List Nat} {r : Nat} {M : Int}
theorem kept_run (h0 : A.handled = none) (hd : A.depth ≤ 335) (hu : A.units ≤ 350) (hr : r = 2 ∨ r = 3) (hM : 0 ≤ M ∧ M ≤ 1000000) (hG : GoneOk order) (hp4 : ∀ q ∈ pages, q < 4) (hpl : pages.length ≤ 100) (ho4 : ∀ q ∈ order, q < 4) (hol : order.length ≤ 100)
    {s : Shared} {vs : List Value} (b : Bs (CR G) Y s) (hv : RepL (CR G) Y s.heap vs [dL pages, .int r, .int M, .obj 1 (order.map nD), dL order]) :
    wpAny (CR G).M A (call (.ref 174) vs) (fun v s' => Kp (CR G) s s' ∧ Rep (CR G) Y s'.heap v (.list (toldD (keptRun r order pages [] 0)))) (fun _ _ => False) s := by
  obtain ⟨o, ok⟩ : ∃ o, DefOk (CR G) 174 o (fdA w.params 174) (bodyA w.params 174) sPages := by
    refine defOk_of (by kernel_rfl) (by kernel_rfl) (by kernel_rfl) (fun vs h => ?_) (by decide) (by kernel_rfl) (by kernel_rfl) (by kernel_rfl) (by kernel_rfl) (by kernel_rfl) (by kernel_rfl) (by kernel_rfl) (by kernel_rfl)
    rcases vs with _ | ⟨v, _ | ⟨v', _ | ⟨v2, _ | ⟨v3, _ | ⟨v4, _ | ⟨v5, r⟩⟩⟩⟩⟩⟩ <;> first | (simp [sPages] at h; done) | kernel_rfl
  refine def_run ok (by show A.depth < 1000; omega) b hv rfl fun env s1 hf hsc i k1 wfn => ?_
  have hA : Ro (A.deeper env) := ⟨h0, by show A.depth + 1 ≤ _; omega, by show A.units + _ ≤ _; omega⟩
  have hT : TabOk (CR G) (A.deeper env) (T2 w.params) := t2_ok h0 (by show A.depth + 1 ≤ _; omega) (by show A.units + _ ≤ _; omega)
  have snd := exS_sound hA hf hT hsc ownK 20
  obtain ⟨px, hpx⟩ : ∃ px, tgtOf (nthS keptX 5) = Expr.Name (Str.ofString "k") px := ⟨_, rfl⟩
  have hb : bodyA w.params 174 = [nthS keptX 0, nthS keptX 1, nthS keptX 2, nthS keptX 3, nthS keptX 4, .For (tgtOf (nthS keptX 5)) (iterOf (nthS keptX 5)) (loopOf (nthS keptX 5)) [] (posF (nthS keptX 5)), nthS keptX 6] := by kernel_rfl
  rw [hb]
  obtain ⟨σ', e1, e2⟩ := kept_loop (M := M) hr hG hp4 hpl (px := px) pages 0 [] 0 [] [] (by simp) (Nat.zero_le _) List.nodup_nil (fun _ h => nomatch h) rfl (.inl rfl)
  have a0 : exS (T2 w.params) ownK 20 (scK w.params) (par0 sPages [dL pages, .int r, .int M, .obj 1 (order.map nD), dL order]) (nthS keptX 0) = some (.next, par0 sPages [dL pages, .int r, .int M, .obj 1 (order.map nD), dL order] ++ [(Str.ofString "line", .acc M [])]) := by kernel_rfl
  have a1 : exS (T2 w.params) ownK 20 (scK w.params) (par0 sPages [dL pages, .int r, .int M, .obj 1 (order.map nD), dL order] ++ [(Str.ofString "line", .acc M [])]) (nthS keptX 1) = some (.next, par0 sPages [dL pages, .int r, .int M, .obj 1 (order.map nD), dL order] ++ [(Str.ofString "line", .acc M []), (Str.ofString "kept", .val (.list []))]) := by kernel_rfl
  have a2 : exS (T2 w.params) ownK 20 (scK w.params) (par0 sPages [dL pages, .int r, .int M, .obj 1 (order.map nD), dL order] ++ [(Str.ofString "line", .acc M []), (Str.ofString "kept", .val (.list []))]) (nthS keptX 2) = some (.next, par0 sPages [dL pages, .int r, .int M, .obj 1 (order.map nD), dL order] ++ [(Str.ofString "line", .acc M []), (Str.ofString "kept", .val (.list [])), (Str.ofString "misses", .val (.int 0))]) := by kernel_rfl
  have a3 : exS (T2 w.params) ownK 20 (scK w.params) (par0 sPages [dL pages, .int r, .int M, .obj 1 (order.map nD), dL order] ++ [(Str.ofString "line", .acc M []), (Str.ofString "kept", .val (.list [])), (Str.ofString "misses", .val (.int 0))]) (nthS keptX 3) = some (.next, sgK (pages.map nD) r M (order.map nD) (dL order) [] 0 [] []) := by kernel_rfl
  have a4 : exS (T2 w.params) ownK 20 (scK w.params) (sgK (pages.map nD) r M (order.map nD) (dL order) [] 0 [] []) (nthS keptX 4) = some (.next, sgK (pages.map nD) r M (order.map nD) (dL order) [] 0 [] []) := by
    exact exS_if false (evT_cmp (.bool true) (.bool true) (evE_meth (.obj 1 (order.map nD)) (.str (Str.ofString "/")) (by kernel_rfl) (by kernel_rfl) (methV_obj.trans (allow_empty ho4)) (by kernel_rfl) (by kernel_rfl) (by kernel_rfl)) (by kernel_rfl) rfl (by kernel_rfl)) rfl
  have hit : evI (T2 w.params) (scK w.params) (evE (T2 w.params) 19 (scK w.params) (sgK (pages.map nD) r M (order.map nD) (dL order) [] 0 [] [])) (sgK (pages.map nD) r M (order.map nD) (dL order) [] 0 [] []) (iterOf (nthS keptX 5)) = some ((List.range pages.length).map nD) := by
    exact evI_range (by kernel_rfl) (by kernel_rfl) ((evE_len (l := pages.map nD) (by kernel_rfl) (by kernel_rfl) (by kernel_rfl) (by rw [List.length_map]; omega)).trans (by rw [List.length_map])) (by omega)
  have hfor : Stm (CR G) (A.deeper env) env (sgK (pages.map nD) r M (order.map nD) (dL order) [] 0 [] []) (exec (.For (tgtOf (nthS keptX 5)) (iterOf (nthS keptX 5)) (loopOf (nthS keptX 5)) [] (posF (nthS keptX 5))) env) .next σ' := by
    rw [hpx]
    refine stm_for hA hf (kept_hstep hA hf hT hsc hr hM hG hp4 hpl ho4 hol) (fun x hx => ?_) (by kernel_rfl) (fun Z θ => evI_ok hA hf hT hsc (fun a t => .inr t) (fun e d => (ev_sound hA hT 19 (scK w.params)).ev env hf hsc Z θ _ e d) hit) (by rw [List.range_eq_range']; exact e1)
    rw [List.mem_singleton.mp hx]
    exact canB_ok hf hsc (show canB (scK w.params) (Str.ofString "k") = true by kernel_rfl)
  have hret : Stm (CR G) (A.deeper env) env σ' (exec (nthS keptX 6) env) (.ret (.list (toldD (keptRun r order pages [] 0)))) (setS (Str.ofString "told") (.val (.list (toldD (keptRun r order pages [] 0)))) σ') := by
    exact stm_return_own hf (by decide) e2 (.inl ⟨_, rfl, by simp⟩)
  have all := stm_cons_next (snd _ _ _ _ a0) (stm_cons_next (snd _ _ _ _ a1) (stm_cons_next (snd _ _ _ _ a2) (stm_cons_next (snd _ _ _ _ a3) (stm_cons_next (snd _ _ _ _ a4) (stm_cons_next hfor (stm_cons_leave (r := []) (by simp) hret))))))
  refine all.use i fun fl θ' s' i' st fr => ?_
  cases fr with | ret r => exact def_end b k1 wfn i' st r
end
end Mine

end

section
open PySem PySem.W PyProof.Rows PySem.Calls
set_option maxRecDepth 100000
set_option linter.unusedVariables false
set_option maxHeartbeats 4000000
namespace Mine
noncomputable def leastX : List Stmt := fBody (nthS PySem.Challenge.pw_rs0050_02.main.body 12)
theorem least_x (P : Params) : bodyA P 179 = leastX := by kernel_rfl
noncomputable def lBody : List Stmt := loopOf (nthS leastX 2)
noncomputable def lIn : Stmt := nthS lBody 1
noncomputable def lInB : List Stmt := loopOf lIn
noncomputable def lOne : Stmt := nthS lInB 3
noncomputable abbrev scL (P : Params) : Scope := (fdA P 179).scope
noncomputable abbrev ownL : List Str := [Str.ofString "now", Str.ofString "least"]
noncomputable def bitsL (h : Nat) : List Nat := ((List.range 4).filter fun i => h / 2 ^ i % 2 == 1).map (2 ^ ·)
noncomputable def hasB (h p : Nat) : Bool := h / 2 ^ p % 2 == 1
noncomputable def afterL (r h p : Nat) : List Nat := bif hasB h p then [h] else bif Nat.blt (bitsL h).length r then [h + 2 ^ p] else (bitsL h).map fun b => h - b + 2 ^ p
noncomputable def cntL (h p : Nat) : Int := bif hasB h p then 1 else 0
noncomputable def minI (a b : Int) : Int := if b < a then b else a
noncomputable def putL (m : Int) (now : List (Int × Int)) (a : Nat) : List (Int × Int) := storeKv now a (minI m (getKv now a m))
noncomputable def sgL (L : List D) (r : Nat) (ways : List (Int × Int)) (tl : List D) (J : St) : St := (Str.ofString "pages", .val (.list L)) :: (Str.ofString "room", .val (nD r)) :: (Str.ofString "ways", .val (.dict ways)) :: (Str.ofString "least", .lst tl) :: J
noncomputable def K5 (h : Nat) (b : List Nat) (m : Int) (a : List Nat) (o : List (Str × Sl)) : St := (Str.ofString "held", .val (nD h)) :: (Str.ofString "bits", .val (dL b)) :: (Str.ofString "misses", .val (.int m)) :: (Str.ofString "after", .val (dL a)) :: o
noncomputable def IsO (o : List (Str × Sl)) : Prop := o = [] ∨ ∃ v, o = [(Str.ofString "one", v)]
noncomputable def IsK (K : St) : Prop := K = [] ∨ ∃ h b m a o, IsO o ∧ K = K5 h b m a o
section
variable {T : Tab} {n : Nat} {sc : Scope} {σ σ1 σ' : St} {own : List Str}
theorem exS_store {x : Str} {xp q p : Pos} {i e : Expr} {kvs : List (Int × Int)} {v k : Int} (hd : (x == ("__debug__" : Str)) = false) (hx : σ.lookup x = some (.dct kvs)) (hp : plainVal e = true) (he : evE T n sc σ e = some (.int v)) (hi : evE T n sc σ i = some (.int k)) (hl : kvs.length ≤ 1000000) :
    exS T own (n + 1) sc σ (.Assign [.Subscript (.Name x xp) i q] e p) = some (.next, setS x (.dct (storeKv kvs k v)) σ) := by
  exact to_gd (to_and (to_not hd) hp) (to_bnd (to_bnd hx rfl) (to_bnd he (to_bnd (x := asI (.int v)) rfl (to_bnd hi (to_bnd (x := asI (.int k)) rfl (if_pos hl))))))
theorem storeKv_len (kvs : List (Int × Int)) (k v : Int) : (storeKv kvs k v).length ≤ kvs.length + 1 := by
  unfold storeKv
  by_cases hc : (kvs.any fun p => decide (p.1 = k)) = true
  · rw [if_pos hc, List.length_map]; exact Nat.le_succ _
  · rw [if_neg hc, List.length_append]; exact Nat.le_refl _
end
section
variable {P : Params} {L : List D} {r : Nat} {ways nw : List (Int × Int)} {tl : List D} {K J : St} {h p : Nat} {c m : Int}
theorem least_one {px : Pos} {h : Nat} {b a : List Nat} {pg : Sl} : ∀ (l : List Nat) (nw : List (Int × Int)) (o : List (Str × Sl)), nw.length + l.length ≤ 1000000 → (o = [] ∨ ∃ v, o = [(Str.ofString "one", v)]) →
    ∃ o', forD (fun σ => exL (exS (T2 P) ownL 17 (scL P)) (loopOf lOne) σ) (.Name (Str.ofString "one") px) (l.map nD) (sgL L r ways tl ((Str.ofString "page", pg) :: (Str.ofString "now", .dct nw) :: (Str.ofString "held", .val (nD h)) :: (Str.ofString "bits", .val (dL b)) :: (Str.ofString "misses", .val (.int m)) :: (Str.ofString "after", .val (dL a)) :: o)) =
      some (.next, sgL L r ways tl ((Str.ofString "page", pg) :: (Str.ofString "now", .dct (l.foldl (putL m) nw)) :: (Str.ofString "held", .val (nD h)) :: (Str.ofString "bits", .val (dL b)) :: (Str.ofString "misses", .val (.int m)) :: (Str.ofString "after", .val (dL a)) :: o')) ∧ IsO o'
  | [], nw, o, _, ho => ⟨o, rfl, ho⟩
  | x :: l, nw, o, hl, ho => by
    have hl' : nw.length + (l.length + 1) ≤ 1000000 := hl
    have h2 := storeKv_len nw x (minI m (getKv nw x m))
    obtain ⟨o', e1, e2⟩ := least_one (px := px) (h := h) (b := b) (a := a) (pg := pg) l (putL m nw x) [(Str.ofString "one", .val (nD x))] (by unfold putL; omega) (.inr ⟨_, rfl⟩)
    have hset : setS (Str.ofString "one") (.val (nD x)) (sgL L r ways tl ((Str.ofString "page", pg) :: (Str.ofString "now", .dct nw) :: (Str.ofString "held", .val (nD h)) :: (Str.ofString "bits", .val (dL b)) :: (Str.ofString "misses", .val (.int m)) :: (Str.ofString "after", .val (dL a)) :: o)) = sgL L r ways tl ((Str.ofString "page", pg) :: (Str.ofString "now", .dct nw) :: (Str.ofString "held", .val (nD h)) :: (Str.ofString "bits", .val (dL b)) :: (Str.ofString "misses", .val (.int m)) :: (Str.ofString "after", .val (dL a)) :: [(Str.ofString "one", .val (nD x))]) := by
      rcases ho with rfl | ⟨v, rfl⟩ <;> kernel_rfl
    have hbody : exL (exS (T2 P) ownL 17 (scL P)) (loopOf lOne) (sgL L r ways tl ((Str.ofString "page", pg) :: (Str.ofString "now", .dct nw) :: (Str.ofString "held", .val (nD h)) :: (Str.ofString "bits", .val (dL b)) :: (Str.ofString "misses", .val (.int m)) :: (Str.ofString "after", .val (dL a)) :: [(Str.ofString "one", .val (nD x))])) = some (.next, sgL L r ways tl ((Str.ofString "page", pg) :: (Str.ofString "now", .dct (putL m nw x)) :: (Str.ofString "held", .val (nD h)) :: (Str.ofString "bits", .val (dL b)) :: (Str.ofString "misses", .val (.int m)) :: (Str.ofString "after", .val (dL a)) :: [(Str.ofString "one", .val (nD x))])) := by
      exact exL_next _ (exS_store (kvs := nw) (v := minI m (getKv nw x m)) (k := x) (by kernel_rfl) (by kernel_rfl) (by kernel_rfl) (by kernel_rfl) (by kernel_rfl) (by omega)) (by kernel_rfl)
    refine ⟨o', ?_, e2⟩
    exact to_bnd (congrArg some hset) (to_bnd hbody e1)
end
end Mine

end

section
open PySem PySem.W PyProof.Rows PySem.Calls
set_option maxRecDepth 100000
set_option linter.unusedVariables false
set_option maxHeartbeats 4000000
namespace Mine
theorem count_n (g : Nat) : ∀ l : List Nat, (l.map fun p : Nat => (p : Int)).count (g : Int) = l.count g
  | [] => rfl
  | a :: l => by
    rw [List.map_cons, List.count_cons, List.count_cons, count_n g l]
    have : ((a : Int) == (g : Int)) = (a == g) := by rw [Bool.eq_iff_iff]; simp only [beq_iff_eq]; omega
    rw [this]
theorem count_list (g : Nat) (l : List Nat) : countD (dL l) (nD g) = some (nD (l.count g)) := by
  refine to_bnd (x := asL (dL l)) rfl (to_bnd (x := asI (nD g)) rfl ((to_mpd (asInts_n l)).trans ?_))
  rw [count_n]
theorem methV_count {T : Tab} {l : List D} {b : D} : methV T (Str.ofString "count") (.list l) b = countD (.list l) b := by kernel_rfl
theorem pow_two {p : Nat} (hp : p < 4) : binD .Pow (.int 2) (nD p) = some (nD (2 ^ p)) := by
  obtain rfl | rfl | rfl | rfl := four hp
  all_goals kernel_rfl
theorem pow_ev {T : Tab} {n : Nat} {sc : Scope} {σ : St} {a b : Expr} {q : Pos} {p : Nat} (ha : evE T n sc σ a = some (.int 2)) (hb : evE T n sc σ b = some (nD p)) (hp : p < 4) : evE T (n + 1) sc σ (.BinOp a .Pow b q) = some (nD (2 ^ p)) := evE_bin (.int 2) (nD p) ha hb (pow_two hp)
theorem bits_facts : ∀ h < 16, ∀ p < 4, (decide (2 ^ p ∈ bitsL h) = hasB h p) ∧ (((bitsL h).count (2 ^ p) : Nat) : Int) = cntL h p ∧ ∀ b ∈ bitsL h, b ≤ h := by decide
noncomputable def bitT (h : Nat) : D → Bool
  | .int i => h / 2 ^ i.toNat % 2 == 1
  | _ => false
noncomputable def powF : D → D
  | .int i => nD (2 ^ i.toNat)
  | d => d
noncomputable def subF (h p : Nat) : D → D
  | .int i => nD (h - i.toNat + 2 ^ p)
  | d => d
theorem map_bits (h : Nat) : (((List.range 4).map nD).filter (bitT h)).map powF = (bitsL h).map nD := by
  rw [List.filter_map, List.map_map]
  unfold bitsL
  rw [List.map_map]
  rfl
theorem map_sub (h p : Nat) (l : List Nat) : ((l.map nD).filter fun _ => true).map (subF h p) = (l.map fun b => h - b + 2 ^ p).map nD := by
  rw [List.filter_eq_self.mpr (fun _ _ => rfl), List.map_map, List.map_map]
  rfl
theorem binI_int {f : Int → Int → Option Int} {x y z : Int} (h : f x y = some z) : binI f (.int x) (.int y) = some (.int z) := by
  show (f x y).map D.int = _
  rw [h]; rfl
theorem bit_test {h i : Nat} (hi : i < 4) : (binD .FloorDiv (nD h) (nD (2 ^ i))).bind (fun a => binD .Mod a (.int 2)) = some (nD (h / 2 ^ i % 2)) := by
  have hb : (0 : Int) < ((2 ^ i : Nat) : Int) ∧ ((2 ^ i : Nat) : Int) < 1000000000 := by
    obtain rfl | rfl | rfl | rfl := four hi
    all_goals decide
  have e1 : binD .FloorDiv (nD h) (nD (2 ^ i)) = some (nD (h / 2 ^ i)) :=
    binI_int (f := fun x y => if 0 < y ∧ y < 1000000000 then some (x.fdiv y) else none) ((if_pos hb).trans (by rw [← Int.ofNat_fdiv]))
  refine to_bnd e1 (binI_int (f := fun x y => if 0 < y then some (x.fmod y) else none) ((if_pos (by decide)).trans ?_))
  have : (2 : Int) = ((2 : Nat) : Int) := rfl
  rw [this, ← Int.ofNat_fmod]
noncomputable def valOf (s : Stmt) : Expr := match s with
  | .Assign _ e _ => e
  | _ => .Constant .none 0 ⟨0, 0, 0, 0⟩
section
variable {P : Params} {L : List D} {r : Nat} {ways nw : List (Int × Int)} {tl : List D} {K J : St} {h p : Nat} {c m : Int}
theorem least_held (hr : r ≤ 1000) (hh : h < 16) (hp : p < 4) (hw : (ways.find? fun q => q.1 = (h : Int)).map (·.2) = some c) (hnl : nw.length ≤ 900000) (hK : IsK K) :
    ∃ o, IsO o ∧ exL (exS (T2 P) ownL 18 (scL P)) lInB (setS (Str.ofString "held") (.val (nD h)) (sgL L r ways tl ((Str.ofString "page", .val (nD p)) :: (Str.ofString "now", .dct nw) :: K))) =
      some (.next, sgL L r ways tl ((Str.ofString "page", .val (nD p)) :: (Str.ofString "now", .dct ((afterL r h p).foldl (putL (c + 1 - cntL h p)) nw)) :: K5 h (bitsL h) (c + 1 - cntL h p) (afterL r h p) o)) := by
  obtain ⟨f1, f2, f3⟩ := bits_facts h hh p hp
  have hitem : itemD (.dict ways) (nD h) = some (.int c) := by
    show ((ways.find? fun q => q.1 = (h : Int)).map (·.2)).map D.int = _
    rw [hw]; rfl
  have hbl : (bitsL h).length ≤ 4 := by
    unfold bitsL
    rw [List.length_map]
    exact Nat.le_trans (List.length_filter_le _ _) (by simp)
  -- the bits that are set
  have c0 : ∀ (K' : St), K' = [] ∨ (∃ b m a, K' = [(Str.ofString "bits", b), (Str.ofString "misses", m), (Str.ofString "after", a)]) ∨ (∃ b m a o, K' = [(Str.ofString "bits", b), (Str.ofString "misses", m), (Str.ofString "after", a), (Str.ofString "one", o)]) → evE (T2 P) 18 (scL P) (sgL L r ways tl ((Str.ofString "page", .val (nD p)) :: (Str.ofString "now", .dct nw) :: (Str.ofString "held", .val (nD h)) :: K')) (valOf (nthS lInB 0)) = some (dL (bitsL h)) := by
    intro K' hK'
    rcases hK' with rfl | ⟨b, m, a, rfl⟩ | ⟨b, m, a, o, rfl⟩
    all_goals
      refine (evE_comp (its := (List.range 4).map nD) (bitT h) powF (by kernel_rfl) (by kernel_rfl) (by kernel_rfl) (fun d hd => ?_) (fun d hd _ => ?_) (by simp)).trans (by rw [map_bits])
      · obtain ⟨i, hi, rfl⟩ := List.mem_map.mp hd
        have hi4 : i < 4 := List.mem_range.mp hi
        have ht := bit_test (h := h) hi4
        obtain ⟨x, hx1, hx2⟩ := Option.bind_eq_some_iff.mp ht
        refine testsD_one (evT_val (nD (h / 2 ^ i % 2)) (by kernel_rfl) (evE_bin x (.int 2) (evE_bin (nD h) (nD (2 ^ i)) (by kernel_rfl) (pow_ev (by kernel_rfl) (by kernel_rfl) hi4) hx1) (by kernel_rfl) hx2) ?_)
        show some (((h / 2 ^ i % 2 : Nat) : Int) != 0) = some (h / 2 ^ i % 2 == 1)
        congr 1
        rw [Bool.eq_iff_iff]
        simp only [bne_iff_ne, beq_iff_eq, ne_eq]
        omega
      · obtain ⟨i, hi, rfl⟩ := List.mem_map.mp hd
        exact pow_ev (by kernel_rfl) (by kernel_rfl) (List.mem_range.mp hi)
  have hb : lInB = [nthS lInB 0, nthS lInB 1, nthS lInB 2, .For (tgtOf lOne) (iterOf lOne) (loopOf lOne) [] (posF lOne)] := by kernel_rfl
  obtain ⟨px, hpx⟩ : ∃ px, tgtOf lOne = Expr.Name (Str.ofString "one") px := ⟨_, rfl⟩
  -- the count, and the next ways, wherever they are asked
  have c1 : ∀ (K' : St), evE (T2 P) 17 (scL P) (sgL L r ways tl ((Str.ofString "page", .val (nD p)) :: (Str.ofString "now", .dct nw) :: (Str.ofString "held", .val (nD h)) :: (Str.ofString "bits", .val (dL (bitsL h))) :: K')) (valOf (nthS lInB 1)) = some (.int (c + 1 - cntL h p)) := by
    intro K'
    refine evE_bin (.int (c + 1)) (nD ((bitsL h).count (2 ^ p))) (evE_bin (.int c) (.int 1) (evE_sub (.dict ways) (nD h) (by kernel_rfl) (by kernel_rfl) hitem (by kernel_rfl)) (by kernel_rfl) rfl) (evE_meth (dL (bitsL h)) (nD (2 ^ p)) (by kernel_rfl) (pow_ev (by kernel_rfl) (by kernel_rfl) hp) (methV_count.trans (count_list _ _)) (by kernel_rfl) (by kernel_rfl) (by kernel_rfl)) ?_
    show some (D.int (c + 1 - (((bitsL h).count (2 ^ p) : Nat) : Int))) = _
    rw [f2]
  have c2 : ∀ (K' : St), (∃ m, K' = [(Str.ofString "misses", m)]) ∨ (∃ m a, K' = [(Str.ofString "misses", m), (Str.ofString "after", a)]) ∨ (∃ m a o, K' = [(Str.ofString "misses", m), (Str.ofString "after", a), (Str.ofString "one", o)]) → exS (T2 P) ownL 18 (scL P) (sgL L r ways tl ((Str.ofString "page", .val (nD p)) :: (Str.ofString "now", .dct nw) :: (Str.ofString "held", .val (nD h)) :: (Str.ofString "bits", .val (dL (bitsL h))) :: K')) (nthS lInB 2) =
      some (.next, setS (Str.ofString "after") (.val (dL (afterL r h p))) (sgL L r ways tl ((Str.ofString "page", .val (nD p)) :: (Str.ofString "now", .dct nw) :: (Str.ofString "held", .val (nD h)) :: (Str.ofString "bits", .val (dL (bitsL h))) :: K'))) := by
    intro K' hK'
    rcases hK' with ⟨m, rfl⟩ | ⟨m, a, rfl⟩ | ⟨m, a, o, rfl⟩
    all_goals
      refine exS_if (hasB h p) (evT_cmp (nD (2 ^ p)) (dL (bitsL h)) (pow_ev (by kernel_rfl) (by kernel_rfl) hp) (by kernel_rfl) (by rw [← f1]; exact in_list _ _) (by kernel_rfl)) ?_
      unfold afterL
      cases hasB h p with
      | true => exact exL_next _ (exS_assign (dL [h]) (evE_list1 (by kernel_rfl) (by kernel_rfl)) (by kernel_rfl) (by kernel_rfl) (by kernel_rfl) (by kernel_rfl)) rfl
      | false =>
        refine exL_next _ (exS_if (Nat.blt (bitsL h).length r) (evT_cmp (nD (bitsL h).length) (nD r) ((evE_len (l := (bitsL h).map nD) (by kernel_rfl) (by kernel_rfl) (by kernel_rfl) (by rw [List.length_map]; omega)).trans (by rw [List.length_map])) (by kernel_rfl) ?_ (by kernel_rfl)) ?_) rfl
        · show some (decide (((bitsL h).length : Int) < (r : Int))) = _
          congr 1
          rw [Bool.eq_iff_iff, decide_eq_true_eq, Nat.blt_eq]
          omega
        · cases Nat.blt (bitsL h).length r with
          | true => exact exL_next _ (exS_assign (dL [h + 2 ^ p]) (evE_list1 (evE_bin (nD h) (nD (2 ^ p)) (by kernel_rfl) (pow_ev (by kernel_rfl) (by kernel_rfl) hp) rfl) (by kernel_rfl)) (by kernel_rfl) (by kernel_rfl) (by kernel_rfl) (by kernel_rfl)) rfl
          | false =>
            refine exL_next _ (exS_assign_comp (dL ((bitsL h).map fun b => h - b + 2 ^ p)) ((evE_comp (its := (bitsL h).map nD) (fun _ => true) (subF h p) (by kernel_rfl) (by kernel_rfl) (by kernel_rfl) (fun d hd => rfl) (fun d hd _ => ?_) (by rw [List.length_map]; omega)).trans (by rw [map_sub])) (by kernel_rfl) (by kernel_rfl)) rfl
            obtain ⟨b, hb, rfl⟩ := List.mem_map.mp hd
            refine evE_bin (nD (h - b)) (nD (2 ^ p)) (evE_bin (nD h) (nD b) (by kernel_rfl) (by kernel_rfl) ?_) (pow_ev (by kernel_rfl) (by kernel_rfl) hp) rfl
            show some (D.int ((h : Int) - (b : Int))) = some (D.int ((h - b : Nat) : Int))
            rw [Int.ofNat_sub (f3 b hb)]
  have hal : (afterL r h p).length ≤ 4 := by
    unfold afterL
    cases hasB h p
    · cases Nat.blt (bitsL h).length r
      · simp; exact hbl
      · simp
    · simp
  have key : ∀ (o : List (Str × Sl)), IsO o → ∃ o', IsO o' ∧ exS (T2 P) ownL 18 (scL P) (sgL L r ways tl ((Str.ofString "page", .val (nD p)) :: (Str.ofString "now", .dct nw) :: K5 h (bitsL h) (c + 1 - cntL h p) (afterL r h p) o)) (.For (tgtOf lOne) (iterOf lOne) (loopOf lOne) [] (posF lOne)) =
      some (.next, sgL L r ways tl ((Str.ofString "page", .val (nD p)) :: (Str.ofString "now", .dct ((afterL r h p).foldl (putL (c + 1 - cntL h p)) nw)) :: K5 h (bitsL h) (c + 1 - cntL h p) (afterL r h p) o')) := by
    intro o ho
    obtain ⟨o', e1, e2⟩ := least_one (P := P) (L := L) (r := r) (ways := ways) (tl := tl) (m := c + 1 - cntL h p) (px := px) (h := h) (b := bitsL h) (a := afterL r h p) (pg := .val (nD p)) (afterL r h p) nw o (by omega) ho
    refine ⟨o', e2, ?_⟩
    rw [hpx]
    exact exS_for ((afterL r h p).map nD) (by kernel_rfl) (by kernel_rfl) (by kernel_rfl) e1
  have a0 : ∀ σ d, evE (T2 P) 18 (scL P) σ (valOf (nthS lInB 0)) = some d → exS (T2 P) ownL 18 (scL P) σ (nthS lInB 0) = some (.next, setS (Str.ofString "bits") (.val d) σ) := by
    intro σ d hh
    exact exS_assign_comp d hh (by kernel_rfl) (by kernel_rfl)
  have a1 : ∀ σ d, evE (T2 P) 17 (scL P) σ (valOf (nthS lInB 1)) = some d → exS (T2 P) ownL 18 (scL P) σ (nthS lInB 1) = some (.next, setS (Str.ofString "misses") (.val d) σ) := by
    intro σ d hh
    exact exS_assign d hh (by kernel_rfl) (by kernel_rfl) (by kernel_rfl) (by kernel_rfl)
  rw [hb]
  rcases hK with rfl | ⟨h1, b1, m1, a1', o1, rfl | ⟨v1, rfl⟩, rfl⟩
  · obtain ⟨o', ho', e⟩ := key [] (.inl rfl)
    exact ⟨o', ho', exL_next _ (a0 _ _ (c0 [] (.inl rfl))) (exL_next _ (a1 _ _ (c1 [])) (exL_next _ (c2 [_] (.inl ⟨_, rfl⟩)) (exL_next _ e rfl)))⟩
  · obtain ⟨o', ho', e⟩ := key [] (.inl rfl)
    exact ⟨o', ho', exL_next _ (a0 _ _ (c0 [_, _, _] (.inr (.inl ⟨_, _, _, rfl⟩)))) (exL_next _ (a1 _ _ (c1 [_, _])) (exL_next _ (c2 [_, _] (.inr (.inl ⟨_, _, rfl⟩))) (exL_next _ e rfl)))⟩
  · obtain ⟨o', ho', e⟩ := key [(Str.ofString "one", v1)] (.inr ⟨v1, rfl⟩)
    exact ⟨o', ho', exL_next _ (a0 _ _ (c0 [_, _, _, _] (.inr (.inr ⟨_, _, _, _, rfl⟩)))) (exL_next _ (a1 _ _ (c1 [_, _, _])) (exL_next _ (c2 [_, _, _] (.inr (.inr ⟨_, _, _, rfl⟩))) (exL_next _ e rfl)))⟩
end
end Mine

end

section
open PySem PySem.W PyProof.Rows PySem.Calls
set_option maxRecDepth 100000
set_option linter.unusedVariables false
set_option maxHeartbeats 4000000
namespace Mine
structure WaysOk (ways : List (Int × Int)) : Prop where
  nd : (ways.map (·.1)).Nodup
  ks : ∀ q ∈ ways, ∃ h : Nat, h < 16 ∧ q.1 = (h : Int)
theorem find_key {ways : List (Int × Int)} (hn : (ways.map (·.1)).Nodup) {q : Int × Int} (hq : q ∈ ways) : (ways.find? fun x => x.1 = q.1).map (·.2) = some q.2 := by
  induction ways with
  | nil => cases hq
  | cons a l ih =>
    rw [List.map_cons, List.nodup_cons] at hn
    rw [List.find?_cons]
    rcases List.mem_cons.mp hq with rfl | hq
    · simp
    · have : ¬ a.1 = q.1 := fun e => hn.1 (e ▸ List.mem_map_of_mem hq)
      simp only [this, decide_false]
      exact ih hn.2 hq
theorem storeKv_keys (kvs : List (Int × Int)) (k v : Int) : (storeKv kvs k v).map (·.1) = kvs.map (·.1) ∨ (k ∉ kvs.map (·.1) ∧ (storeKv kvs k v).map (·.1) = kvs.map (·.1) ++ [k]) := by
  unfold storeKv
  by_cases h : (kvs.any fun p => decide (p.1 = k)) = true
  · left
    rw [if_pos h, List.map_map]
    refine List.map_congr_left fun p _ => ?_
    simp only [Function.comp]
    split <;> rfl
  · right
    rw [if_neg h]
    refine ⟨fun hm => h ?_, by simp⟩
    obtain ⟨p, hp, e⟩ := List.mem_map.mp hm
    exact List.any_eq_true.mpr ⟨p, hp, by simpa using e⟩
theorem WaysOk.store {kvs : List (Int × Int)} (ok : WaysOk kvs) {k : Nat} (hk : k < 16) (v : Int) : WaysOk (storeKv kvs k v) := by
  have hkeys : ∀ q ∈ (storeKv kvs (k : Int) v).map (·.1), ∃ h : Nat, h < 16 ∧ q = (h : Int) := fun q hq => by
    have old : q ∈ kvs.map (·.1) → ∃ h : Nat, h < 16 ∧ q = (h : Int) := fun hq => by
      obtain ⟨p, hp, rfl⟩ := List.mem_map.mp hq
      exact ok.ks p hp
    rcases storeKv_keys kvs k v with e | ⟨_, e⟩
    · rw [e] at hq; exact old hq
    · rw [e] at hq
      rcases List.mem_append.mp hq with hq | hq
      · exact old hq
      · exact ⟨k, hk, List.mem_singleton.mp hq⟩
  refine ⟨?_, fun q hq => hkeys _ (List.mem_map_of_mem hq)⟩
  rcases storeKv_keys kvs k v with e | ⟨hn, e⟩
  · rw [e]; exact ok.nd
  · rw [e]
    exact List.nodup_append.mpr ⟨ok.nd, by simp, fun a ha b hb q => hn (by rw [List.mem_singleton.mp hb] at q; exact q ▸ ha)⟩
theorem storeKv_ne {kvs : List (Int × Int)} {k v : Int} : storeKv kvs k v ≠ [] := by
  unfold storeKv
  split
  · rename_i h
    intro e
    rw [List.map_eq_nil_iff] at e
    rw [e] at h; simp at h
  · simp
theorem fold_put_ok {m : Int} : ∀ {l : List Nat} {nw : List (Int × Int)}, WaysOk nw → (∀ a ∈ l, a < 16) → WaysOk (l.foldl (putL m) nw) ∧ (l.foldl (putL m) nw).length ≤ nw.length + l.length ∧ (l ≠ [] ∨ nw ≠ [] → l.foldl (putL m) nw ≠ [])
  | [], nw, ok, _ => ⟨ok, Nat.le_refl _, fun h => h.resolve_left (fun h => h rfl)⟩
  | a :: l, nw, ok, h => by
    obtain ⟨h1, h2, h3⟩ := fold_put_ok (m := m) (l := l) (ok.store (h a (.head _)) (minI m (getKv nw a m))) fun b hb => h b (.tail _ hb)
    refine ⟨h1, ?_, fun _ => h3 (.inr storeKv_ne)⟩
    have := storeKv_len nw a (minI m (getKv nw a m))
    rw [List.length_cons]
    show (l.foldl (putL m) (putL m nw a)).length ≤ _
    unfold putL at h2 ⊢
    omega
noncomputable def afterC (r h p : Nat) : Bool := (afterL r h p).all (fun a => Nat.blt a 16) && !(afterL r h p).isEmpty && Nat.ble (afterL r h p).length 4
theorem after_chk : ∀ h < 16, ∀ p < 4, afterC 2 h p = true ∧ afterC 3 h p = true := by decide
theorem after_facts (h : Nat) (hh : h < 16) (p : Nat) (hp : p < 4) (r : Nat) (hr : r < 4) (hr2 : 2 ≤ r) : (∀ a ∈ afterL r h p, a < 16) ∧ afterL r h p ≠ [] ∧ (afterL r h p).length ≤ 4 := by
  have hc : afterC r h p = true := by
    obtain rfl | rfl : r = 2 ∨ r = 3 := by omega
    · exact (after_chk h hh p hp).1
    · exact (after_chk h hh p hp).2
  unfold afterC at hc
  simp only [Bool.and_eq_true, List.all_eq_true, Nat.blt_eq, Nat.ble_eq, Bool.not_eq_true', List.isEmpty_eq_false_iff] at hc
  exact ⟨hc.1.1, hc.1.2, hc.2⟩
noncomputable def wayStep (r p : Nat) (now : List (Int × Int)) (q : Int × Int) : List (Int × Int) := (afterL r q.1.toNat p).foldl (putL (q.2 + 1 - cntL q.1.toNat p)) now
theorem fold_way_ok {r p : Nat} (hr : r < 4) (hr2 : 2 ≤ r) (hp : p < 4) : ∀ {qs nw : List (Int × Int)}, WaysOk nw → (∀ q ∈ qs, ∃ h : Nat, h < 16 ∧ q.1 = (h : Int)) → WaysOk (qs.foldl (wayStep r p) nw) ∧ (qs.foldl (wayStep r p) nw).length ≤ nw.length + 4 * qs.length ∧ (qs ≠ [] ∨ nw ≠ [] → qs.foldl (wayStep r p) nw ≠ [])
  | [], nw, ok, _ => ⟨ok, by simp, fun h => h.resolve_left (fun h => h rfl)⟩
  | q :: qs, nw, ok, h => by
    obtain ⟨x, hx, e⟩ := h q (.head _)
    have hq : q.1.toNat = x := by rw [e]; rfl
    obtain ⟨f1, f2, f3⟩ := after_facts x hx p hp r hr hr2
    obtain ⟨g1, g2, g3⟩ := fold_put_ok (m := q.2 + 1 - cntL x p) ok f1
    have e1 : wayStep r p nw q = (afterL r x p).foldl (putL (q.2 + 1 - cntL x p)) nw := by unfold wayStep; rw [hq]
    obtain ⟨h1, h2, h3⟩ := fold_way_ok hr hr2 hp (qs := qs) (e1 ▸ g1) fun y hy => h y (.tail _ hy)
    refine ⟨h1, ?_, fun _ => h3 (.inr (e1 ▸ g3 (.inl f2)))⟩
    rw [List.length_cons]
    show (qs.foldl (wayStep r p) (wayStep r p nw q)).length ≤ _
    rw [e1] at h2 ⊢
    omega
section
variable {P : Params} {L : List D} {r : Nat} {ways : List (Int × Int)} {tl : List D} {p : Nat}
theorem least_mid (hr : r < 4) (hr2 : 2 ≤ r) (hp : p < 4) (ok : WaysOk ways) {px : Pos} : ∀ (qs nw : List (Int × Int)) (K : St), (∀ q ∈ qs, q ∈ ways) → WaysOk nw → nw.length + 4 * qs.length ≤ 900000 → IsK K →
    ∃ K', IsK K' ∧ forD (fun σ => exL (exS (T2 P) ownL 18 (scL P)) lInB σ) (.Name (Str.ofString "held") px) (qs.map fun q => .int q.1) (sgL L r ways tl ((Str.ofString "page", .val (nD p)) :: (Str.ofString "now", .dct nw) :: K)) = some (.next, sgL L r ways tl ((Str.ofString "page", .val (nD p)) :: (Str.ofString "now", .dct (qs.foldl (wayStep r p) nw)) :: K'))
  | [], nw, K, _, _, _, hK => ⟨K, hK, rfl⟩
  | q :: qs, nw, K, hs, okn, hl, hK => by
    obtain ⟨x, hx, e⟩ := ok.ks q (hs q (.head _))
    have hq : q.1.toNat = x := by rw [e]; rfl
    have hl' : nw.length + 4 * (qs.length + 1) ≤ 900000 := hl
    have hfind := find_key ok.nd (hs q (.head _))
    rw [e] at hfind
    obtain ⟨o, ho, h1⟩ := least_held (P := P) (L := L) (r := r) (tl := tl) (by omega) hx hp hfind (show nw.length ≤ 900000 by omega) hK
    obtain ⟨f1, f2, f3⟩ := after_facts x hx p hp r hr hr2
    obtain ⟨g1, g2, g3⟩ := fold_put_ok (m := q.2 + 1 - cntL x p) okn f1
    have e1 : wayStep r p nw q = (afterL r x p).foldl (putL (q.2 + 1 - cntL x p)) nw := by unfold wayStep; rw [hq]
    obtain ⟨K', hK', h2⟩ := least_mid hr hr2 hp ok (px := px) qs (wayStep r p nw q) (K5 x (bitsL x) (q.2 + 1 - cntL x p) (afterL r x p) o) (fun y hy => hs y (.tail _ hy)) (e1 ▸ g1) (by rw [e1]; omega) (.inr ⟨_, _, _, _, _, ho, rfl⟩)
    refine ⟨K', hK', ?_⟩
    rw [← e1] at h1
    refine to_bnd (x := bindD (.Name (Str.ofString "held") px) (.int q.1) _) rfl ?_
    rw [e]
    exact to_bnd h1 h2
end
end Mine

end

section
open PySem PySem.W PyProof.Rows PySem.Calls
set_option maxRecDepth 100000
set_option linter.unusedVariables false
set_option maxHeartbeats 4000000
namespace Mine
noncomputable def minV (w : List (Int × Int)) : Int := (minL (w.map (·.2))).getD 0
theorem minL_some {w : List (Int × Int)} (h : w ≠ []) : minL (w.map (·.2)) = some (minV w) := by
  unfold minV
  cases w with
  | nil => exact absurd rfl h
  | cons a l => rfl
theorem evE_minvals {T : Tab} {n : Nat} {sc : Scope} {σ : St} {f m : Str} {fp ap p2 q : Pos} {o : Expr} {kvs : List (Int × Int)} {v : Int} (hg : glF T sc (.Name f fp) = some .min) (ho : evE T n sc σ o = some (.dict kvs)) (hm : minL (kvs.map (·.2)) = some v) (hc : (m == Str.ofString "values" && plainBase o && ap.endLine == p2.line) = true) :
    evE T (n + 1) sc σ (.Call (.Name f fp) [.Call (.Attribute o m ap) [] [] p2] [] q) = some (.int v) := by
  have hv : valsOf (.Call (.Attribute o m ap) [] [] p2) = some o := to_gd (show (true && (m == Str.ofString "values" && plainBase o && ap.endLine == p2.line)) = true from hc) rfl
  have h1 : minC (evE T n sc σ) [.Call (.Attribute o m ap) [] [] p2] = some (.int v) := to_bnd hv (to_bnd ho (to_mpd hm))
  exact to_gd rfl (to_bnd hg h1)
noncomputable def waysNext (r p : Nat) (ways : List (Int × Int)) : List (Int × Int) := ways.foldl (wayStep r p) []
noncomputable def leastRun (r : Nat) : List Nat → List (Int × Int) → List Int
  | [], _ => []
  | p :: ps, ways => minV (waysNext r p ways) :: leastRun r ps (waysNext r p ways)
noncomputable def IsJ (J : St) : Prop := J = [] ∨ ∃ pg nw K, IsK K ∧ J = (Str.ofString "page", pg) :: (Str.ofString "now", nw) :: K
theorem ways_nil : WaysOk [] := ⟨List.nodup_nil, fun _ h => nomatch h⟩
section
variable {P : Params} {L : List D} {r : Nat} {ways : List (Int × Int)} {tl : List D} {p : Nat}
theorem least_page (hr : r < 4) (hr2 : 2 ≤ r) (hp : p < 4) (ok : WaysOk ways) (hne : ways ≠ []) (hwl : ways.length ≤ 200000) (htl : tl.length ≤ 1000) {J : St} (hJ : IsJ J) :
    ∃ J', IsJ J' ∧ exL (exS (T2 P) ownL 19 (scL P)) lBody (setS (Str.ofString "page") (.val (nD p)) (sgL L r ways tl J)) = some (.next, sgL L r (waysNext r p ways) (tl ++ [.int (minV (waysNext r p ways))]) J') := by
  have hb : lBody = [nthS lBody 0, .For (tgtOf lIn) (iterOf lIn) (loopOf lIn) [] (posF lIn), nthS lBody 2, nthS lBody 3] := by kernel_rfl
  obtain ⟨px, hpx⟩ : ∃ px, tgtOf lIn = Expr.Name (Str.ofString "held") px := ⟨_, rfl⟩
  obtain ⟨K, hK, e0⟩ : ∃ K, IsK K ∧ exS (T2 P) ownL 19 (scL P) (setS (Str.ofString "page") (.val (nD p)) (sgL L r ways tl J)) (nthS lBody 0) = some (.next, sgL L r ways tl ((Str.ofString "page", .val (nD p)) :: (Str.ofString "now", .dct []) :: K)) := by
    rcases hJ with rfl | ⟨pg, nw, K, hK, rfl⟩
    · exact ⟨[], .inl rfl, by kernel_rfl⟩
    · exact ⟨K, hK, by kernel_rfl⟩
  obtain ⟨K', hK', e1⟩ := least_mid (P := P) (L := L) (tl := tl) hr hr2 hp ok (px := px) ways [] K (fun q h => h) ways_nil (by simp; omega) hK
  obtain ⟨w1, w2, w3⟩ := fold_way_ok hr hr2 hp (qs := ways) ways_nil ok.ks
  have hmin := minL_some (w3 (.inl hne))
  rw [hb, hpx]
  refine ⟨(Str.ofString "page", .val (nD p)) :: (Str.ofString "now", .val (.dict (waysNext r p ways))) :: K', .inr ⟨_, _, _, hK', rfl⟩, ?_⟩
  refine exL_next _ e0 (exL_next _ (exS_for (ways.map fun q : Int × Int => D.int q.1) (by kernel_rfl) (by kernel_rfl) (by kernel_rfl) e1) ?_)
  refine exL_next (sgL L r (waysNext r p ways) tl ((Str.ofString "page", .val (nD p)) :: (Str.ofString "now", .val (.dict (waysNext r p ways))) :: K')) (by kernel_rfl) ?_
  exact exL_next _ (exS_append (ds := tl) (d := .int (minV (waysNext r p ways))) (by kernel_rfl) (by kernel_rfl) (by kernel_rfl) (by kernel_rfl) (by kernel_rfl) (by omega) (evE_minvals (kvs := waysNext r p ways) (by kernel_rfl) (by kernel_rfl) hmin (by kernel_rfl))) (by kernel_rfl)
theorem least_loop (hr : r < 4) (hr2 : 2 ≤ r) {px : Pos} : ∀ (ps : List Nat) (ways : List (Int × Int)) (tl : List D) (J : St), (∀ q ∈ ps, q < 4) → WaysOk ways → ways ≠ [] → ways.length * 4 ^ ps.length ≤ 200000 → tl.length + ps.length ≤ 900 → IsJ J →
    ∃ J' w', IsJ J' ∧ forD (fun σ => exL (exS (T2 P) ownL 19 (scL P)) lBody σ) (.Name (Str.ofString "page") px) (ps.map nD) (sgL L r ways tl J) = some (.next, sgL L r w' (tl ++ (leastRun r ps ways).map .int) J')
  | [], ways, tl, J, _, _, _, _, _, hJ => ⟨J, ways, hJ, by rw [show leastRun r [] ways = [] from rfl, List.map_nil (f := D.int), List.append_nil]; rfl⟩
  | p :: ps, ways, tl, J, h4, ok, hne, hwl, htl, hJ => by
    have hl : tl.length + (ps.length + 1) ≤ 900 := htl
    have hpos : 0 < 4 ^ ps.length := Nat.pow_pos (by decide)
    have hwl' : ways.length * (4 ^ ps.length * 4) ≤ 200000 := by rw [List.length_cons, Nat.pow_succ] at hwl; exact hwl
    have hp := h4 p (.head _)
    have hw1 : ways.length ≤ 200000 := Nat.le_trans (Nat.le_mul_of_pos_right _ (Nat.mul_pos hpos (by decide))) hwl'
    obtain ⟨J1, hJ1, e1⟩ := least_page (P := P) (L := L) (tl := tl) hr hr2 hp ok hne hw1 (by omega) hJ
    obtain ⟨w1, w2, w3⟩ := fold_way_ok hr hr2 hp (qs := ways) ways_nil ok.ks
    have hwl2 : (waysNext r p ways).length * 4 ^ ps.length ≤ 200000 := by
      have h1 : (waysNext r p ways).length ≤ 4 * ways.length := by unfold waysNext; simpa using w2
      refine Nat.le_trans (Nat.mul_le_mul_right _ h1) ?_
      rw [Nat.mul_comm 4, Nat.mul_assoc, Nat.mul_comm 4]
      exact hwl'
    obtain ⟨J', w', hJ', e2⟩ := least_loop hr hr2 (px := px) ps (waysNext r p ways) (tl ++ [.int (minV (waysNext r p ways))]) J1 (fun q h => h4 q (.tail _ h)) w1 (w3 (.inl hne)) hwl2 (by simp; omega) hJ1
    refine ⟨J', w', hJ', ?_⟩
    exact to_bnd (x := bindD (.Name (Str.ofString "page") px) (nD p) _) rfl (to_bnd e1 (e2.trans (by rw [List.append_assoc]; rfl)))
end
section
variable {w : World} {g : Heap} {G : Gd w g} {A : Around} {Y : Addr → Prop} {pages : List Nat} {r : Nat}
theorem least_run (h0 : A.handled = none) (hd : A.depth ≤ 335) (hu : A.units ≤ 350) (hr : r < 4) (hr2 : 2 ≤ r) (hp4 : ∀ q ∈ pages, q < 4) (hpl : pages.length ≤ 8)
    {s : Shared} {vs : List Value} (b : Bs (CR G) Y s) (hv : RepL (CR G) Y s.heap vs [dL pages, nD r]) :
    wpAny (CR G).M A (call (.ref 179) vs) (fun v s' => Kp (CR G) s s' ∧ Rep (CR G) Y s'.heap v (.list ((leastRun r pages [(0, 0)]).map .int))) (fun _ _ => False) s := by
  obtain ⟨o, ok⟩ : ∃ o, DefOk (CR G) 179 o (fdA w.params 179) (bodyA w.params 179) [Str.ofString "pages", Str.ofString "room"] := by
    refine defOk_of (by kernel_rfl) (by kernel_rfl) (by kernel_rfl) (fun vs h => ?_) (by decide) (by kernel_rfl) (by kernel_rfl) (by kernel_rfl) (by kernel_rfl) (by kernel_rfl) (by kernel_rfl) (by kernel_rfl) (by kernel_rfl)
    rcases vs with _ | ⟨v, _ | ⟨v', _ | ⟨v2, r⟩⟩⟩ <;> first | (cases h; done) | kernel_rfl
  have fn := fnOk_of (A := A) (own := ownL) (n := 20) ok (by show A.depth < 1000; omega) (fun env => ⟨h0, (by show A.depth + 1 ≤ _; omega), (by show A.units + _ ≤ _; omega)⟩) (fun env => t2_ok h0 (by show A.depth + 1 ≤ _; omega) (by show A.units + _ ≤ _; omega))
  refine fn.run Y s vs _ _ b hv ?_
  obtain ⟨px, hpx⟩ : ∃ px, tgtOf (nthS leastX 2) = Expr.Name (Str.ofString "page") px := ⟨_, rfl⟩
  have hpw : 4 ^ pages.length ≤ 4 ^ 8 := Nat.pow_le_pow_right (by decide) hpl
  obtain ⟨J', w', _, e⟩ := least_loop (P := w.params) (L := pages.map nD) hr hr2 (px := px) pages [(0, 0)] [] [] hp4 ⟨by simp, fun q h => by rw [List.mem_singleton.mp h]; exact ⟨0, by decide, rfl⟩⟩ (by simp) (by simp; omega) (by simp; omega) (.inl rfl)
  have key : ∃ σ, exL (exS (T2 w.params) ownL 20 (fdA w.params 179).scope) leastX (par0 [Str.ofString "pages", Str.ofString "room"] [dL pages, nD r]) = some (.ret (.list ((leastRun r pages [(0, 0)]).map .int)), σ) := by
    have hb : leastX = [nthS leastX 0, nthS leastX 1, .For (tgtOf (nthS leastX 2)) (iterOf (nthS leastX 2)) (loopOf (nthS leastX 2)) [] (posF (nthS leastX 2)), nthS leastX 3] := by kernel_rfl
    rw [hb, hpx]
    refine ⟨setS (Str.ofString "least") (.val (.list ((leastRun r pages [(0, 0)]).map .int))) (sgL (pages.map nD) r w' ((leastRun r pages [(0, 0)]).map .int) J'), exL_next (par0 [Str.ofString "pages", Str.ofString "room"] [dL pages, nD r] ++ [(Str.ofString "ways", .val (.dict [(0, 0)]))]) (by kernel_rfl) (exL_next (sgL (pages.map nD) r [(0, 0)] [] []) (by kernel_rfl) (exL_next _ (exS_for (pages.map nD) (by kernel_rfl) (by kernel_rfl) (by kernel_rfl) e) (exL_ret (by kernel_rfl))))⟩
  obtain ⟨σ, hk⟩ := key
  refine to_gd rfl (to_bnd (a := (.ret _, σ)) ?_ rfl)
  rw [least_x, hk]
end
end Mine

end

section
open PySem PySem.W PyProof.Rows PySem.Calls
set_option maxRecDepth 100000
set_option linter.unusedVariables false
set_option maxHeartbeats 4000000
namespace Mine
theorem sum_n (l : List Nat) : sumD (dL l) = some (nD l.sum) := by
  refine to_bnd (x := asL (dL l)) rfl ((to_mpd (asInts_n l)).trans ?_)
  congr 2
  induction l with
  | nil => rfl
  | cons a l ih => rw [List.map_cons, List.sum_cons, List.sum_cons, ih]; rfl
theorem div_n (a b : Nat) (h : 0 < b) (h2 : b < 1000000000) : binD .FloorDiv (nD a) (nD b) = some (nD (a / b)) :=
  binI_int (f := fun x y => if 0 < y ∧ y < 1000000000 then some (x.fdiv y) else none) ((if_pos (by omega)).trans (by rw [← Int.ofNat_fdiv]))
theorem mod_n (a b : Nat) (h : 0 < b) : binD .Mod (nD a) (nD b) = some (nD (a % b)) :=
  binI_int (f := fun x y => if 0 < y then some (x.fmod y) else none) ((if_pos (by omega)).trans (by rw [← Int.ofNat_fmod]))
theorem add_n (a b : Nat) : binD .Add (nD a) (nD b) = some (nD (a + b)) := rfl
theorem asInts_int : ∀ l : List Int, asInts (l.map D.int) = some l
  | [] => rfl
  | a :: l => to_bnd (x := asI (.int a)) rfl (to_mpd (asInts_int l))
theorem eq_ints (l : List Int) : eqD (.list (l.map D.int)) (.list (l.map D.int)) = some true := by
  have e : listP (.list (l.map D.int)) = some (.list (l.map PyData.int)) := to_bnd (x := asL (.list (l.map D.int))) rfl (to_mpd (asInts_int l))
  have hs := ke_shaped_ints l
  exact to_bnd e (to_bnd e (to_gd (to_and hs hs) (congrArg some (SeqAt.eqv_refl _ (SeqAt.canLay_of_shaped hs)))))
theorem asBools_b : ∀ l : List Bool, asBools (l.map D.bool) = some l
  | [] => rfl
  | a :: l => to_bnd (x := asB (.bool a)) rfl (to_mpd (asBools_b l))
theorem all_b {l : List Bool} (h : ∀ b ∈ l, b = true) : allD (.list (l.map D.bool)) = some (.bool true) :=
  to_bnd (x := asL (.list (l.map D.bool))) rfl ((to_mpd (asBools_b l)).trans (congrArg (fun b => some (D.bool b)) (List.all_eq_true.mpr fun b hb => h b hb)))
section
variable {T : Tab} {n : Nat} {sc : Scope} {σ σ1 σ' : St} {own : List Str}
theorem evE_fn {f : Str} {fp q : Pos} {e : Expr} {es : List Expr} {a : Addr} {ds : List D} {d : D} (hg : glF T sc (.Name f fp) = some (.fn a)) (hs : evs (evE T n sc σ) (e :: es) = some ds) (h : T.fn a ds = some d) : evE T (n + 1) sc σ (.Call (.Name f fp) (e :: es) [] q) = some d := by
  exact to_gd rfl (to_bnd hg (to_gd rfl (to_bnd hs h)))
theorem evE_sum {f : Str} {fp q : Pos} {e : Expr} (a : D) {d : D} (hg : glF T sc (.Name f fp) = some .sum) (hs : noStar e = true) (he : evE T n sc σ e = some a) (h : sumD a = some d) : evE T (n + 1) sc σ (.Call (.Name f fp) [e] [] q) = some d := by
  exact to_gd rfl (to_bnd hg (to_gd hs (to_bnd he h)))
theorem evE_all {f : Str} {fp q : Pos} {e : Expr} (a : D) {d : D} (hg : glF T sc (.Name f fp) = some .all) (hs : noStar e = true) (he : evE T n sc σ e = some a) (h : allD a = some d) : evE T (n + 1) sc σ (.Call (.Name f fp) [e] [] q) = some d := by
  exact to_gd rfl (to_bnd hg (to_gd hs (to_bnd he h)))
theorem evs_cons {ev : Expr → Option D} {a : Expr} {r : List Expr} {x : D} {ds : List D} (ha : ev a = some x) (h1 : noStar a = true) (hr : evs ev r = some ds) : evs ev (a :: r) = some (x :: ds) := by
  exact to_gd h1 (to_bnd ha (to_mpd hr))
theorem evs_nil {ev : Expr → Option D} : evs ev [] = some [] := rfl
theorem compLoop_gen {step : St → Option (List D × St)} {tgt : Expr} {tests : St → Option Bool} {f : D → List D} {I : St → Prop} {Pd : D → St → Prop} : ∀ {its : List D}, (∀ d ∈ its, ∀ σ0, I σ0 → ∃ σb, bindD tgt d σ0 = some σb ∧ Pd d σb) → (∀ d ∈ its, ∀ σb, Pd d σb → tests σb = some true) →
    (∀ d ∈ its, ∀ σb, Pd d σb → ∃ σ1, I σ1 ∧ step σb = some (f d, σ1)) → ∀ σ0, I σ0 → ∃ σ1, I σ1 ∧ compLoop step tgt tests its σ0 = some ((its.map f).flatten, σ1)
  | [], _, _, _, σ0, h0 => ⟨σ0, h0, rfl⟩
  | d :: r, hb, ht, hs, σ0, h0 => by
    obtain ⟨σb, e1, hp⟩ := hb d (.head _) σ0 h0
    obtain ⟨σ1, i1, e2⟩ := hs d (.head _) σb hp
    obtain ⟨σ2, i2, e3⟩ := compLoop_gen (its := r) (fun d hd => hb d (.tail _ hd)) (fun d hd => ht d (.tail _ hd)) (fun d hd => hs d (.tail _ hd)) σ1 i1
    refine ⟨σ2, i2, ?_⟩
    exact to_bnd e1 (to_bnd (ht d (.head _) σb hp) (to_bnd e2 (to_bnd e3 (by rw [List.map_cons, List.flatten_cons]))))
end
end Mine

end

section
open PySem PySem.W PyProof.Rows PySem.Calls
set_option maxRecDepth 100000
set_option linter.unusedVariables false
set_option maxHeartbeats 4000000
namespace Mine
theorem slicePickL_upto {α : Type} (l : List α) (b : Nat) : slicePickL l none (some (b : Int)) none = l.take b := by
  unfold slicePickL
  rw [sliceBounds_plain]
  simp only [sliceRange_one, pick_runL, Option.elim, clipAt_nat, List.drop_zero, Nat.sub_zero]
  rcases Nat.le_total b l.length with h | h
  · rw [Nat.min_eq_left h]
  · rw [Nat.min_eq_right h, List.take_of_length_le (by simp), List.take_of_length_le (by simpa using h)]
theorem slice_upto {l : List D} {k : Nat} (hl : l.length ≤ 1000) : sliceD (.list l) .none (nD k) .none = some (.list (l.take k)) := by
  show (if (none : Option Int) ≠ some 0 ∧ l.length ≤ sizeLine then some (D.list (slicePickL l none (some (k : Int)) none)) else none) = _
  rw [if_pos ⟨nofun, Nat.le_trans hl (by decide)⟩, slicePickL_upto]
theorem ruleD_ok {p : Nat} (hp : p < 4) : ruleD' [nD p] = some (.obj 0 [nD p]) := by
  show (if (0 : Int) ≤ (p : Int) ∧ (p : Int) < 4 then some (D.obj 0 [D.int (p : Int)]) else none) = _
  rw [if_pos (by omega)]
noncomputable def ruleF' (d : D) : D := .obj 0 [d]
theorem pages_of (l : List Nat) : pagesOf (((l.map nD).filter fun _ => true).map ruleF') = some (l.map nD) := by
  rw [List.filter_eq_self.mpr (fun _ _ => rfl)]
  induction l with
  | nil => rfl
  | cons a l ih => exact to_bnd (x := pageOf (.obj 0 [nD a])) (a := nD a) rfl (to_mpd ih)
noncomputable def bookX : List Stmt := fBody (nthS PySem.Challenge.pw_rs0050_02.main.body 10)
theorem bookS_x (P : Params) (i : Nat) (hi : i < 5) : bookS P i = nthS bookX i := by
  have h : ∀ i < 5, i = 0 ∨ i = 1 ∨ i = 2 ∨ i = 3 ∨ i = 4 := by decide
  obtain rfl | rfl | rfl | rfl | rfl := h i hi
  all_goals kernel_rfl
theorem book_val {P : Params} {order : List Nat} {cut : Nat} (h4 : ∀ q ∈ order, q < 4) (hl : order.length = 4) : bookV P [dL order, nD cut] = some (.obj 1 (order.map nD)) := by
  have gl : glF TB (relScope (fdA P 169).scope (fdA P 169).scope) (.Name (Str.ofString "_law_rule") ⟨0, 0, 0, 0⟩) = some (.fn 164) ∨ True := .inr trivial
  have e1 : evE TB 12 (fdA P 169).scope (par0 [sOrder, sCut] [dL order, nD cut]) (lineE (bookS P 1)) = some (.list ((((order.take cut).map nD).filter fun _ => true).map ruleF')) := by
    rw [bookS_x P 1 (by decide)]
    refine evE_comp (its := (order.take cut).map nD) (fun _ => true) ruleF' (by kernel_rfl) (by kernel_rfl) (evI_sub (evE_slice (dL order) .none (nD cut) .none (by kernel_rfl) (by kernel_rfl) (by kernel_rfl) (by kernel_rfl) (by rw [slice_upto (by rw [List.length_map]; omega), List.map_take]))) (fun d _ => rfl) (fun d hd _ => ?_) (by simp; omega)
    obtain ⟨q, hq, rfl⟩ := List.mem_map.mp hd
    exact evE_fn (a := 164) (ds := [nD q]) (by kernel_rfl) (evs1 (by kernel_rfl) (by kernel_rfl)) (ruleD_ok (h4 q (List.mem_of_mem_take hq)))
  have e2 : evE TB 12 (fdA P 169).scope (par0 [sOrder, sCut] [dL order, nD cut]) (lineE (bookS P 3)) = some (.list ((((order.drop cut).map nD).filter fun _ => true).map ruleF')) := by
    rw [bookS_x P 3 (by decide)]
    refine evE_comp (its := (order.drop cut).map nD) (fun _ => true) ruleF' (by kernel_rfl) (by kernel_rfl) (evI_sub (evE_slice (dL order) (nD cut) .none .none (by kernel_rfl) (by kernel_rfl) (by kernel_rfl) (by kernel_rfl) (by rw [slice_from (by rw [List.length_map]; omega), List.map_drop]))) (fun d _ => rfl) (fun d hd _ => ?_) (by simp; omega)
    obtain ⟨q, hq, rfl⟩ := List.mem_map.mp hd
    exact evE_fn (a := 164) (ds := [nD q]) (by kernel_rfl) (evs1 (by kernel_rfl) (by kernel_rfl)) (ruleD_ok (h4 q (List.mem_of_mem_drop hq)))
  unfold bookV
  exact to_bnd (x := two [dL order, nD cut]) rfl (to_bnd e1 (to_bnd (x := asL (.list _)) rfl (to_bnd e2 (to_bnd (x := asL (.list _)) rfl (to_bnd (pages_of _) (to_bnd (pages_of _) ((if_pos (by rw [List.length_map, List.length_map, ← List.length_append, List.take_append_drop, hl]; decide)).trans (by rw [← List.map_append, List.take_append_drop]))))))))
end Mine

end

section
open PySem PySem.W PyProof.Rows PySem.Calls
set_option maxRecDepth 100000
set_option linter.unusedVariables false
set_option maxHeartbeats 4000000
namespace Mine
theorem all_true : ∀ {l : List D}, (∀ x ∈ l, x = D.bool true) → allD (.list l) = some (.bool true) := by
  intro l h
  have e : l = (l.map fun _ => true).map D.bool := by
    rw [List.map_map]
    exact (List.map_id l).symm.trans (List.map_congr_left fun x hx => h x hx)
  rw [e]
  exact all_b fun b hb => by obtain ⟨_, _, rfl⟩ := List.mem_map.mp hb; rfl
theorem evE_compAll {T : Tab} {n : Nat} {sc scope : Scope} {σ σ1 : St} {elt : Expr} {g : Comprehension} {gs : List Comprehension} {q : Pos} {its out : List D} (hok : compOk scope sc (g :: gs) = true) (hsrc : plainSrc g.iter = true) (has : g.is_async = 0) (hit : evI T sc (evE T n sc σ) σ g.iter = some its)
    (hall : compAll (fun σ e => evE T n (relScope scope sc) σ e) (fun σ e => evT (evE T n (relScope scope sc) σ) 8 e) (fun σ e => evI T (relScope scope sc) (evE T n (relScope scope sc) σ) σ e) elt (g :: gs) (captured scope σ) its = some (out, σ1)) (hl : out.length ≤ 1000000) :
    evE T (n + 1) sc σ (.ListComp elt (g :: gs) scope q) = some (.list out) := by
  exact to_gd (to_and (to_and hok hsrc) (to_dec has)) (to_bnd hit (to_bnd hall (if_pos hl)))
theorem ifs2 {α : Type} {p q : Prop} {_ : Decidable p} {_ : Decidable q} {x y z : α} (h : (if p then some x else if q then some y else none) = some z) : (p ∧ x = z) ∨ (q ∧ y = z) := by
  by_cases hp : p
  · rw [if_pos hp] at h; exact .inl ⟨hp, so h⟩
  · rw [if_neg hp] at h; exact .inr ((ifs h).imp id so)
open Classical in
noncomputable def TL (P : Params) (pg ord : List Nat) (M : Nat) : Tab where
  glob := [(Str.ofString "sum", .sum), (Str.ofString "range", .range), (Str.ofString "all", .all), (Str.ofString "_law_book", .fn 169), (Str.ofString "_law_kept", .fn 174), (Str.ofString "_law_least", .fn 179)]
  fn := fun a ds => bif Nat.beq a 169 then bookV P ds else bif Nat.beq a 174 then (if ds = [dL pg, nD 2, nD M, .obj 1 (ord.map nD), dL ord] then some (.list (toldD (keptRun 2 ord pg [] 0))) else if ds = [dL pg, nD 3, nD M, .obj 1 (ord.map nD), dL ord] then some (.list (toldD (keptRun 3 ord pg [] 0))) else none)
    else gd (Nat.beq a 179) (if ds = [dL pg, nD 2] then some (.list ((leastRun 2 pg [(0, 0)]).map .int)) else if ds = [dL pg, nD 3] then some (.list ((leastRun 3 pg [(0, 0)]).map .int)) else none)
  attr := fun _ _ _ => none
  meth := fun _ _ _ _ => none
  accLen := fun _ _ => none
  accStr := fun _ _ => none
  accCall := fun _ _ _ _ => none
section
variable {w : World} {g : Heap} {G : Gd w g} {A : Around} {pg ord : List Nat} {M : Nat}
theorem tl_ok (h0 : A.handled = none) (hd : A.depth ≤ 325) (hu : A.units ≤ 340) (hM : M ≤ 1000) (hG : GoneOk ord) (hp4 : ∀ q ∈ pg, q < 4) (hpl : pg.length ≤ 8) (ho4 : ∀ q ∈ ord, q < 4) (hol : ord.length ≤ 100) : TabOk (CR G) A (TL w.params pg ord M) where
  glob := fun x gl h => gl_cons (P := fun p : Str × Gl => GlobIs (CR G) p.1 p.2.val ∧ (p.1 == ("__debug__" : Str)) = false) ⟨glob_bi (by kernel_rfl) (by kernel_rfl) (by decide), by decide⟩ (gl_cons ⟨glob_bi (by kernel_rfl) (by kernel_rfl) (by decide), by decide⟩ (gl_cons ⟨glob_bi (by kernel_rfl) (by kernel_rfl) (by decide), by decide⟩ (gl_cons ⟨glob_main (by kernel_rfl), by decide⟩ (gl_cons ⟨glob_main (by kernel_rfl), by decide⟩ (gl_cons ⟨glob_main (by kernel_rfl), by decide⟩ gl_nil))))) _ (mem_of_lookup h)
  fn := fun x a ds d h1 h2 => gl_cons (P := fun p : Str × Gl => ∀ a, p.2 = .fn a → FnOk (CR G) A a ((TL w.params pg ord M).fn a)) (fun _ e => by cases e) (gl_cons (fun _ e => by cases e) (gl_cons (fun _ e => by cases e)
    (gl_cons (fun a e => by cases e; exact (book_ok (G := G) h0 (Nat.le_trans hd (by decide)) (Nat.le_trans hu (by decide))).mono fun ds d e => e)
    (gl_cons (fun a e => by
      cases e
      refine ⟨fnAt_of G.X (by kernel_rfl), fun Y s vs ds d b hr he => ?_⟩
      rcases ifs2 he with ⟨e, rfl⟩ | ⟨e, rfl⟩
      · rw [e] at hr; exact kept_run h0 (Nat.le_trans hd (by decide)) (Nat.le_trans hu (by decide)) (.inl rfl) ⟨Int.natCast_nonneg _, by omega⟩ hG hp4 (Nat.le_trans hpl (by decide)) ho4 hol b hr
      · rw [e] at hr; exact kept_run h0 (Nat.le_trans hd (by decide)) (Nat.le_trans hu (by decide)) (.inr rfl) ⟨Int.natCast_nonneg _, by omega⟩ hG hp4 (Nat.le_trans hpl (by decide)) ho4 hol b hr)
    (gl_cons (fun a e => by
      cases e
      refine ⟨fnAt_of G.X (by kernel_rfl), fun Y s vs ds d b hr he => ?_⟩
      rcases ifs2 he with ⟨e, rfl⟩ | ⟨e, rfl⟩
      · rw [e] at hr; exact least_run h0 (Nat.le_trans hd (by decide)) (Nat.le_trans hu (by decide)) (by decide) (by decide) hp4 hpl b hr
      · rw [e] at hr; exact least_run h0 (Nat.le_trans hd (by decide)) (Nat.le_trans hu (by decide)) (by decide) (by decide) hp4 hpl b hr) gl_nil))))) _ (mem_of_lookup h1) a rfl
  attr := fun _ _ _ _ h => nomatch h
  meth := fun _ _ _ _ _ h => nomatch h
  accLen := fun _ _ _ h => nomatch h
  accStr := fun _ _ _ h => nomatch h
  accCall := fun _ _ _ _ _ _ h => nomatch h
  accNew := fun x a h => gl_cons (P := fun p : Str × Gl => ∀ a, p.2 = .acc a → AccNewOk (CR G) A a) (fun _ e => by cases e) (gl_cons (fun _ e => by cases e) (gl_cons (fun _ e => by cases e) (gl_cons (fun _ e => by cases e) (gl_cons (fun _ e => by cases e) (gl_cons (fun _ e => by cases e) gl_nil))))) _ (mem_of_lookup h) a rfl
end
noncomputable def lawX : List Stmt := fBody (nthS PySem.Challenge.pw_rs0050_02.main.body 13)
noncomputable abbrev scW (P : Params) : Scope := (fdA P 184).scope
noncomputable def lawRest : List Stmt := [nthS lawX 1, nthS lawX 2, nthS lawX 3, nthS lawX 4, nthS lawX 5, nthS lawX 6, nthS lawX 7, nthS lawX 8, nthS lawX 9, nthS lawX 10]
noncomputable def turnL (mark : Nat) : List Nat := (List.range 4).map fun k => (mark + k) % 4
noncomputable def orderL (mark : Nat) : List Nat := if mark / 4 % 2 != 0 then (turnL mark).reverse else turnL mark
noncomputable def marginN (mark : Nat) : Nat := mark / 40 % 3
noncomputable def turnF (mark : Nat) : D → D
  | .int i => nD ((mark + i.toNat) % 4)
  | d => d
noncomputable def remF : D → D
  | .int i => nD (i.toNat % 4)
  | d => d
theorem map_turn (mark : Nat) : (((List.range 4).map nD).filter fun _ => true).map (turnF mark) = (turnL mark).map nD := by
  rw [List.filter_eq_self.mpr (fun _ _ => rfl), List.map_map]
  unfold turnL
  rw [List.map_map]
  rfl
theorem map_rem (cs : List Nat) : ((cs.map nD).filter fun _ => true).map remF = (cs.map (· % 4)).map nD := by
  rw [List.filter_eq_self.mpr (fun _ _ => rfl), List.map_map, List.map_map]
  rfl
theorem order_len (mark : Nat) : (orderL mark).length = 4 := by
  unfold orderL
  split <;> simp [turnL]
theorem order_4 (mark : Nat) : ∀ q ∈ orderL mark, q < 4 := by
  have h : ∀ q ∈ turnL mark, q < 4 := fun q hq => by
    obtain ⟨k, _, rfl⟩ := List.mem_map.mp hq
    omega
  unfold orderL
  split
  · exact fun q hq => h q (List.mem_reverse.mp hq)
  · exact h
end Mine

end

section
open PySem PySem.W PyProof.Rows PySem.Calls
set_option maxRecDepth 100000
set_option linter.unusedVariables false
set_option maxHeartbeats 4000000
namespace Mine
theorem keptRun_len {r : Nat} {ord : List Nat} : ∀ {pg kept : List Nat} {m : Int}, (keptRun r ord pg kept m).length = pg.length
  | [], _, _ => rfl
  | _ :: l, _, _ => congrArg Nat.succ (keptRun_len (pg := l))
noncomputable def sgW (x : D) (cs : List Nat) (J : St) : St := (Str.ofString "script", .val x) :: (Str.ofString "cells", .val (dL cs)) :: J
noncomputable def missF : D → List D
  | .tup [a, _] => [a]
  | _ => []
theorem miss_flat (l : List (Int × List Nat)) : ((toldD l).map missF).flatten = (l.map (·.1)).map D.int := by
  unfold toldD
  induction l with
  | nil => rfl
  | cons a l ih =>
    rw [List.map_cons, List.map_cons, List.flatten_cons, ih]; rfl
section
variable {P : Params} {x : D} {cs pg ord : List Nat} {mark M : Nat} {tS tG : List (Int × List Nat)}
theorem miss_comp {T : Tab} {n : Nat} {sc scope : Scope} {σ : St} {elt iter : Expr} {q q1 q2 q3 : Pos} {kk : Nat} {l : List (Int × List Nat)} (hok : compOk scope sc [⟨.Tuple [.Name (Str.ofString "misses") q1, .Name (Str.ofString "kept") q2] kk q3, iter, [], 0⟩] = true) (hsrc : plainSrc iter = true) (hit : evI T sc (evE T n sc σ) σ iter = some (toldD l))
    (hcap : captured scope σ = []) (helt : ∀ a b, evE T n (relScope scope sc) [(Str.ofString "misses", .val a), (Str.ofString "kept", .val b)] elt = some a) (hl : l.length ≤ 1000) :
    evE T (n + 1) sc σ (.ListComp elt [⟨.Tuple [.Name (Str.ofString "misses") q1, .Name (Str.ofString "kept") q2] kk q3, iter, [], 0⟩] scope q) = some (.list ((l.map (·.1)).map .int)) := by
  obtain ⟨σ1, _, h1⟩ := compLoop_gen (tgt := .Tuple [.Name (Str.ofString "misses") q1, .Name (Str.ofString "kept") q2] kk q3) (its := toldD l) (f := missF) (step := fun σ => (evE T n (relScope scope sc) σ elt).map fun d => ([d], σ)) (tests := testsD (fun σ e => evT (evE T n (relScope scope sc) σ) 8 e) [])
    (I := fun σ => σ = [] ∨ ∃ a b, σ = [(Str.ofString "misses", .val a), (Str.ofString "kept", .val b)]) (Pd := fun d σ => ∃ a b, d = .tup [a, b] ∧ σ = [(Str.ofString "misses", .val a), (Str.ofString "kept", .val b)])
    (fun d hd σ0 h0 => by
      obtain ⟨y, _, rfl⟩ := List.mem_map.mp hd
      rcases h0 with rfl | ⟨a, b, rfl⟩
      · exact ⟨[(Str.ofString "misses", .val (.int y.1)), (Str.ofString "kept", .val (dL y.2))], by kernel_rfl, _, _, rfl, rfl⟩
      · exact ⟨[(Str.ofString "misses", .val (.int y.1)), (Str.ofString "kept", .val (dL y.2))], by kernel_rfl, _, _, rfl, rfl⟩)
    (fun d hd σb _ => rfl)
    (fun d hd σb hp => by
      obtain ⟨a, b, rfl, rfl⟩ := hp
      refine ⟨_, .inr ⟨a, b, rfl⟩, ?_⟩
      rw [helt]; rfl)
    (captured scope σ) (.inl hcap)
  refine (evE_compAll (its := toldD l) (out := ((toldD l).map missF).flatten) (σ1 := σ1) hok hsrc rfl hit ?_ ?_).trans (by rw [miss_flat])
  · exact (if_pos rfl).trans h1
  · rw [miss_flat, List.length_map, List.length_map]; exact Nat.le_trans hl (by decide)
theorem all_comp {T : Tab} {n : Nat} {sc scope : Scope} {σ : St} {elt it1 it2 : Expr} {q q1 q2 : Pos} (hok : compOk scope sc [⟨.Name (Str.ofString "k") q1, it1, [], 0⟩, ⟨.Name (Str.ofString "page") q2, it2, [], 0⟩] = true) (hs1 : plainSrc it1 = true) (hs2 : plainSrc it2 = true)
    (hit : evI T sc (evE T n sc σ) σ it1 = some ((List.range 8).map nD)) (hcap : captured scope σ = [(Str.ofString "small", .val (.list (toldD tS))), (Str.ofString "large", .val (.list (toldD tG)))])
    (hit2 : ∀ k < 8, ∀ J, J = [] ∨ (∃ v, J = [(Str.ofString "page", v)]) → evI T (relScope scope sc) (evE T n (relScope scope sc) ((Str.ofString "small", .val (.list (toldD tS))) :: (Str.ofString "large", .val (.list (toldD tG))) :: (Str.ofString "k", .val (nD k)) :: J)) ((Str.ofString "small", .val (.list (toldD tS))) :: (Str.ofString "large", .val (.list (toldD tG))) :: (Str.ofString "k", .val (nD k)) :: J) it2 = some ((tS.getD k (0, [])).2.map nD))
    (helt : ∀ k < 8, ∀ p ∈ (tS.getD k (0, [])).2, evE T n (relScope scope sc) [(Str.ofString "small", .val (.list (toldD tS))), (Str.ofString "large", .val (.list (toldD tG))), (Str.ofString "k", .val (nD k)), (Str.ofString "page", .val (nD p))] elt = some (.bool true)) (hkl : ∀ k < 8, (tS.getD k (0, [])).2.length ≤ 3) :
    ∃ out, evE T (n + 1) sc σ (.ListComp elt [⟨.Name (Str.ofString "k") q1, it1, [], 0⟩, ⟨.Name (Str.ofString "page") q2, it2, [], 0⟩] scope q) = some (.list out) ∧ ∀ y ∈ out, y = D.bool true := by
  let f : D → List D := fun d => match d with
    | .int i => ((tS.getD i.toNat (0, [])).2.map fun _ => D.bool true)
    | _ => []
  let base : Sl → St → St := fun v J => (Str.ofString "small", .val (.list (toldD tS))) :: (Str.ofString "large", .val (.list (toldD tG))) :: (Str.ofString "k", v) :: J
  obtain ⟨σ1, _, h1⟩ := compLoop_gen (tgt := .Name (Str.ofString "k") q1) (its := (List.range 8).map nD) (f := f)
    (step := fun σ => if plainSrc it2 then (evI T (relScope scope sc) (evE T n (relScope scope sc) σ) σ it2).bind fun its => compAll (fun σ e => evE T n (relScope scope sc) σ e) (fun σ e => evT (evE T n (relScope scope sc) σ) 8 e) (fun σ e => evI T (relScope scope sc) (evE T n (relScope scope sc) σ) σ e) elt [⟨.Name (Str.ofString "page") q2, it2, [], 0⟩] σ its else none)
    (tests := testsD (fun σ e => evT (evE T n (relScope scope sc) σ) 8 e) [])
    (I := fun σ => σ = [(Str.ofString "small", .val (.list (toldD tS))), (Str.ofString "large", .val (.list (toldD tG)))] ∨ ∃ v J, (J = [] ∨ ∃ u, J = [(Str.ofString "page", u)]) ∧ σ = base v J)
    (Pd := fun d σ => ∃ J, (J = [] ∨ ∃ u, J = [(Str.ofString "page", u)]) ∧ σ = base (.val d) J)
    (fun d hd σ0 h0 => by
      rcases h0 with rfl | ⟨v, J, hJ, rfl⟩
      · exact ⟨base (.val d) [], by kernel_rfl, [], .inl rfl, rfl⟩
      · exact ⟨base (.val d) J, by kernel_rfl, J, hJ, rfl⟩)
    (fun d hd σb _ => rfl)
    (fun d hd σb hp => by
      obtain ⟨J, hJ, rfl⟩ := hp
      obtain ⟨k, hk, rfl⟩ := List.mem_map.mp hd
      have hk8 : k < 8 := List.mem_range.mp hk
      obtain ⟨σ2, i2, h2⟩ := compLoop_gen (tgt := .Name (Str.ofString "page") q2) (its := (tS.getD k (0, [])).2.map nD) (f := fun _ => [D.bool true]) (step := fun σ => (evE T n (relScope scope sc) σ elt).map fun d => ([d], σ)) (tests := testsD (fun σ e => evT (evE T n (relScope scope sc) σ) 8 e) [])
        (I := fun σ => ∃ J, (J = [] ∨ ∃ u, J = [(Str.ofString "page", u)]) ∧ σ = base (.val (nD k)) J) (Pd := fun d σ => σ = base (.val (nD k)) [(Str.ofString "page", .val d)])
        (fun d hd σ0 h0 => by
          obtain ⟨J, hJ, rfl⟩ := h0
          refine ⟨_, ?_, rfl⟩
          rcases hJ with rfl | ⟨u, rfl⟩ <;> kernel_rfl)
        (fun d hd σb _ => rfl)
        (fun d hd σb hp => by
          subst hp
          obtain ⟨p, hp, rfl⟩ := List.mem_map.mp hd
          refine ⟨base (.val (nD k)) [(Str.ofString "page", .val (nD p))], ⟨[(Str.ofString "page", .val (nD p))], .inr ⟨.val (nD p), rfl⟩, rfl⟩, ?_⟩
          show (evE T n (relScope scope sc) [(Str.ofString "small", .val (.list (toldD tS))), (Str.ofString "large", .val (.list (toldD tG))), (Str.ofString "k", .val (nD k)), (Str.ofString "page", .val (nD p))] elt).map _ = _
          rw [helt k hk8 p hp]; rfl)
        (base (.val (nD k)) J) ⟨J, hJ, rfl⟩
      obtain ⟨J2, hJ2, rfl⟩ := i2
      refine ⟨base (.val (nD k)) J2, .inr ⟨.val (nD k), J2, hJ2, rfl⟩, ?_⟩
      refine (if_pos hs2).trans (to_bnd (hit2 k hk8 J hJ) ((if_pos rfl).trans (h2.trans ?_)))
      have : f (nD k) = ((tS.getD k (0, [])).2.map fun _ => D.bool true) := rfl
      rw [this]
      congr 2
      rw [List.map_map]
      generalize (tS.getD k (0, [])).2 = l
      induction l with
      | nil => rfl
      | cons a l ih => rw [List.map_cons, List.flatten_cons, ih]; rfl)
    (captured scope σ) (.inl hcap)
  have hall : ∀ y ∈ (((List.range 8).map nD).map f).flatten, y = D.bool true := fun y hy => by
    obtain ⟨l, hl, hy⟩ := List.mem_flatten.mp hy
    obtain ⟨d, hd, rfl⟩ := List.mem_map.mp hl
    obtain ⟨k, _, rfl⟩ := List.mem_map.mp hd
    obtain ⟨_, _, e⟩ := List.mem_map.mp (show y ∈ ((tS.getD k (0, [])).2.map fun _ => D.bool true) from hy)
    exact e.symm
  refine ⟨_, evE_compAll (σ1 := σ1) hok hs1 rfl hit ?_ ?_, hall⟩
  · exact (if_pos rfl).trans h1
  · have hlen : ∀ k < 8, (f (nD k)).length ≤ 3 := fun k hk => by
      show ((tS.getD k (0, [])).2.map fun _ => D.bool true).length ≤ 3
      rw [List.length_map]; exact hkl k hk
    have e8 : (List.range 8) = [0, 1, 2, 3, 4, 5, 6, 7] := by decide
    rw [e8]
    simp only [List.map_cons, List.map_nil, List.flatten_cons, List.flatten_nil, List.length_append, List.length_nil]
    have := hlen 0 (by decide); have := hlen 1 (by decide); have := hlen 2 (by decide); have := hlen 3 (by decide)
    have := hlen 4 (by decide); have := hlen 5 (by decide); have := hlen 6 (by decide); have := hlen 7 (by decide)
    omega
theorem evE_all_ex {T : Tab} {n : Nat} {sc : Scope} {σ : St} {f : Str} {fp q : Pos} {e : Expr} (hg : glF T sc (.Name f fp) = some .all) (hs : noStar e = true) (he : ∃ out, evE T n sc σ e = some (.list out) ∧ ∀ y ∈ out, y = D.bool true) : evE T (n + 1) sc σ (.Call (.Name f fp) [e] [] q) = some (.bool true) := by
  obtain ⟨out, h1, h2⟩ := he
  exact evE_all (.list out) hg hs h1 (all_true h2)
theorem law_rest (hcs : cs.length = 8) (hpg : pg = cs.map (· % 4)) (hmk : mark = cs.sum) (hord : ord = orderL mark) (hM : M = marginN mark) (hS : tS = keptRun 2 ord pg [] 0) (hL : tG = keptRun 3 ord pg [] 0)
    (e2 : tS.map (·.1) = leastRun 2 pg [(0, 0)]) (e3 : tG.map (·.1) = leastRun 3 pg [(0, 0)]) (hin : ∀ k < 8, ∀ q ∈ (tS.getD k (0, [])).2, q ∈ (tG.getD k (0, [])).2) (hkl : ∀ k < 8, (tS.getD k (0, [])).2.length ≤ 3) :
    ∃ σ', exL (exS (TL P pg ord M) [] 20 (scW P)) lawRest (sgW x cs []) = some (.ret (.bool true), σ') := by
  have ho4 : ∀ q ∈ ord, q < 4 := by rw [hord]; exact order_4 mark
  have hol : ord.length = 4 := by rw [hord]; exact order_len mark
  have hSl : tS.length = 8 := by rw [hS, keptRun_len, hpg, List.length_map, hcs]
  have hGl : tG.length = 8 := by rw [hL, keptRun_len, hpg, List.length_map, hcs]
  have f169 : (TL P pg ord M).fn 169 [dL ord, nD (mark / 8 % 5)] = some (.obj 1 (ord.map nD)) := by
    show bookV P [dL ord, nD (mark / 8 % 5)] = _
    exact book_val ho4 hol
  have ne3 : ∀ {a : D} {l l' : List D}, ¬ (a :: nD 3 :: l) = a :: nD 2 :: l' := fun e => by
    injection e with _ e
    injection e with e
    injection e with e
    exact absurd e (by decide)
  have f2 : (TL P pg ord M).fn 174 [dL pg, nD 2, nD M, .obj 1 (ord.map nD), dL ord] = some (.list (toldD tS)) := (if_pos rfl).trans (by rw [hS])
  have f3 : (TL P pg ord M).fn 174 [dL pg, nD 3, nD M, .obj 1 (ord.map nD), dL ord] = some (.list (toldD tG)) := (if_neg ne3).trans ((if_pos rfl).trans (by rw [hL]))
  have g2 : (TL P pg ord M).fn 179 [dL pg, nD 2] = some (.list ((leastRun 2 pg [(0, 0)]).map .int)) := if_pos rfl
  have g3 : (TL P pg ord M).fn 179 [dL pg, nD 3] = some (.list ((leastRun 3 pg [(0, 0)]).map .int)) := (if_neg ne3).trans (if_pos rfl)
  have mdl : mark / 40 % 3 = M := by rw [hM]; rfl
  unfold lawRest
  refine ⟨sgW x cs [(Str.ofString "mark", .val (nD mark)), (Str.ofString "pages", .val (dL pg)), (Str.ofString "turned", .val (dL (turnL mark))), (Str.ofString "order", .val (dL ord)), (Str.ofString "book", .val (.obj 1 (ord.map nD))), (Str.ofString "small", .val (.list (toldD tS))), (Str.ofString "large", .val (.list (toldD tG)))], exL_next _ (exS_assign (nD mark) (evE_sum (dL cs) (by kernel_rfl) (by kernel_rfl) (by kernel_rfl) (by rw [sum_n, hmk])) (by kernel_rfl) (by kernel_rfl) (by kernel_rfl) (by kernel_rfl)) ?_⟩
  refine exL_next _ (exS_assign_comp (dL pg) ((evE_comp (its := cs.map nD) (fun _ => true) remF (by kernel_rfl) (by kernel_rfl) (by kernel_rfl) (fun d _ => rfl) (fun d hd _ => ?_) (by simp; omega)).trans (by rw [map_rem, hpg])) (by kernel_rfl) (by kernel_rfl)) ?_
  · obtain ⟨q, hq, rfl⟩ := List.mem_map.mp hd
    exact evE_bin (nD q) (nD 4) (by kernel_rfl) (by kernel_rfl) (mod_n q 4 (by decide))
  refine exL_next _ (exS_assign_comp (dL (turnL mark)) ((evE_comp (its := (List.range 4).map nD) (fun _ => true) (turnF mark) (by kernel_rfl) (by kernel_rfl) (by kernel_rfl) (fun d _ => rfl) (fun d hd _ => ?_) (by simp)).trans (by rw [map_turn])) (by kernel_rfl) (by kernel_rfl)) ?_
  · obtain ⟨q, hq, rfl⟩ := List.mem_map.mp hd
    exact evE_bin (nD (mark + q)) (nD 4) (evE_bin (nD mark) (nD q) (by kernel_rfl) (by kernel_rfl) (add_n mark q)) (by kernel_rfl) (mod_n (mark + q) 4 (by decide))
  refine exL_next _ (exS_assign (dL ord) (evE_if (mark / 4 % 2 != 0) (evT_val (nD (mark / 4 % 2)) (by kernel_rfl) (evE_bin (nD (mark / 4)) (nD 2) (evE_bin (nD mark) (nD 4) (by kernel_rfl) (by kernel_rfl) (div_n mark 4 (by decide) (by decide))) (by kernel_rfl) (mod_n (mark / 4) 2 (by decide))) ?_) ?_) (by kernel_rfl) (by kernel_rfl) (by kernel_rfl) (by kernel_rfl)) ?_
  · show some (((mark / 4 % 2 : Nat) : Int) != 0) = _
    congr 1
    rw [Bool.eq_iff_iff]
    simp only [bne_iff_ne, ne_eq]
    omega
  · rw [hord]
    unfold orderL
    cases mark / 4 % 2 != 0 with
    | true => exact evE_slice (dL (turnL mark)) .none .none (.int (-1)) (by kernel_rfl) (by kernel_rfl) (by kernel_rfl) (by kernel_rfl) (by kernel_rfl)
    | false => kernel_rfl
  refine exL_next _ (exS_assign (.obj 1 (ord.map nD)) (evE_fn (ds := [dL ord, nD (mark / 8 % 5)]) (by kernel_rfl) (evs2 (by kernel_rfl) (evE_bin (nD (mark / 8)) (nD 5) (evE_bin (nD mark) (nD 8) (by kernel_rfl) (by kernel_rfl) (div_n mark 8 (by decide) (by decide))) (by kernel_rfl) (mod_n (mark / 8) 5 (by decide))) (by kernel_rfl) (by kernel_rfl)) f169) (by kernel_rfl) (by kernel_rfl) (by kernel_rfl) (by kernel_rfl)) ?_
  refine exL_next _ (exS_assign (.list (toldD tS)) (evE_fn (ds := [dL pg, nD 2, nD M, .obj 1 (ord.map nD), dL ord]) (by kernel_rfl) (evs_cons (by kernel_rfl) (by kernel_rfl) (evs_cons (by kernel_rfl) (by kernel_rfl) (evs_cons (evE_bin (nD (mark / 40)) (nD 3) (evE_bin (nD mark) (nD 40) (by kernel_rfl) (by kernel_rfl) (div_n mark 40 (by decide) (by decide))) (by kernel_rfl) ((mod_n (mark / 40) 3 (by decide)).trans (by rw [mdl]))) (by kernel_rfl) (evs_cons (by kernel_rfl) (by kernel_rfl) (evs_cons (by kernel_rfl) (by kernel_rfl) evs_nil))))) f2) (by kernel_rfl) (by kernel_rfl) (by kernel_rfl) (by kernel_rfl)) ?_
  refine exL_next _ (exS_assign (.list (toldD tG)) (evE_fn (ds := [dL pg, nD 3, nD M, .obj 1 (ord.map nD), dL ord]) (by kernel_rfl) (evs_cons (by kernel_rfl) (by kernel_rfl) (evs_cons (by kernel_rfl) (by kernel_rfl) (evs_cons (evE_bin (nD (mark / 40)) (nD 3) (evE_bin (nD mark) (nD 40) (by kernel_rfl) (by kernel_rfl) (div_n mark 40 (by decide) (by decide))) (by kernel_rfl) ((mod_n (mark / 40) 3 (by decide)).trans (by rw [mdl]))) (by kernel_rfl) (evs_cons (by kernel_rfl) (by kernel_rfl) (evs_cons (by kernel_rfl) (by kernel_rfl) evs_nil))))) f3) (by kernel_rfl) (by kernel_rfl) (by kernel_rfl) (by kernel_rfl)) ?_
  refine exL_next (sgW x cs [(Str.ofString "mark", .val (nD mark)), (Str.ofString "pages", .val (dL pg)), (Str.ofString "turned", .val (dL (turnL mark))), (Str.ofString "order", .val (dL ord)), (Str.ofString "book", .val (.obj 1 (ord.map nD))), (Str.ofString "small", .val (.list (toldD tS))), (Str.ofString "large", .val (.list (toldD tG)))]) (exS_if false (evT_cmp (.list ((tS.map (·.1)).map .int)) (.list ((leastRun 2 pg [(0, 0)]).map .int)) (miss_comp (l := tS) (by kernel_rfl) (by kernel_rfl) (by kernel_rfl) (by kernel_rfl) (fun a b => by kernel_rfl) (by omega)) (evE_fn (ds := [dL pg, nD 2]) (by kernel_rfl) (evs2 (by kernel_rfl) (by kernel_rfl) (by kernel_rfl) (by kernel_rfl)) g2) ?_ (by kernel_rfl)) (by kernel_rfl)) ?_
  · rw [e2]; show (eqD _ _).map not = _; rw [eq_ints]; rfl
  refine exL_next (sgW x cs [(Str.ofString "mark", .val (nD mark)), (Str.ofString "pages", .val (dL pg)), (Str.ofString "turned", .val (dL (turnL mark))), (Str.ofString "order", .val (dL ord)), (Str.ofString "book", .val (.obj 1 (ord.map nD))), (Str.ofString "small", .val (.list (toldD tS))), (Str.ofString "large", .val (.list (toldD tG)))]) (exS_if false (evT_cmp (.list ((tG.map (·.1)).map .int)) (.list ((leastRun 3 pg [(0, 0)]).map .int)) (miss_comp (l := tG) (by kernel_rfl) (by kernel_rfl) (by kernel_rfl) (by kernel_rfl) (fun a b => by kernel_rfl) (by omega)) (evE_fn (ds := [dL pg, nD 3]) (by kernel_rfl) (evs2 (by kernel_rfl) (by kernel_rfl) (by kernel_rfl) (by kernel_rfl)) g3) ?_ (by kernel_rfl)) (by kernel_rfl)) ?_
  · rw [e3]; show (eqD _ _).map not = _; rw [eq_ints]; rfl
  have hat : ∀ (l : List (Int × List Nat)) (k : Nat), k < 8 → l.length = 8 → (toldD l)[k]? = some (.tup [.int (l.getD k (0, [])).1, dL (l.getD k (0, [])).2]) := fun l k hk hl => by
    unfold toldD
    rw [List.getElem?_map, List.getElem?_eq_getElem (by omega)]
    simp [List.getD, List.getElem?_eq_getElem (show k < l.length by omega)]
  have tl : ∀ (l : List (Int × List Nat)), l.length = 8 → (toldD l).length ≤ 1000 := fun l hl => by unfold toldD; rw [List.length_map]; omega
  have hsub : ∀ {T : Tab} {n : Nat} {sc : Scope} {σ : St} {a b c : Expr} {q1 q2 : Pos} (l : List (Int × List Nat)) (k : Nat), k < 8 → l.length = 8 → evE T n sc σ a = some (.list (toldD l)) → evE T n sc σ b = some (nD k) → evE T (n + 1) sc σ c = some (nD 1) → notSlice b = true → notSlice c = true → evE T (n + 2) sc σ (.Subscript (.Subscript a b q1) c q2) = some (dL (l.getD k (0, [])).2) := fun l k hk hl ha hb hc h1 h2 =>
    evE_sub (.tup [.int (l.getD k (0, [])).1, dL (l.getD k (0, [])).2]) (nD 1) (evE_sub (.list (toldD l)) (nD k) ha hb (item_at (hat l k hk hl) (tl l hl)) h1) hc rfl h2
  refine exL_ret (exS_ret (.bool true) (evE_all_ex (by kernel_rfl) (by kernel_rfl) (all_comp (tS := tS) (tG := tG) (by kernel_rfl) (by kernel_rfl) (by kernel_rfl) (by kernel_rfl) (by kernel_rfl) (fun k hk J hJ => ?_) (fun k hk q hq => ?_) hkl)) (by kernel_rfl))
  · rcases hJ with rfl | ⟨v, rfl⟩
    all_goals exact evI_sub (hsub tS k hk hSl (by kernel_rfl) (by kernel_rfl) (by kernel_rfl) (by kernel_rfl) (by kernel_rfl))
  · exact evE_cmp (nD q) (dL (tG.getD k (0, [])).2) (by kernel_rfl) (hsub tG k hk hGl (by kernel_rfl) (by kernel_rfl) (by kernel_rfl) (by kernel_rfl) (by kernel_rfl)) ((in_list q _).trans (by rw [decide_eq_true (hin k hk q hq)])) (by kernel_rfl)
end
end Mine

end

section
open PySem PySem.W PyProof.Rows PySem.Calls
set_option maxRecDepth 100000
set_option linter.unusedVariables false
set_option maxHeartbeats 4000000
namespace Mine
noncomputable def PlainLaw : Prop := ∀ cs : List Nat, cs.length = 8 → GoneOk (orderL cs.sum) ∧
  ((keptRun 2 (orderL cs.sum) (cs.map (· % 4)) [] 0).map (·.1) = leastRun 2 (cs.map (· % 4)) [(0, 0)]) ∧
  ((keptRun 3 (orderL cs.sum) (cs.map (· % 4)) [] 0).map (·.1) = leastRun 3 (cs.map (· % 4)) [(0, 0)]) ∧
  (∀ k < 8, ∀ q ∈ ((keptRun 2 (orderL cs.sum) (cs.map (· % 4)) [] 0).getD k (0, [])).2, q ∈ ((keptRun 3 (orderL cs.sum) (cs.map (· % 4)) [] 0).getD k (0, [])).2) ∧
  (∀ k < 8, ((keptRun 2 (orderL cs.sum) (cs.map (· % 4)) [] 0).getD k (0, [])).2.length ≤ 3)
section
variable {w : World} {g : Heap} {G : Gd w g} {A : Around} {Y : Addr → Prop}
theorem law_run (hP : PlainLaw) (h0 : A.handled = none) (hd : A.depth ≤ 310) (hu : A.units ≤ 330) {s : Shared} {l : Addr} {vs : List Value} {ns : List Int} (b : Bs (CR G) Y s) (hL : s.heap.IsList l vs.toArray) (hlt : ¬ (CR G).Tb l) (hI : IntsAre vs ns) (hlen : ns.length ≤ 63) :
    wpAny (CR G).M A (call (.ref 184) [.ref l]) (fun v s' => Kp (CR G) s s' ∧ v = .bool true) (fun _ _ => False) s := by
  obtain ⟨o, ok⟩ : ∃ o, DefOk (CR G) 184 o (fdA w.params 184) (bodyA w.params 184) [Str.ofString "script"] := by
    refine defOk_of (by kernel_rfl) (by kernel_rfl) (by kernel_rfl) (fun vs h => ?_) (by decide) (by kernel_rfl) (by kernel_rfl) (by kernel_rfl) (by kernel_rfl) (by kernel_rfl) (by kernel_rfl) (by kernel_rfl) (by kernel_rfl)
    rcases vs with _ | ⟨v, _ | ⟨v', r⟩⟩ <;> first | (simp at h; done) | kernel_rfl
  refine def_run (vs := [.ref l]) (ds := [.obj 2 [.int (l : Nat)]]) ok (by show A.depth < 1000; omega) b (.cons (bare_rep (x := l)) .nil) rfl fun env s1 hf hsc i k1 wfn => ?_
  have hA : Ro (A.deeper env) := ⟨h0, by show A.depth + 1 ≤ _; omega, by show A.units + _ ≤ _; omega⟩
  have hb : bodyA w.params 184 = nthS lawX 0 :: lawRest := by kernel_rfl
  obtain ⟨p1, p2, p3, p4, p5, hst⟩ : ∃ p1 p2 p3 p4 p5, nthS lawX 0 = .Assign [.Name (Str.ofString "cells") p1] (.Call (.Name (Str.ofString "_law_cells") p2) [.Name (Str.ofString "script") p3] [] p4) p5 := ⟨_, _, _, _, _, rfl⟩
  have kd : ∀ x kd, (fdA w.params 184).scope.names.lookup x = some kd → env.kindOf x = some kd := fun x kd h => by unfold Env.kindOf; rw [hsc]; exact h
  have gC := kd (Str.ofString "_law_cells") _ (show _ = some .globalImplicit by kernel_rfl)
  have gtC : GlobIs (CR G) (Str.ofString "_law_cells") (.ref 157) := glob_main (by kernel_rfl)
  have ck : CanSt env (Str.ofString "cells") := .inl (kd _ _ (by kernel_rfl))
  rw [hb, hst]
  refine wpAny_execs_cons (wpAny_Assign_Name (Call_Name rfl (wpAny_Name (glob_ok hf gC gtC i.kp ?_) (by decide))) rfl)
  have f157 : ∀ {h : Heap}, Keep g h → FnAt 157 h := fun {h} k => by
    obtain ⟨oc, od, fd, sl, e⟩ := fnAt_of G.X (a := 157) (by kernel_rfl)
    exact ⟨oc, od, fd, sl, k _ _ e⟩
  have args : Evs (CR G) (A.deeper env) env (fun a => Y a ∧ ¬ (CR G).Tb a) (fun _ => []) (par0 [Str.ofString "script"] [.obj 2 [.int (l : Nat)]]) [.Name (Str.ofString "script") p3] [.obj 2 [.int (l : Nat)]] := .cons rfl (ev_name hf.k rfl (by decide)) .nil
  refine callWith_F (first := []) (f157 i.kp) ((args.spliced _).use i fun vs2 s2 k2 i2 r2 => ⟨f157 i2.kp, ?_⟩) rfl rfl
  cases r2 with | cons ra r2 =>
  cases r2
  obtain rfl := bare_is ra
  show wpAny _ _ (call (.ref 157) [.ref l]) _ _ s2
  have k12 := k1.trans k2
  refine wpAny_top h0 fun gd outer => ?_
  obtain ⟨loose, mean, mg, mb, Gg⟩ := gr_of G (s := s2) (l := []) (dp := A.depth + 1) (un := (A.deeper env).units) (gd := gd) (outer := outer) i2.kp (fun _ h => nomatch h)
  have hid : ∀ {a o}, s2.heap.get? a = some o → (hideAll s2.heap []).get? a = some o := fun e => hideAll_get _ e (by simp)
  have hL2 : (hideAll s2.heap []).IsList l vs.toArray := by
    obtain ⟨ol, e, r⟩ := hL
    exact ⟨ol, hid (k12.kp _ _ hlt e), r⟩
  refine cells_raw (dp := A.depth + 1) (un := (A.deeper env).units) Gg (K1_of_K2 Gg.X) (by show A.depth + 1 + 20 < 1000; omega) hL2 hI hlen fun d c0 c1 c2 c3 c4 c5 c6 c7 t0 t1 t2 t3 t4 t5 t6 t7 n h' tk b0 b1 b2 b3 b4 b5 b6 b7 kh hd' hdn => ?_
  obtain ⟨n0, rfl⟩ := Int.eq_ofNat_of_zero_le b0.1
  obtain ⟨n1, rfl⟩ := Int.eq_ofNat_of_zero_le b1.1
  obtain ⟨n2, rfl⟩ := Int.eq_ofNat_of_zero_le b2.1
  obtain ⟨n3, rfl⟩ := Int.eq_ofNat_of_zero_le b3.1
  obtain ⟨n4, rfl⟩ := Int.eq_ofNat_of_zero_le b4.1
  obtain ⟨n5, rfl⟩ := Int.eq_ofNat_of_zero_le b5.1
  obtain ⟨n6, rfl⟩ := Int.eq_ofNat_of_zero_le b6.1
  obtain ⟨n7, rfl⟩ := Int.eq_ofNat_of_zero_le b7.1
  have k3 : Kp (CR G) s2 { s2 with heap := h', toks := tk } := Kp.heap fun a o e => kh _ _ (hid e)
  have i3 := i2.next k3
  have hdn2 : s2.heap.get? d = none := by
    cases q : s2.heap.get? d with
    | none => rfl
    | some o => rw [hid q] at hdn; cases hdn
  have hrep : Rep (CR G) (Yf (CR G) env (fun a => Y a ∧ ¬ (CR G).Tb a) (fun _ => [])) h' (.ref d) (dL [n0, n1, n2, n3, n4, n5, n6, n7]) :=
    .list (vs := [.int n0 t0, .int n1 t1, .int n2 t2, .int n3 t3, .int n4 t4, .int n5 t5, .int n6 t6, .int n7 t7]) (fun y => i2.yl d y hdn2) ⟨n, hd'⟩ (.cons (.int _ _) (.cons (.int _ _) (.cons (.int _ _) (.cons (.int _ _) (.cons (.int _ _) (.cons (.int _ _) (.cons (.int _ _) (.cons (.int _ _) .nil))))))))
  refine Inv.store_val (A := A.deeper env) hf ck i3 hrep fun s4 i4 g4 => ?_
  rw [upd_nil] at i4
  obtain ⟨hG, e2, e3, hin, hkl⟩ := hP [n0, n1, n2, n3, n4, n5, n6, n7] rfl
  have hT : TabOk (CR G) (A.deeper env) (TL w.params ([n0, n1, n2, n3, n4, n5, n6, n7].map (· % 4)) (orderL [n0, n1, n2, n3, n4, n5, n6, n7].sum) (marginN [n0, n1, n2, n3, n4, n5, n6, n7].sum)) :=
    tl_ok h0 (by show A.depth + 1 ≤ _; omega) (by show A.units + _ ≤ _; omega) (by unfold marginN; omega) hG (fun q hq => by obtain ⟨x, _, rfl⟩ := List.mem_map.mp hq; omega) (by simp) (order_4 _) (by rw [order_len]; omega)
  obtain ⟨σ', e⟩ := law_rest (P := w.params) (x := .obj 2 [.int (l : Nat)]) (cs := [n0, n1, n2, n3, n4, n5, n6, n7]) rfl rfl rfl rfl rfl rfl rfl e2 e3 hin hkl
  have fin := (exL_ok (fun σ st f σ' => exS_sound hA hf hT hsc [] 20 σ st f σ') e).use (Z := fun a => Y a ∧ ¬ (CR G).Tb a) (θ := fun _ => []) (s := s4) i4 (Q := fun fl s' => Kp (CR G) s s' ∧ (match fl with | .ret v => v | _ => .none) = .bool true) (E := fun _ _ => False) fun fl θ' s' i' st fr => by
    cases fr with | ret r =>
    have st4 : Step (CR G) env (fun _ => []) (fun _ => []) s1 s4 := by
      have h1 := (k2.step (env := env) (θ := fun _ => []) i.jj).trans ((k3.step i2.jj).trans (Step.of_upd g4 (as := []) fun a h => nomatch h))
      rwa [upd_nil] at h1
    have := def_end b k1 wfn i' (st4.trans st) r
    refine ⟨this.1, ?_⟩
    cases this.2; rfl
  exact fin
end
end Mine

end

section
open PySem PySem.W PyProof.Rows PySem.Calls
set_option maxRecDepth 100000
set_option linter.unusedVariables false
namespace Mine
theorem idx_sign (p : Nat) : ∀ rest : List Nat, (rest.map (97 + ·) ++ [97 + p]).idxOf (97 + p) = rest.idxOf p
  | [] => by simp
  | a :: l => by
    rw [List.map_cons, List.cons_append, List.idxOf_cons, List.idxOf_cons, idx_sign p l]
    have : (97 + a == 97 + p) = (a == p) := by rw [Bool.eq_iff_iff]; simp
    rw [this]
theorem mOf_eq {p : Nat} (hp : p < 4) (kept rest : List Nat) : mOf (heldL kept) (rest.map (97 + ·)) p = (if p ∈ kept then (1 : Int) + (rest.idxOf p : Nat) else (0 : Int)) := by
  unfold mOf
  rw [idx_sign]
  by_cases h : p ∈ kept
  · rw [if_pos h, if_pos ((mem_held hp kept).mpr h)]
  · rw [if_neg h, if_neg fun q => h ((mem_held hp kept).mp q)]
noncomputable def Better (order rest : List Nat) (g q : Nat) : Prop := rest.idxOf q < rest.idxOf g ∨ (rest.idxOf q = rest.idxOf g ∧ (q = 0 ∨ (g ≠ 0 ∧ order.idxOf g < order.idxOf q)))
theorem Better.asymm {order rest : List Nat} {g q : Nat} (h1 : Better order rest g q) (h2 : Better order rest q g) (hne : g ≠ q) : False := by
  unfold Better at h1 h2
  omega
theorem Better.le {order rest : List Nat} {g q : Nat} (h : Better order rest g q) : rest.idxOf q ≤ rest.idxOf g := by
  unfold Better at h
  omega
noncomputable def GInv (order kept rest pre : List Nat) (st : Int × Option Nat) : Prop := match st.2 with
  | none => st.1 = -1 ∧ ∀ q ∈ pre, q ∉ kept
  | some g => st.1 = 1 + (rest.idxOf g : Nat) ∧ g ∈ kept ∧ g ∈ pre ∧ ∀ q ∈ pre, q ∈ kept → q ≠ g → Better order rest g q
theorem idxOf_lt_of_pre {pre suf : List Nat} {g p : Nat} (hg : g ∈ pre) (hn : p ∉ pre) : (pre ++ p :: suf).idxOf g < (pre ++ p :: suf).idxOf p := by
  rw [List.idxOf_append, List.idxOf_append, if_pos hg, if_neg hn]
  have := List.idxOf_lt_length_of_mem hg
  omega
theorem gone_fold {order kept rest : List Nat} (h4 : ∀ q ∈ order, q < 4) : ∀ (suf pre : List Nat) (st : Int × Option Nat), order = pre ++ suf → order.Nodup → GInv order kept rest pre st → GInv order kept rest order (suf.foldl (allowStep (mOf (heldL kept) (rest.map (97 + ·)))) st)
  | [], pre, st, e, _, h => by rw [List.append_nil] at e; rw [← e] at h; exact h
  | p :: suf, pre, st, e, hn, h => by
    have hp : p < 4 := h4 p (by rw [e]; simp)
    have hnp : p ∉ pre := fun q => by
      rw [e] at hn
      have := (List.nodup_append.mp hn).2.2 p q p (by simp)
      exact this rfl
    rw [List.foldl_cons]
    refine gone_fold h4 suf (pre ++ [p]) _ (by rw [e]; simp) hn ?_
    have hbef : ∀ g ∈ pre, order.idxOf g < order.idxOf p := fun g hg => by rw [e]; exact idxOf_lt_of_pre hg hnp
    obtain ⟨b, a⟩ := st
    unfold allowStep
    rw [mOf_eq hp]
    by_cases hk : p ∈ kept
    · rw [if_pos hk, if_neg (by omega)]
      cases a with
      | none =>
        obtain ⟨h1, h2⟩ := h
        simp only at h1
        rw [if_pos (by simp only; omega)]
        refine ⟨rfl, hk, by simp, fun q hq hqk hne => ?_⟩
        rcases List.mem_append.mp hq with hq | hq
        · exact absurd hqk (h2 q hq)
        · exact absurd (List.mem_singleton.mp hq) hne
      | some g =>
        obtain ⟨h1, h2, h3, h4'⟩ := h
        simp only at h1 h4'
        have hgp : g ≠ p := fun q => hnp (q ▸ h3)
        by_cases hlt : b < (1 : Int) + (rest.idxOf p : Nat)
        · rw [if_pos hlt]
          refine ⟨rfl, hk, by simp, fun q hq hqk hne => ?_⟩
          rcases List.mem_append.mp hq with hq | hq
          · left
            by_cases hqg : q = g
            · subst hqg; omega
            · have := (h4' q hq hqk hqg).le
              omega
          · exact absurd (List.mem_singleton.mp hq) hne
        · rw [if_neg hlt]
          by_cases heq : (1 : Int) + ((rest.idxOf p : Nat) : Int) = b ∧ some g = some 0
          · rw [if_pos heq]
            obtain ⟨e1, e2⟩ := heq
            cases e2
            refine ⟨e1.symm, hk, by simp, fun q hq hqk hne => ?_⟩
            rcases List.mem_append.mp hq with hq | hq
            · by_cases hq0 : q = 0
              · subst hq0; exact .inr ⟨by omega, .inl rfl⟩
              · have := h4' q hq hqk hq0
                unfold Better at this
                left
                omega
            · exact absurd (List.mem_singleton.mp hq) hne
          · rw [if_neg heq]
            refine ⟨h1, h2, by simp [h3], fun q hq hqk hne => ?_⟩
            rcases List.mem_append.mp hq with hq | hq
            · exact h4' q hq hqk hne
            · obtain rfl := List.mem_singleton.mp hq
              have hb := hbef g h3
              by_cases he : 1 + ((rest.idxOf q : Nat) : Int) = b
              · have hg0 : g ≠ 0 := fun e0 => heq ⟨he, by rw [e0]⟩
                exact .inr ⟨by omega, .inr ⟨hg0, hb⟩⟩
              · exact .inl (by omega)
    · rw [if_neg hk, if_pos rfl]
      cases a with
      | none =>
        refine ⟨h.1, fun q hq => ?_⟩
        rcases List.mem_append.mp hq with hq | hq
        · exact h.2 q hq
        · rw [List.mem_singleton.mp hq]; exact hk
      | some g =>
        obtain ⟨h1, h2, h3, h4'⟩ := h
        refine ⟨h1, h2, by simp [h3], fun q hq hqk hne => ?_⟩
        rcases List.mem_append.mp hq with hq | hq
        · exact h4' q hq hqk hne
        · rw [List.mem_singleton.mp hq] at hqk; exact absurd hqk hk
structure Ord4 (order : List Nat) : Prop where
  nd : order.Nodup
  lt : ∀ q ∈ order, q < 4
  all : ∀ q < 4, q ∈ order
theorem gone_char {order kept rest : List Nat} (ho : Ord4 order) (hk : kept ≠ []) (h4 : ∀ q ∈ kept, q < 4) : ∃ g, (goneSt order kept rest).2 = some g ∧ g ∈ kept ∧ ∀ q ∈ kept, q ≠ g → Better order rest g q := by
  have h := gone_fold (kept := kept) (rest := rest) ho.lt order [] (-1, none) rfl ho.nd ⟨rfl, fun _ h => nomatch h⟩
  show ∃ g, (order.foldl (allowStep (mOf (heldL kept) (rest.map (97 + ·)))) (-1, none)).2 = some g ∧ _
  generalize order.foldl (allowStep (mOf (heldL kept) (rest.map (97 + ·)))) (-1, none) = st at h ⊢
  obtain ⟨b, a⟩ := st
  cases a with
  | none =>
    obtain ⟨q, hq⟩ := List.exists_mem_of_ne_nil _ hk
    exact absurd hq (h.2 q (ho.all q (h4 q hq)))
  | some g =>
    obtain ⟨h1, h2, h3, h5⟩ := h
    exact ⟨g, rfl, h2, fun q hq hne => h5 q (ho.all q (h4 q hq)) hq hne⟩
theorem idx_of_sub {y g : Nat} : ∀ {l : List Nat}, l.Nodup → [y, g].Sublist l → l.idxOf y < l.idxOf g
  | [], _, h => by cases h
  | a :: l, hn, h => by
    rw [List.nodup_cons] at hn
    rw [List.idxOf_cons, List.idxOf_cons]
    cases h with
    | cons _ h =>
      have hy : y ∈ l := h.subset (by simp)
      have hg : g ∈ l := h.subset (by simp)
      have h1 : (a == y) = false := by simpa using fun e : a = y => hn.1 (e ▸ hy)
      have h2 : (a == g) = false := by simpa using fun e : a = g => hn.1 (e ▸ hg)
      rw [h1, h2]
      have := idx_of_sub hn.2 h
      simpa using this
    | cons_cons _ h =>
      have hg : g ∈ l := List.singleton_sublist.mp h
      have h2 : (y == g) = false := by simpa using fun e : y = g => hn.1 (e ▸ hg)
      rw [h2]
      simp
theorem gone_ok {order : List Nat} (ho : Ord4 order) : GoneOk order := fun kept rest hk h4 hr4 => by
  obtain ⟨g, hg, hgk, hb⟩ := gone_char (rest := rest) ho hk h4
  refine ⟨g, hg, hgk, fun hne => ?_⟩
  obtain ⟨z, hz⟩ := List.exists_mem_of_ne_nil _ hne
  have hz' := (List.mem_filter.mp hz).2
  simp only [Bool.and_eq_true, decide_eq_true_eq, Bool.not_eq_true', decide_eq_false_iff_not] at hz'
  have idxn : ∀ {q}, q ∉ rest → rest.idxOf q = rest.length := fun h => List.idxOf_eq_length h
  have idxl : ∀ q, rest.idxOf q ≤ rest.length := fun q => List.idxOf_le_length
  -- what goes is never asked for
  have hgr : g ∉ rest := fun hm => by
    have h1 := List.idxOf_lt_length_of_mem hm
    have h2 := idxn hz'.2
    by_cases hzg : z = g
    · exact hz'.2 (hzg ▸ hm)
    · have := (hb z hz'.1 hzg).le
      omega
  have hgn : g ∈ neverL order kept rest := List.mem_filter.mpr ⟨ho.all g (h4 g hgk), by simp [hgk, hgr]⟩
  cases hf : (neverL order kept rest).filter (· != 0) with
  | nil =>
    have : g = 0 := by
      refine Classical.byContradiction fun h0 => ?_
      have : g ∈ (neverL order kept rest).filter (· != 0) := List.mem_filter.mpr ⟨hgn, by simpa using h0⟩
      rw [hf] at this; cases this
    rw [this]; rfl
  | cons y t =>
    show some y = some g
    congr 1
    refine Classical.byContradiction fun hyg => ?_
    have hy : y ∈ (neverL order kept rest).filter (· != 0) := by rw [hf]; simp
    have hy0 : y ≠ 0 := by simpa using (List.mem_filter.mp hy).2
    have hyn := (List.mem_filter.mp hy).1
    have hy2 := (List.mem_filter.mp hyn).2
    simp only [Bool.and_eq_true, decide_eq_true_eq, Bool.not_eq_true', decide_eq_false_iff_not] at hy2
    have hB := hb y hy2.1 hyg
    have e1 := idxn hy2.2
    have e2 := idxn hgr
    unfold Better at hB
    have hB2 : g ≠ 0 ∧ order.idxOf g < order.idxOf y := by omega
    -- but y is the first
    have hgf : g ∈ y :: t := by rw [← hf]; exact List.mem_filter.mpr ⟨hgn, by simpa using hB2.1⟩
    have hgt : g ∈ t := (List.mem_cons.mp hgf).resolve_left (Ne.symm hyg)
    have hsub : (y :: t).Sublist order := by rw [← hf]; exact (List.filter_sublist).trans List.filter_sublist
    have : [y, g].Sublist order := (List.Sublist.cons_cons y (List.singleton_sublist.mpr hgt)).trans hsub
    exact absurd hB2.2 (Nat.not_lt.mpr (Nat.le_of_lt (idx_of_sub ho.nd this)))
end Mine

end

section
open PySem PySem.W PyProof.Rows PySem.Calls
set_option maxRecDepth 100000
set_option linter.unusedVariables false
namespace Mine
noncomputable def cnt (f : Nat → Bool) : Nat := (f 0).toNat + (f 1).toNat + (f 2).toNat + (f 3).toNat
noncomputable def put1 (f : Nat → Bool) (p : Nat) (b : Bool) : Nat → Bool := fun q => if q = p then b else f q
noncomputable def andB (f g : Nat → Bool) : Nat → Bool := fun q => f q && g q
theorem cnt_put (f : Nat → Bool) {p : Nat} (hp : p < 4) (b : Bool) : cnt (put1 f p b) + (f p).toNat = cnt f + b.toNat := by
  obtain rfl | rfl | rfl | rfl := four hp
  all_goals
    unfold cnt put1
    simp
    omega
theorem toNat_mono {a b : Bool} (h : a = true → b = true) : a.toNat ≤ b.toNat := by
  cases a
  · exact Nat.zero_le _
  · rw [h rfl]; exact Nat.le_refl _
theorem cnt_mono {f g : Nat → Bool} (h : ∀ q < 4, f q = true → g q = true) : cnt f ≤ cnt g := by
  have h0 := toNat_mono (h 0 (by decide))
  have h1 := toNat_mono (h 1 (by decide))
  have h2 := toNat_mono (h 2 (by decide))
  have h3 := toNat_mono (h 3 (by decide))
  unfold cnt
  omega
theorem cnt_congr {f g : Nat → Bool} (h : ∀ q < 4, f q = g q) : cnt f = cnt g := by
  unfold cnt
  rw [h 0 (by decide), h 1 (by decide), h 2 (by decide), h 3 (by decide)]
noncomputable def sB (kept : List Nat) : Nat → Bool := fun q => decide (q ∈ kept)
noncomputable def uB (ps : List Nat) (t : Nat) : Nat → Bool := fun q => decide (ps.idxOf q < t)
theorem cnt_kept : ∀ {kept : List Nat}, kept.Nodup → (∀ q ∈ kept, q < 4) → cnt (sB kept) = kept.length
  | [], _, _ => by simp [cnt, sB]
  | a :: l, hn, h4 => by
    rw [List.nodup_cons] at hn
    have ih := cnt_kept hn.2 fun q h => h4 q (.tail _ h)
    have e : cnt (sB (a :: l)) = cnt (put1 (sB l) a true) := cnt_congr fun q _ => by
      unfold sB put1
      by_cases hq : q = a
      · simp [hq]
      · simp [hq]
    have := cnt_put (sB l) (h4 a (.head _)) true
    have h0 : sB l a = false := by simp [sB, hn.1]
    rw [h0] at this
    rw [e, List.length_cons]
    simp at this
    omega
theorem uB_next {p : Nat} {rest : List Nat} {t q : Nat} : uB rest t q = put1 (uB (p :: rest) (t + 1)) p (uB rest t p) q := by
  unfold put1
  by_cases h : q = p
  · rw [if_pos h, h]
  · rw [if_neg h]
    have hb : (p == q) = false := by simpa using fun e : p = q => h e.symm
    unfold uB
    rw [List.idxOf_cons, hb]
    simp
theorem uB_now {p : Nat} {rest : List Nat} {t : Nat} : uB (p :: rest) (t + 1) p = true := by simp [uB]
theorem and_put {f g : Nat → Bool} {p : Nat} {a b : Bool} : ∀ q, andB (put1 f p a) (put1 g p b) q = put1 (andB f g) p (a && b) q := fun q => by
  unfold andB put1
  split <;> rfl
theorem cnt_ask {f f' : Nat → Bool} {p : Nat} {rest : List Nat} {t : Nat} (hp : p < 4) (hf : ∀ q < 4, f' q = put1 f p true q) :
    cnt (andB f' (uB rest t)) + (f p).toNat = cnt (andB f (uB (p :: rest) (t + 1))) + (uB rest t p).toNat := by
  have e : cnt (andB f' (uB rest t)) = cnt (put1 (andB f (uB (p :: rest) (t + 1))) p (uB rest t p)) := cnt_congr fun q hq => by
    have h1 : andB f' (uB rest t) q = andB (put1 f p true) (put1 (uB (p :: rest) (t + 1)) p (uB rest t p)) q := by
      show (f' q && uB rest t q) = (put1 f p true q && put1 (uB (p :: rest) (t + 1)) p (uB rest t p) q)
      rw [hf q hq, ← uB_next]
    rw [h1, and_put, Bool.true_and]
  have h := cnt_put (andB f (uB (p :: rest) (t + 1))) hp (uB rest t p)
  have h2 : andB f (uB (p :: rest) (t + 1)) p = f p := by unfold andB; rw [uB_now, Bool.and_true]
  rw [h2] at h
  omega
theorem cnt_room {f : Nat → Bool} {p : Nat} {rest : List Nat} {t : Nat} (hp : p < 4) (hf : f p = true) : cnt (andB f (uB rest t)) + 1 ≤ cnt f + (uB rest t p).toNat := by
  have h := cnt_put f hp (uB rest t p)
  rw [hf] at h
  have h2 : cnt (andB f (uB rest t)) ≤ cnt (put1 f p (uB rest t p)) := cnt_mono fun q _ hq => by
    unfold andB at hq
    unfold put1
    rw [Bool.and_eq_true] at hq
    split
    · rename_i e; rw [← e]; exact hq.2
    · exact hq.1
  simp at h
  omega
noncomputable def bitC1 (h p : Nat) : Bool := hasB h p || (List.range 4).all fun q => hasB (h + 2 ^ p) q == (hasB h q || q == p)
noncomputable def bitC2 (h p y : Nat) : Bool := hasB h p || !hasB h y || (List.range 4).all fun q => hasB (h - 2 ^ y + 2 ^ p) q == ((hasB h q && q != y) || q == p)
noncomputable def bitC3 (h : Nat) : Bool := (bitsL h).length == cnt (hasB h) && (bitsL h).all (fun b => (List.range 4).any fun y => b == 2 ^ y && hasB h y) && (List.range 4).all fun y => !hasB h y || (bitsL h).contains (2 ^ y)
theorem bit_chk : (List.range 16).all (fun h => bitC3 h && (List.range 4).all fun p => bitC1 h p && (List.range 4).all fun y => bitC2 h p y) = true := by decide +kernel
theorem bit1 {h p : Nat} (hh : h < 16) (hp : p < 4) (hn : hasB h p = false) : ∀ q < 4, hasB (h + 2 ^ p) q = put1 (hasB h) p true q := fun q hq => by
  have h1 := List.all_eq_true.mp bit_chk h (List.mem_range.mpr hh)
  rw [Bool.and_eq_true] at h1
  have h2 := List.all_eq_true.mp h1.2 p (List.mem_range.mpr hp)
  rw [Bool.and_eq_true] at h2
  have h3 := h2.1
  unfold bitC1 at h3
  rw [hn, Bool.false_or] at h3
  have h4 := eq_of_beq (List.all_eq_true.mp h3 q (List.mem_range.mpr hq))
  rw [h4]
  unfold put1
  by_cases e : q = p
  · simp [e]
  · simp [e]
theorem bit2 {h p y : Nat} (hh : h < 16) (hp : p < 4) (hy : y < 4) (hn : hasB h p = false) (hyh : hasB h y = true) : ∀ q < 4, hasB (h - 2 ^ y + 2 ^ p) q = put1 (put1 (hasB h) y false) p true q := fun q hq => by
  have h1 := List.all_eq_true.mp bit_chk h (List.mem_range.mpr hh)
  rw [Bool.and_eq_true] at h1
  have h2 := List.all_eq_true.mp h1.2 p (List.mem_range.mpr hp)
  rw [Bool.and_eq_true] at h2
  have h3 := List.all_eq_true.mp h2.2 y (List.mem_range.mpr hy)
  unfold bitC2 at h3
  rw [hn, hyh] at h3
  simp only [Bool.not_true, Bool.or_self, Bool.false_or] at h3
  have h4 := eq_of_beq (List.all_eq_true.mp h3 q (List.mem_range.mpr hq))
  rw [h4]
  unfold put1
  by_cases e : q = p
  · simp [e]
  · have e1 : (q == p) = false := by simpa using e
    by_cases e2 : q = y
    · have e3 : (q != y) = false := by simp [e2]
      rw [e1, e3, if_neg e, if_pos e2]; simp
    · have e3 : (q != y) = true := by simpa using e2
      rw [e1, e3, if_neg e, if_neg e2]; simp
theorem bit3 {h : Nat} (hh : h < 16) : (bitsL h).length = cnt (hasB h) ∧ (∀ b ∈ bitsL h, ∃ y < 4, b = 2 ^ y ∧ hasB h y = true) ∧ ∀ y < 4, hasB h y = true → 2 ^ y ∈ bitsL h := by
  have h1 := List.all_eq_true.mp bit_chk h (List.mem_range.mpr hh)
  rw [Bool.and_eq_true] at h1
  have h3 := h1.1
  unfold bitC3 at h3
  rw [Bool.and_eq_true, Bool.and_eq_true] at h3
  refine ⟨eq_of_beq h3.1.1, fun b hb => ?_, fun y hy hyh => ?_⟩
  · obtain ⟨y, hy, e⟩ := List.any_eq_true.mp (List.all_eq_true.mp h3.1.2 b hb)
    rw [Bool.and_eq_true] at e
    exact ⟨y, List.mem_range.mp hy, eq_of_beq e.1, e.2⟩
  · have := List.all_eq_true.mp h3.2 y (List.mem_range.mpr hy)
    rw [hyh] at this
    simpa using this
theorem after_char {r h p a : Nat} (hh : h < 16) (ha : a ∈ afterL r h p) : (hasB h p = true ∧ a = h) ∨ (hasB h p = false ∧ cnt (hasB h) < r ∧ a = h + 2 ^ p) ∨ (hasB h p = false ∧ r ≤ cnt (hasB h) ∧ ∃ y < 4, hasB h y = true ∧ a = h - 2 ^ y + 2 ^ p) := by
  obtain ⟨b1, b2, _⟩ := bit3 hh
  unfold afterL at ha
  cases hb : hasB h p with
  | true => rw [hb] at ha; exact .inl ⟨rfl, List.mem_singleton.mp ha⟩
  | false =>
    rw [hb] at ha
    cases hl : Nat.blt (bitsL h).length r with
    | true => rw [hl] at ha; rw [Nat.blt_eq] at hl; exact .inr (.inl ⟨rfl, by omega, List.mem_singleton.mp ha⟩)
    | false =>
      rw [hl] at ha
      have hl' : ¬ (bitsL h).length < r := fun q => by rw [← Nat.blt_eq, hl] at q; cases q
      obtain ⟨b, hb', e⟩ := List.mem_map.mp ha
      obtain ⟨y, hy, rfl, hyh⟩ := b2 b hb'
      exact .inr (.inr ⟨rfl, by omega, y, hy, hyh, e.symm⟩)
theorem after_has {r h p : Nat} (hh : h < 16) : (hasB h p = true → h ∈ afterL r h p) ∧ (hasB h p = false → cnt (hasB h) < r → h + 2 ^ p ∈ afterL r h p) ∧ (hasB h p = false → r ≤ cnt (hasB h) → ∀ y < 4, hasB h y = true → h - 2 ^ y + 2 ^ p ∈ afterL r h p) := by
  obtain ⟨b1, _, b3⟩ := bit3 hh
  refine ⟨fun h1 => ?_, fun h1 h2 => ?_, fun h1 h2 y hy hyh => ?_⟩
  · unfold afterL; rw [h1]; simp
  · have : Nat.blt (bitsL h).length r = true := by rw [Nat.blt_eq]; omega
    unfold afterL; rw [h1, this]; simp
  · have : Nat.blt (bitsL h).length r = false := by
      cases e : Nat.blt (bitsL h).length r with
      | false => rfl
      | true => rw [Nat.blt_eq] at e; omega
    unfold afterL; rw [h1, this]
    exact List.mem_map.mpr ⟨2 ^ y, b3 y hy hyh, rfl⟩
end Mine

end

section
open PySem PySem.W PyProof.Rows PySem.Calls
set_option maxRecDepth 100000
set_option linter.unusedVariables false
namespace Mine
theorem mem_store {kvs : List (Int × Int)} {k v : Int} {e : Int × Int} (h : e ∈ storeKv kvs k v) : e ∈ kvs ∨ e = (k, v) := by
  unfold storeKv at h
  split at h
  · obtain ⟨p, hp, rfl⟩ := List.mem_map.mp h
    split
    · rename_i hk; right; rw [← hk]
    · exact .inl hp
  · rcases List.mem_append.mp h with h | h
    · exact .inl h
    · exact .inr (List.mem_singleton.mp h)
theorem store_has {kvs : List (Int × Int)} {k v : Int} : (k, v) ∈ storeKv kvs k v := by
  unfold storeKv
  split
  · rename_i h
    obtain ⟨p, hp, hk⟩ := List.any_eq_true.mp h
    have hk' : p.1 = k := by simpa using hk
    exact List.mem_map.mpr ⟨p, hp, by rw [if_pos hk', hk']⟩
  · simp
theorem store_old {kvs : List (Int × Int)} {k v : Int} {e : Int × Int} (h : e ∈ kvs) (hne : e.1 ≠ k) : e ∈ storeKv kvs k v := by
  unfold storeKv
  split
  · exact List.mem_map.mpr ⟨e, h, by rw [if_neg hne]⟩
  · exact List.mem_append_left _ h
theorem getKv_or (kvs : List (Int × Int)) (k d : Int) : getKv kvs k d = d ∨ (k, getKv kvs k d) ∈ kvs := by
  unfold getKv
  cases h : kvs.find? fun p => decide (p.1 = k) with
  | none => left; rfl
  | some p =>
    right
    have h1 := List.mem_of_find?_eq_some h
    have h2 : p.1 = k := by simpa using List.find?_some h
    show (k, p.2) ∈ kvs
    rw [← h2]; exact h1
theorem getKv_key {kvs : List (Int × Int)} (hn : (kvs.map (·.1)).Nodup) {k v d : Int} (h : (k, v) ∈ kvs) : getKv kvs k d = v := by
  have := find_key hn h
  unfold getKv
  simp only at this
  rw [this]; rfl
theorem minI_le (a b : Int) : minI a b ≤ a ∧ minI a b ≤ b ∧ (minI a b = a ∨ minI a b = b) := by
  unfold minI
  split <;> omega
theorem put_good {P : Int × Int → Prop} {m : Int} {now : List (Int × Int)} {a : Nat} (h : ∀ e ∈ now, P e) (hm : P ((a : Int), m)) : ∀ e ∈ putL m now a, P e := fun e he => by
  rcases mem_store he with he | rfl
  · exact h e he
  · obtain ⟨_, _, h3⟩ := minI_le m (getKv now a m)
    rcases h3 with h3 | h3
    · rw [h3]; exact hm
    · rw [h3]
      rcases getKv_or now a m with h4 | h4
      · rw [h4]; exact hm
      · exact h _ h4
theorem puts_good {P : Int × Int → Prop} {m : Int} : ∀ {l : List Nat} {now : List (Int × Int)}, (∀ e ∈ now, P e) → (∀ a ∈ l, P ((a : Int), m)) → ∀ e ∈ l.foldl (putL m) now, P e
  | [], now, h, _ => h
  | a :: l, now, h, hl => puts_good (l := l) (put_good h (hl a (.head _))) fun b hb => hl b (.tail _ hb)
theorem put_has {m x : Int} {now : List (Int × Int)} {a : Nat} {b : Int} (hn : (now.map (·.1)).Nodup) (h : ∃ v, (b, v) ∈ now ∧ v ≤ x) : ∃ v, (b, v) ∈ putL m now a ∧ v ≤ x := by
  obtain ⟨v, hv, hx⟩ := h
  by_cases hb : b = (a : Int)
  · subst hb
    have e := getKv_key hn hv (d := m)
    refine ⟨minI m (getKv now a m), store_has, ?_⟩
    have := (minI_le m (getKv now a m)).2.1
    omega
  · exact ⟨v, store_old hv hb, hx⟩
theorem puts_has {m x : Int} : ∀ {l : List Nat} {now : List (Int × Int)} {b : Int}, WaysOk now → (∀ a ∈ l, a < 16) → (∃ v, (b, v) ∈ now ∧ v ≤ x) → ∃ v, (b, v) ∈ l.foldl (putL m) now ∧ v ≤ x
  | [], now, b, _, _, h => h
  | a :: l, now, b, ok, hl, h => puts_has (l := l) (ok.store (hl a (.head _)) _) (fun c hc => hl c (.tail _ hc)) (put_has ok.nd h)
theorem puts_new {m : Int} : ∀ {l : List Nat} {now : List (Int × Int)}, WaysOk now → (∀ a ∈ l, a < 16) → ∀ a ∈ l, ∃ v, ((a : Int), v) ∈ l.foldl (putL m) now ∧ v ≤ m
  | [], _, _, _, a, ha => by cases ha
  | c :: l, now, ok, hl, a, ha => by
    rcases List.mem_cons.mp ha with rfl | ha
    · refine puts_has (l := l) (ok.store (hl a (.head _)) _) (fun c hc => hl c (.tail _ hc)) ⟨minI m (getKv now a m), store_has, (minI_le _ _).1⟩
    · exact puts_new (l := l) (ok.store (hl c (.head _)) _) (fun c hc => hl c (.tail _ hc)) a ha
section
variable {r p : Nat}
theorem ways_good {P : Int × Int → Prop} (hp : p < 4) : ∀ {qs now : List (Int × Int)}, (∀ q ∈ qs, ∃ h : Nat, h < 16 ∧ q.1 = (h : Int)) → (∀ e ∈ now, P e) → (∀ h c, (((h : Nat) : Int), c) ∈ qs → h < 16 → ∀ a ∈ afterL r h p, P ((a : Int), c + 1 - cntL h p)) → ∀ e ∈ qs.foldl (wayStep r p) now, P e
  | [], now, _, h, _ => h
  | q :: qs, now, hk, h, hq => by
    obtain ⟨x, hx, e⟩ := hk q (.head _)
    refine ways_good hp (qs := qs) (fun y hy => hk y (.tail _ hy)) ?_ fun h c hm => hq h c (.tail _ hm)
    unfold wayStep
    have hq1 : q.1.toNat = x := by rw [e]; rfl
    rw [hq1]
    refine puts_good h fun a ha => hq x q.2 ?_ hx a ha
    rw [← e]; exact .head _
theorem ways_has (hr : r < 4) (hr2 : 2 ≤ r) (hp : p < 4) {x : Int} : ∀ {qs now : List (Int × Int)} {b : Int}, (∀ q ∈ qs, ∃ h : Nat, h < 16 ∧ q.1 = (h : Int)) → WaysOk now → (∃ v, (b, v) ∈ now ∧ v ≤ x) → ∃ v, (b, v) ∈ qs.foldl (wayStep r p) now ∧ v ≤ x
  | [], now, b, _, _, h => h
  | q :: qs, now, b, hk, ok, h => by
    obtain ⟨y, hy, e⟩ := hk q (.head _)
    have hq1 : q.1.toNat = y := by rw [e]; rfl
    obtain ⟨f1, _, _⟩ := after_facts y hy p hp r hr hr2
    refine ways_has hr hr2 hp (qs := qs) (fun z hz => hk z (.tail _ hz)) ?_ ?_
    · unfold wayStep; rw [hq1]; exact (fold_put_ok ok f1).1
    · unfold wayStep; rw [hq1]; exact puts_has ok f1 h
theorem ways_new (hr : r < 4) (hr2 : 2 ≤ r) (hp : p < 4) : ∀ {qs now : List (Int × Int)}, (∀ q ∈ qs, ∃ h : Nat, h < 16 ∧ q.1 = (h : Int)) → WaysOk now → ∀ h c, (((h : Nat) : Int), c) ∈ qs → h < 16 → ∀ a ∈ afterL r h p, ∃ v, ((a : Int), v) ∈ qs.foldl (wayStep r p) now ∧ v ≤ c + 1 - cntL h p
  | [], _, _, _, h, c, hm => by cases hm
  | q :: qs, now, hk, ok, h, c, hm => fun hh a ha => by
    obtain ⟨y, hy, e⟩ := hk q (.head _)
    have hq1 : q.1.toNat = y := by rw [e]; rfl
    obtain ⟨f1, _, _⟩ := after_facts y hy p hp r hr hr2
    have ok2 : WaysOk (wayStep r p now q) := by unfold wayStep; rw [hq1]; exact (fold_put_ok ok f1).1
    rcases List.mem_cons.mp hm with hm | hm
    · have hy2 : h = y := by rw [← hm] at e; simp only at e; omega
      subst hy2
      refine ways_has hr hr2 hp (qs := qs) (fun z hz => hk z (.tail _ hz)) ok2 ?_
      unfold wayStep
      rw [hq1, ← hm]
      exact puts_new ok f1 a ha
    · exact ways_new hr hr2 hp (qs := qs) (fun z hz => hk z (.tail _ hz)) ok2 h c hm hh a ha
end
theorem minL_spec {l : List Int} {v : Int} (h : minL l = some v) : v ∈ l ∧ ∀ x ∈ l, v ≤ x := by
  cases l with
  | nil => cases h
  | cons n r =>
    simp only [minL, Option.some.injEq] at h
    subst h
    have : ∀ (r : List Int) (n : Int), (r.foldl (fun m y => if y < m then y else m) n = n ∨ r.foldl (fun m y => if y < m then y else m) n ∈ r) ∧ r.foldl (fun m y => if y < m then y else m) n ≤ n ∧ ∀ x ∈ r, r.foldl (fun m y => if y < m then y else m) n ≤ x := by
      intro r
      induction r with
      | nil => intro n; exact ⟨.inl rfl, Int.le_refl _, fun _ h => nomatch h⟩
      | cons a r ih =>
        intro n
        rw [List.foldl_cons]
        obtain ⟨h1, h2, h3⟩ := ih (if a < n then a else n)
        refine ⟨?_, ?_, fun x hx => ?_⟩
        · rcases h1 with h1 | h1
          · rw [h1]; split
            · exact .inr (.head _)
            · exact .inl rfl
          · exact .inr (.tail _ h1)
        · have : (if a < n then a else n) ≤ n := by split <;> omega
          omega
        · rcases List.mem_cons.mp hx with rfl | hx
          · have : (if x < n then x else n) ≤ x := by split <;> omega
            omega
          · exact h3 x hx
    obtain ⟨h1, h2, h3⟩ := this r n
    refine ⟨?_, fun x hx => ?_⟩
    · rcases h1 with h1 | h1
      · rw [h1]; exact .head _
      · exact .tail _ h1
    · rcases List.mem_cons.mp hx with rfl | hx
      · exact h2
      · exact h3 x hx
end Mine

end

section
open PySem PySem.W PyProof.Rows PySem.Calls
set_option maxRecDepth 100000
set_option linter.unusedVariables false
namespace Mine
noncomputable def GoodW (r : Nat) (ps kept : List Nat) (m : Int) (e : Int × Int) : Prop := ∃ h : Nat, h < 16 ∧ e.1 = (h : Int) ∧ cnt (hasB h) ≤ r ∧ ∀ t, (cnt (andB (hasB h) (uB ps t)) : Int) ≤ cnt (andB (sB kept) (uB ps t)) + (e.2 - m)
noncomputable def SameB (kept : List Nat) (h : Nat) : Prop := ∀ q < 4, hasB h q = sB kept q
structure RInv (r : Nat) (ps kept : List Nat) (m : Int) (ways : List (Int × Int)) : Prop where
  len : kept.length ≤ r
  nd : kept.Nodup
  lt : ∀ q ∈ kept, q < 4
  ok : WaysOk ways
  ne : ways ≠ []
  good : ∀ e ∈ ways, GoodW r ps kept m e
  has : ∃ (h : Nat) (c : Int), h < 16 ∧ SameB kept h ∧ ((h : Int), c) ∈ ways ∧ c ≤ m
section
variable {order : List Nat} {r p : Nat} {rest kept : List Nat} {m : Int}
inductive KeptStep (r : Nat) (rest kept kept' : List Nat) (p : Nat) : Int → Prop
  | hit : p ∈ kept → kept' = kept → KeptStep r rest kept kept' p 0
  | room : p ∉ kept → kept.length < r → (∀ q < 4, sB kept' q = put1 (sB kept) p true q) → KeptStep r rest kept kept' p 1
  | out (g : Nat) : p ∉ kept → r ≤ kept.length → g < 4 → g ∈ kept → g ≠ p → (∀ q ∈ kept, rest.idxOf q ≤ rest.idxOf g) → (∀ q < 4, sB kept' q = put1 (put1 (sB kept) g false) p true q) → KeptStep r rest kept kept' p 1
theorem kept_step (ho : Ord4 order) (hr0 : 0 < r) (hn : kept.Nodup) (h4 : ∀ q ∈ kept, q < 4) : ∃ d, KeptStep r rest kept (keptNext r order kept p rest) p d ∧ missNext kept m p = m + d := by
  unfold keptNext missNext
  by_cases hpk : p ∈ kept
  · rw [if_pos hpk, if_pos hpk]
    exact ⟨0, .hit hpk rfl, by omega⟩
  · rw [if_neg hpk, if_neg hpk]
    refine ⟨1, ?_, rfl⟩
    by_cases hf : r ≤ kept.length
    · rw [if_pos hf]
      have hk0 : kept ≠ [] := fun e => by rw [e] at hf; simp at hf; omega
      obtain ⟨g, hg, hgk, hb⟩ := gone_char (rest := rest) ho hk0 h4
      rw [hg]
      have hgp : g ≠ p := fun e => hpk (e ▸ hgk)
      refine .out g hpk hf (h4 g hgk) hgk hgp (fun q hq => ?_) fun q _ => ?_
      · by_cases e : q = g
        · rw [e]; exact Nat.le_refl _
        · exact (hb q hq e).le
      · show decide (q ∈ kept.erase g ++ [p]) = _
        unfold put1 sB
        by_cases e : q = p
        · simp [e]
        · by_cases e2 : q = g
          · subst e2
            have : q ∉ kept.erase q := fun h => (List.Nodup.mem_erase_iff hn).mp h |>.1 rfl
            simp [e, this]
          · have : q ∈ kept.erase g ↔ q ∈ kept := by rw [List.Nodup.mem_erase_iff hn]; simp [e2]
            simp [e, e2, this]
    · rw [if_neg hf]
      refine .room hpk (by omega) fun q _ => ?_
      show decide (q ∈ kept ++ [p]) = _
      unfold put1 sB
      by_cases e : q = p
      · simp [e]
      · simp [e]
theorem good_step {kept' : List Nat} {d : Int} (hp : p < 4) (hlen : kept.length ≤ r) (hn : kept.Nodup) (h4 : ∀ q ∈ kept, q < 4) (hs : KeptStep r rest kept kept' p d) {h : Nat} {c : Int} (hg : GoodW r (p :: rest) kept m ((h : Int), c)) (hh : h < 16) {a : Nat} (ha16 : a < 16) (ha : a ∈ afterL r h p) :
    GoodW r rest kept' (m + d) ((a : Int), c + 1 - cntL h p) := by
  obtain ⟨h', hh', e', hcr, hD⟩ := hg
  have : h' = h := by simp only at e'; omega
  subst this
  clear e' hh'
  -- the way's count
  have hway : cnt (hasB a) ≤ r ∧ hasB a p = true ∧ (∀ t, cnt (andB (hasB a) (uB rest t)) + (hasB h' p).toNat ≤ cnt (andB (hasB h') (uB (p :: rest) (t + 1))) + (uB rest t p).toNat) := by
    rcases after_char hh ha with ⟨hb, rfl⟩ | ⟨hb, hlt, rfl⟩ | ⟨hb, hge, y, hy, hyh, rfl⟩
    · refine ⟨hcr, hb, fun t => Nat.le_of_eq (cnt_ask hp fun q hq => ?_)⟩
      unfold put1
      by_cases e : q = p
      · rw [if_pos e, e]; exact hb
      · rw [if_neg e]
    · have hbit := bit1 hh hp hb
      refine ⟨?_, by rw [hbit p hp]; simp [put1], fun t => Nat.le_of_eq (cnt_ask hp hbit)⟩
      have h1 := cnt_put (hasB h') hp true
      rw [← cnt_congr hbit, hb] at h1
      simp at h1
      omega
    · have hbit := bit2 hh hp hy hb hyh
      have hyp : y ≠ p := fun e => by rw [e, hb] at hyh; cases hyh
      refine ⟨?_, by rw [hbit p hp]; simp [put1], fun t => ?_⟩
      · have h1 := cnt_put (put1 (hasB h') y false) hp true
        have h2 := cnt_put (hasB h') hy false
        rw [← cnt_congr hbit] at h1
        have h3 : put1 (hasB h') y false p = false := by unfold put1; rw [if_neg (Ne.symm hyp)]; exact hb
        rw [h3] at h1
        rw [hyh] at h2
        simp at h1 h2
        omega
      · have h1 := cnt_ask (rest := rest) (t := t) hp hbit
        have h3 : put1 (hasB h') y false p = false := by unfold put1; rw [if_neg (Ne.symm hyp)]; exact hb
        rw [h3] at h1
        have h4 : cnt (andB (put1 (hasB h') y false) (uB (p :: rest) (t + 1))) ≤ cnt (andB (hasB h') (uB (p :: rest) (t + 1))) := cnt_mono fun q _ hq => by
          unfold andB put1 at hq
          unfold andB
          rw [Bool.and_eq_true] at hq ⊢
          refine ⟨?_, hq.2⟩
          have := hq.1
          split at this
          · cases this
          · exact this
        rw [hb]
        omega
  obtain ⟨w1, w2, w3⟩ := hway
  refine ⟨a, ha16, rfl, w1, fun t => ?_⟩
  have hDt := hD (t + 1)
  have hD1 := hD 1
  have w3t := w3 t
  have wroom := cnt_room (rest := rest) (t := t) hp w2
  -- at one: the page itself
  have one : ∀ f : Nat → Bool, cnt (andB f (uB (p :: rest) 1)) = (f p).toNat := fun f => by
    have e : cnt (andB f (uB (p :: rest) 1)) = cnt (put1 (fun _ => false) p (f p)) := cnt_congr fun q _ => by
      unfold andB put1
      by_cases hq : q = p
      · rw [if_pos hq, hq, uB_now, Bool.and_true]
      · rw [if_neg hq]
        have hb : (p == q) = false := by simpa using fun e : p = q => hq e.symm
        have : uB (p :: rest) 1 q = false := by
          unfold uB
          rw [List.idxOf_cons, hb]
          simp
        rw [this, Bool.and_false]
    have h1 := cnt_put (fun _ => false) hp (f p)
    have h0 : cnt (fun _ => false) = 0 := rfl
    rw [h0] at h1
    simp at h1
    omega
  rw [one, one] at hD1
  have hcl : cntL h' p = ((hasB h' p).toNat : Int) := by unfold cntL; cases hasB h' p <;> rfl
  have tn : ∀ b : Bool, b.toNat ≤ 1 := fun b => by cases b <;> simp
  have th := tn (hasB h' p)
  have tu := tn (uB rest t p)
  rw [hcl]
  show (cnt (andB (hasB a) (uB rest t)) : Int) ≤ cnt (andB (sB kept') (uB rest t)) + (c + 1 - ((hasB h' p).toNat : Int) - (m + d))
  simp only at hDt hD1
  cases hs with
  | hit hpk e =>
    subst e
    have hsp : sB kept' p = true := by simp [sB, hpk]
    have h1 := cnt_ask (f := sB kept') (f' := sB kept') (rest := rest) (t := t) hp fun q hq => by
      unfold put1
      by_cases e : q = p
      · rw [if_pos e, e]; exact hsp
      · rw [if_neg e]
    rw [hsp] at h1 hD1
    simp only [Bool.toNat_true] at h1 hD1
    omega
  | room hpk hlt hk =>
    have hsp : sB kept p = false := by simp [sB, hpk]
    have h1 := cnt_ask (rest := rest) (t := t) hp hk
    rw [hsp] at h1 hD1
    simp only [Bool.toNat_false] at h1 hD1
    omega
  | out g hpk hge hg4 hgk hgp hmax hk =>
    have hsp : sB kept p = false := by simp [sB, hpk]
    have h1 := cnt_ask (rest := rest) (t := t) hp hk
    have h2 : put1 (sB kept) g false p = false := by unfold put1; rw [if_neg (Ne.symm hgp)]; exact hsp
    rw [h2] at h1
    rw [hsp] at hD1
    simp only [Bool.toNat_false] at h1 hD1
    -- g, put out
    have h3 : cnt (andB (put1 (sB kept) g false) (uB (p :: rest) (t + 1))) + (uB (p :: rest) (t + 1) g).toNat = cnt (andB (sB kept) (uB (p :: rest) (t + 1))) := by
      have e : cnt (andB (put1 (sB kept) g false) (uB (p :: rest) (t + 1))) = cnt (put1 (andB (sB kept) (uB (p :: rest) (t + 1))) g false) := cnt_congr fun q _ => by
        unfold andB put1
        split <;> rfl
      have h5 := cnt_put (andB (sB kept) (uB (p :: rest) (t + 1))) hg4 false
      have h6 : andB (sB kept) (uB (p :: rest) (t + 1)) g = uB (p :: rest) (t + 1) g := by unfold andB; simp [sB, hgk]
      rw [h6] at h5
      simp only [Bool.toNat_false] at h5
      omega
    cases hu : uB (p :: rest) (t + 1) g with
    | false =>
      rw [hu] at h3
      simp only [Bool.toNat_false] at h3
      omega
    | true =>
      rw [hu] at h3
      simp only [Bool.toNat_true] at h3
      -- all that is kept is asked for by then
      have h5 : cnt (andB (sB kept) (uB (p :: rest) (t + 1))) = cnt (sB kept) := cnt_congr fun q _ => by
        unfold andB
        by_cases hq : q ∈ kept
        · have hm := hmax q hq
          have hqp : q ≠ p := fun e => hpk (e ▸ hq)
          have b1 : (p == q) = false := by simpa using fun e : p = q => hqp e.symm
          have b2 : (p == g) = false := by simpa using fun e : p = g => hgp e.symm
          have hu2 : rest.idxOf g + 1 < t + 1 := by
            unfold uB at hu
            rw [List.idxOf_cons, b2] at hu
            simpa using hu
          have : uB (p :: rest) (t + 1) q = true := by
            unfold uB
            rw [List.idxOf_cons, b1]
            simp
            omega
          rw [this, Bool.and_true]
        · have : sB kept q = false := by simp [sB, hq]
          rw [this, Bool.false_and]
      have h6 := cnt_kept hn h4
      omega
end
end Mine

end

section
open PySem PySem.W PyProof.Rows PySem.Calls
set_option maxRecDepth 100000
set_option linter.unusedVariables false
namespace Mine
section
variable {order : List Nat} {r : Nat}
theorem uB_zero (ps : List Nat) (f : Nat → Bool) : cnt (andB f (uB ps 0)) = 0 := by
  have e : cnt (andB f (uB ps 0)) = cnt (fun _ => false) := cnt_congr fun q _ => by unfold andB uB; simp
  rw [e]; rfl
theorem rinv_step (ho : Ord4 order) (hr : r = 2 ∨ r = 3) {p : Nat} {rest kept : List Nat} {m : Int} {ways : List (Int × Int)} (hp : p < 4) (hr4 : ∀ q ∈ rest, q < 4) (I : RInv r (p :: rest) kept m ways) :
    RInv r rest (keptNext r order kept p rest) (missNext kept m p) (waysNext r p ways) ∧ minV (waysNext r p ways) = missNext kept m p := by
  have hr3 : r < 4 := by omega
  have hr2 : 2 ≤ r := by omega
  obtain ⟨n1, n2, n3⟩ := keptNext_ok hr I.len I.nd I.lt hp hr4 (gone_ok ho)
  obtain ⟨d, hs, hm⟩ := kept_step (r := r) (rest := rest) (p := p) (m := m) ho (by omega) I.nd I.lt
  obtain ⟨w1, w2, w3⟩ := fold_way_ok hr3 hr2 hp (qs := ways) ways_nil I.ok.ks
  have hne : waysNext r p ways ≠ [] := w3 (.inl I.ne)
  have good : ∀ e ∈ waysNext r p ways, GoodW r rest (keptNext r order kept p rest) (missNext kept m p) e := by
    refine ways_good hp I.ok.ks (fun _ h => nomatch h) fun h c hmem hh a ha => ?_
    obtain ⟨f1, _, _⟩ := after_facts h hh p hp r hr3 hr2
    rw [hm]
    exact good_step hp I.len I.nd I.lt hs (I.good _ hmem) hh (f1 a ha) ha
  have has : ∃ (h : Nat) (c : Int), h < 16 ∧ SameB (keptNext r order kept p rest) h ∧ ((h : Int), c) ∈ waysNext r p ways ∧ c ≤ missNext kept m p := by
    obtain ⟨h, c, hh, hB, hmem, hc⟩ := I.has
    obtain ⟨a1, a2, a3⟩ := after_has (r := r) (h := h) (p := p) hh
    have hcnt : cnt (hasB h) = kept.length := (cnt_congr hB).trans (cnt_kept I.nd I.lt)
    have new := fun a ha => ways_new hr3 hr2 hp I.ok.ks ways_nil h c hmem hh a ha
    have f1 := (after_facts h hh p hp r hr3 hr2).1
    have hpB := hB p hp
    rw [hm]
    generalize keptNext r order kept p rest = kept' at hs ⊢
    cases hs with
    | hit hpk e =>
      subst e
      have hb : hasB h p = true := by rw [hpB]; simp [sB, hpk]
      obtain ⟨v, hv, hle⟩ := new h (a1 hb)
      refine ⟨h, v, hh, hB, hv, ?_⟩
      have : cntL h p = 1 := by unfold cntL; rw [hb]; rfl
      omega
    | room hpk hlt hk =>
      have hb : hasB h p = false := by rw [hpB]; simp [sB, hpk]
      have ha := a2 hb (by omega)
      obtain ⟨v, hv, hle⟩ := new _ ha
      refine ⟨_, v, f1 _ ha, fun q hq => ?_, hv, ?_⟩
      · rw [bit1 hh hp hb q hq, hk q hq]
        unfold put1
        split
        · rfl
        · exact hB q hq
      · have : cntL h p = 0 := by unfold cntL; rw [hb]; rfl
        omega
    | out g hpk hge hg4 hgk hgp hmax hk =>
      have hb : hasB h p = false := by rw [hpB]; simp [sB, hpk]
      have hgB : hasB h g = true := by rw [hB g hg4]; simp [sB, hgk]
      have ha := a3 hb (by omega) g hg4 hgB
      obtain ⟨v, hv, hle⟩ := new _ ha
      refine ⟨_, v, f1 _ ha, fun q hq => ?_, hv, ?_⟩
      · rw [bit2 hh hp hg4 hb hgB q hq, hk q hq]
        unfold put1
        split
        · rfl
        · split
          · rfl
          · exact hB q hq
      · have : cntL h p = 0 := by unfold cntL; rw [hb]; rfl
        omega
  refine ⟨⟨n1, n2, n3, w1, hne, good, has⟩, ?_⟩
  obtain ⟨s1, s2⟩ := minL_spec (minL_some hne)
  obtain ⟨h, c, hh, hB, hmem, hc⟩ := has
  have le := s2 c (List.mem_map.mpr ⟨_, hmem, rfl⟩)
  obtain ⟨e, he, hv⟩ := List.mem_map.mp s1
  obtain ⟨h', _, _, _, hD⟩ := good e he
  have h0 := hD 0
  rw [uB_zero, uB_zero] at h0
  omega
theorem opt_run (ho : Ord4 order) (hr : r = 2 ∨ r = 3) : ∀ {ps kept : List Nat} {m : Int} {ways : List (Int × Int)}, (∀ q ∈ ps, q < 4) → RInv r ps kept m ways → (keptRun r order ps kept m).map (·.1) = leastRun r ps ways
  | [], _, _, _, _, _ => rfl
  | p :: rest, kept, m, ways, h4, I => by
    have hr4 : ∀ q ∈ rest, q < 4 := fun q h => h4 q (.tail _ h)
    obtain ⟨I', e⟩ := rinv_step ho hr (h4 p (.head _)) hr4 I
    simp only [keptRun, leastRun, List.map_cons, e]
    rw [opt_run ho hr hr4 I']
theorem rinv_start (hr : r = 2 ∨ r = 3) (ps : List Nat) : RInv r ps [] 0 [(0, 0)] := by
  have hz : ∀ q < 4, hasB 0 q = false := by decide
  have c0 : ∀ f, cnt (andB (hasB 0) f) = 0 := fun f => by
    have e : cnt (andB (hasB 0) f) = cnt (fun _ => false) := cnt_congr fun q hq => by unfold andB; rw [hz q hq]; rfl
    rw [e]; rfl
  have c1 : cnt (hasB 0) = 0 := by decide
  refine ⟨Nat.zero_le _, List.nodup_nil, (fun _ h => nomatch h), ⟨by simp, fun q h => by rw [List.mem_singleton.mp h]; exact ⟨0, by decide, rfl⟩⟩, by simp, fun e he => ?_, ⟨0, 0, by decide, fun q hq => by rw [hz q hq]; simp [sB], by simp, Int.le_refl _⟩⟩
  rw [List.mem_singleton.mp he]
  refine ⟨0, by decide, rfl, by omega, fun t => ?_⟩
  rw [c0]
  simp
structure SInv (a b : List Nat) : Prop where
  la : a.length ≤ 2
  lb : b.length ≤ 3
  na : a.Nodup
  nb : b.Nodup
  a4 : ∀ q ∈ a, q < 4
  b4 : ∀ q ∈ b, q < 4
  sub : ∀ q ∈ a, q ∈ b
  eq : a.length < 2 → b = a
theorem sinv_step (ho : Ord4 order) {p : Nat} {rest a b : List Nat} (hp : p < 4) (hr4 : ∀ q ∈ rest, q < 4) (I : SInv a b) : SInv (keptNext 2 order a p rest) (keptNext 3 order b p rest) := by
  obtain ⟨a1, a2, a3⟩ := keptNext_ok (.inl rfl) I.la I.na I.a4 hp hr4 (gone_ok ho)
  obtain ⟨b1, b2, b3⟩ := keptNext_ok (.inr rfl) I.lb I.nb I.b4 hp hr4 (gone_ok ho)
  have hin : ∀ l : List Nat, ∀ q, q ∈ l ++ [p] ↔ q ∈ l ∨ q = p := fun l q => by simp
  have key : (∀ q ∈ keptNext 2 order a p rest, q ∈ keptNext 3 order b p rest) ∧ ((keptNext 2 order a p rest).length < 2 → keptNext 3 order b p rest = keptNext 2 order a p rest) := by
    unfold keptNext
    by_cases hpa : p ∈ a
    · rw [if_pos hpa, if_pos (I.sub p hpa)]
      exact ⟨I.sub, I.eq⟩
    · rw [if_neg hpa]
      by_cases hfa : 2 ≤ a.length
      · rw [if_pos hfa]
        have ha0 : a ≠ [] := fun e => by rw [e] at hfa; simp at hfa
        obtain ⟨y, hy, hya, hyb⟩ := gone_char (rest := rest) ho ha0 I.a4
        rw [hy]
        have len : ¬ (a.erase y ++ [p]).length < 2 := by
          rw [List.length_append, List.length_erase_of_mem hya]; simp; omega
        refine ⟨fun q hq => ?_, fun h => absurd h len⟩
        have hq' : q ∈ a.erase y ∨ q = p := (hin _ q).mp hq
        by_cases hpb : p ∈ b
        · rw [if_pos hpb]
          rcases hq' with hq' | rfl
          · exact I.sub q (List.mem_of_mem_erase hq')
          · exact hpb
        · rw [if_neg hpb]
          refine (hin _ q).mpr ?_
          rcases hq' with hq' | rfl
          · left
            by_cases hfb : 3 ≤ b.length
            · rw [if_pos hfb]
              have hb0 : b ≠ [] := fun e => by rw [e] at hfb; simp at hfb
              obtain ⟨z, hz, hzb, hzbet⟩ := gone_char (rest := rest) ho hb0 I.b4
              rw [hz]
              have hqa := List.mem_of_mem_erase hq'
              have hqy : q ≠ y := (List.Nodup.mem_erase_iff I.na).mp hq' |>.1
              refine (List.Nodup.mem_erase_iff I.nb).mpr ⟨fun e => ?_, I.sub q hqa⟩
              subst e
              exact (hzbet y (I.sub y hya) (Ne.symm hqy)).asymm (hyb q hqa hqy) hqy
            · rw [if_neg hfb]; exact I.sub q (List.mem_of_mem_erase hq')
          · exact .inr rfl
      · rw [if_neg hfa]
        have e := I.eq (by omega)
        rw [e, if_neg hpa, if_neg (by omega)]
        exact ⟨fun q h => h, fun _ => rfl⟩
  exact ⟨a1, b1, a2, b2, a3, b3, key.1, key.2⟩
theorem incl_run (ho : Ord4 order) : ∀ {ps a b : List Nat} {m m' : Int}, (∀ q ∈ ps, q < 4) → SInv a b → ∀ k q, q ∈ ((keptRun 2 order ps a m).getD k (0, [])).2 → q ∈ ((keptRun 3 order ps b m').getD k (0, [])).2
  | [], _, _, _, _, _, _, k, q, h => by simp [keptRun] at h
  | p :: rest, a, b, m, m', h4, I, k, q, h => by
    have hr4 : ∀ q ∈ rest, q < 4 := fun q h => h4 q (.tail _ h)
    have I' := sinv_step (rest := rest) ho (h4 p (.head _)) hr4 I
    cases k with
    | zero => exact I'.sub q h
    | succ k => exact incl_run ho hr4 I' k q h
theorem len_run (ho : Ord4 order) : ∀ {ps a : List Nat} {m : Int}, (∀ q ∈ ps, q < 4) → a.length ≤ 2 → a.Nodup → (∀ q ∈ a, q < 4) → ∀ k, ((keptRun 2 order ps a m).getD k (0, [])).2.length ≤ 3
  | [], _, _, _, _, _, _, k => by simp [keptRun]
  | p :: rest, a, m, h4, hl, hn, ha, k => by
    have hr4 : ∀ q ∈ rest, q < 4 := fun q h => h4 q (.tail _ h)
    obtain ⟨a1, a2, a3⟩ := keptNext_ok (.inl rfl) hl hn ha (h4 p (.head _)) hr4 (gone_ok ho)
    cases k with
    | zero => exact Nat.le_succ_of_le a1
    | succ k => exact len_run ho hr4 a1 a2 a3 k
end
theorem ord_of_chk {l : List Nat} (h : (decide l.Nodup && l.all (fun q => Nat.blt q 4) && (List.range 4).all fun q => l.contains q) = true) : Ord4 l := by
  simp only [Bool.and_eq_true, decide_eq_true_eq, List.all_eq_true, Nat.blt_eq] at h
  exact ⟨h.1.1, h.1.2, fun q hq => by simpa using h.2 q (List.mem_range.mpr hq)⟩
theorem order_ok (mark : Nat) : Ord4 (orderL mark) := by
  have e : turnL mark = turnL (mark % 4) := List.map_congr_left fun k _ => (Nat.mod_add_mod mark 4 k).symm
  have key : Ord4 (turnL mark) ∧ Ord4 (turnL mark).reverse := by
    rw [e]
    obtain h | h | h | h := four (Nat.mod_lt mark (by decide : 0 < 4)) <;> rw [h] <;> exact ⟨ord_of_chk (by decide), ord_of_chk (by decide)⟩
  unfold orderL
  split
  · exact key.2
  · exact key.1
theorem plain_law : PlainLaw := fun cs hcs => by
  have ho := order_ok cs.sum
  have h4 : ∀ q ∈ cs.map (· % 4), q < 4 := fun q hq => by
    obtain ⟨x, _, rfl⟩ := List.mem_map.mp hq
    omega
  exact ⟨gone_ok ho, opt_run ho (.inl rfl) h4 (rinv_start (.inl rfl) _), opt_run ho (.inr rfl) h4 (rinv_start (.inr rfl) _),
    fun k _ => incl_run ho h4 ⟨Nat.zero_le _, Nat.zero_le _, List.nodup_nil, List.nodup_nil, (fun _ h => nomatch h), (fun _ h => nomatch h), fun _ h => h, fun _ => rfl⟩ k,
    fun k _ => len_run ho h4 (Nat.zero_le _) List.nodup_nil (fun _ h => nomatch h) k⟩
end Mine

end

section
open PySem PySem.W PyProof.Rows PySem.Calls
set_option maxRecDepth 100000
set_option maxHeartbeats 8000000
set_option linter.unusedVariables false
namespace Mine
noncomputable abbrev tb3 : List Addr := [111, 118, 159]
noncomputable def ownsTab (K : Frag) (c P : Addr) : Bool := match K.lookup c with
  | some ⟨.type n, _, .fields vs, _⟩ => n == "code" && (match (vs[11]? : Option Value) with
    | some (Value.ref q) => q == P
    | _ => false)
  | _ => false
theorem owns_tab {K : Frag} {h : Heap} {c P : Addr} (X : K.In h) (e : ownsTab K c P = true) : isCodeTable h P := by
  unfold ownsTab at e
  split at e
  · rename_i n d vs sl ho
    rw [Bool.and_eq_true] at e
    obtain ⟨e1, e2⟩ := e
    split at e2
    · rename_i q hv
      have hn : n = "code" := eq_of_beq e1
      have hq : q = P := eq_of_beq e2
      subst hn hq
      exact ⟨c, _, vs, X _ _ ho, rfl, rfl, hv⟩
    · cases e2
  · cases e
section
variable {w : World} {h : Heap} {loose : List Str} {mean : ExcName → Option Value} {mg mb : Str → Option Value} {p : Program}
structure Tabs3 (h : Heap) : Prop where
  a : h.get? 111 = some tab0
  b : h.get? 118 = some tab0
  c : h.get? 159 = some tab0
theorem hid_get (t : Tabs3 h) {b : Addr} {o : Obj} (e : h.get? b = some o) (ho : o ≠ tab0) : (hideAll h tb3).get? b = some o := hideAll_get _ e fun q => by
  simp only [tb3, List.mem_cons, List.not_mem_nil, or_false] at q
  rcases q with rfl | rfl | rfl
  · rw [t.a] at e; cases e; exact ho rfl
  · rw [t.b] at e; cases e; exact ho rfl
  · rw [t.c] at e; cases e; exact ho rfl
theorem hid_ns (t : Tabs3 h) {a : Addr} {m : Str → Option Value} (x : h.Ns a m) : (hideAll h tb3).Ns a m :=
  let ⟨o, es, ep, e, hd, r⟩ := x; ⟨o, es, ep, hid_get t e (fun q => by rw [q] at hd; cases hd), hd, r⟩
theorem hid_top (t : Tabs3 h) (T : Top p loose mean mg mb h) :
    Top topProg (loose ++ (recsOf p).map (·.name) ++ (litsOf p).map (·.1) ++ (clssOf p loose).map (·.name)) mean mg mb (hideAll h tb3) where
  g := hid_ns t T.g
  b := hid_ns t T.b
  nolimit := let ⟨mc, a, r⟩ := T.nolimit; ⟨mc, hid_ns t a, r⟩
  nodigits := let ⟨mc, a, r⟩ := T.nodigits; ⟨mc, hid_ns t a, r⟩
  fn := fun d hd => absurd (show d ∈ ([] : List DefRec) from hd) List.not_mem_nil
  own := fun o ho => absurd (show o ∈ ([] : List OwnSpec) from ho) List.not_mem_nil
  const := fun x d e => by cases (show (none : Option PyData) = some d from e)
  free := fun x h1 h2 _ _ _ => T.free x h1 (fun q => h2 (List.mem_append_left _ (List.mem_append_left _ (List.mem_append_left _ q))))
    (fun q => h2 (List.mem_append_left _ (List.mem_append_left _ (List.mem_append_right _ q)))) (fun q => h2 (List.mem_append_left _ (List.mem_append_right _ q))) fun q => h2 (List.mem_append_right _ q)
  builtins := T.builtins
  tab := fun d hd => absurd (show d ∈ ([] : List DefRec) from hd) List.not_mem_nil
  bmain := let ⟨bm, ob, a1, a2, a3, a4, r⟩ := T.bmain; ⟨bm, ob, a1, a2, hid_get t a3 (fun q => by rw [q] at a4; cases a4), a4, r⟩
  seer := fun e => absurd (show false = true from e) Bool.false_ne_true
theorem gd_of (X : (Mine.hK w.params).In h) (t3 : Tabs3 h) (T : Top p loose mean mg mb h) : Gd w (hideAll h tb3) := by
  have hk : ((Mine.hK w.params).all fun p => !(Nat.beq p.1 111 || Nat.beq p.1 118 || Nat.beq p.1 159)) = true := by kernel_rfl
  refine ⟨fun a o e => hideAll_get _ (X a o e) fun q => ?_, ⟨_, _, _, _, hid_top t3 T⟩, hideAll_none _ (by simp), hideAll_none _ (by simp), hideAll_none _ (by simp)⟩
  have := List.all_eq_true.mp hk _ (mem_of_lookupK e)
  simp only [tb3, List.mem_cons, List.not_mem_nil, or_false] at q
  rcases q with rfl | rfl | rfl <;> simp at this
theorem top_run (hP : PlainLaw) {s : Shared} (X : (Mine.hK w.params).In s.heap) (t3 : Tabs3 s.heap) (T : Top p loose mean mg mb s.heap) (hg : s.gens = #[]) {l : Addr} {vs : List Value} {ns : List Int} (hL : s.heap.IsList l vs.toArray) (hI : IntsAre vs ns) (hlen : ns.length ≤ 63) :
    wpAny (model PySem.Challenge.rw_rs0050_02.row.prog w) callerA (call (.ref 184) [.ref l]) (fun v s' => v = .bool true ∧ OldK s.heap s'.heap ∧ s'.os = s.os ∧ AllBare s'.gens) (fun _ _ => False) s := by
  have G := gd_of X t3 T
  have tab : ∀ a, (CR G).Tb a → s.heap.get? a = some tab0 := fun a t => by
    rcases tb_iff.mp t with rfl | rfl | rfl
    · exact t3.a
    · exact t3.b
    · exact t3.c
  have b : Bs (CR G) (CR G).Tb s := by
    refine ⟨fun b o e => of_hideAll _ e, fun q hq => ?_, AllBare.of_eq hg, fun a t => by rw [tab a t]; simp, fun a t => Cfg.tb_none t, fun a t => t, fun a t o e c => ?_⟩
    · refine ⟨tab0, tab _ (List.mem_map_of_mem hq), ?_⟩
      simp only [tabsR, List.mem_cons, List.not_mem_nil, or_false] at hq
      rcases hq with rfl | rfl | rfl
      · exact .inl rfl
      · exact .inl rfl
      · exact .inl rfl
    · rw [tab a t] at e; cases e; cases c.1
  have hlt : ¬ (CR G).Tb l := fun t => by
    obtain ⟨o, e, hc, _⟩ := hL
    rw [tab l t] at e; cases e; cases hc
  refine wpAny_mono (law_run (A := callerA) hP rfl (by show 1 + claimMargin ≤ 310; decide) (by decide) b hL hlt hI hlen) (fun v s' q => ?_) fun _ _ f => f
  obtain ⟨k, rfl⟩ := q
  refine ⟨rfl, ⟨fun b' o e => ?_, fun b' o e => ?_⟩, k.os, k.gb b.gb⟩
  · by_cases ht : (CR G).Tb b'
    · have j := k.jj b.jj
      rw [tab _ ht] at e; cases e
      refine .inr (.inl ?_)
      rcases tb_iff.mp ht with rfl | rfl | rfl
      · refine ⟨owns_tab (c := 115) X (by kernel_rfl), rfl, #[], ?_⟩
        obtain ⟨o', e', hq⟩ := j (111, isT 80 19) (by simp [tabsR])
        rcases hq with rfl | ⟨cd, rfl⟩
        · exact ⟨#[], rfl, e'⟩
        · exact ⟨#[.int 80 0, .int 19 0, cd], rfl, e'.trans (by simp)⟩
      · refine ⟨owns_tab (c := 122) X (by kernel_rfl), rfl, #[], ?_⟩
        obtain ⟨o', e', hq⟩ := j (118, isT 83 32) (by simp [tabsR])
        rcases hq with rfl | ⟨cd, rfl⟩
        · exact ⟨#[], rfl, e'⟩
        · exact ⟨#[.int 83 0, .int 32 0, cd], rfl, e'.trans (by simp)⟩
      · refine ⟨owns_tab (c := 163) X (by kernel_rfl), rfl, #[], ?_⟩
        obtain ⟨o', e', hq⟩ := j (159, isR) (by simp [tabsR])
        rcases hq with rfl | ⟨c1, c2, rfl, _⟩
        · exact ⟨#[], rfl, e'⟩
        · exact ⟨#[.int 102 0, .int 4 0, .ref c1, .int 105 0, .int 11 0, c2], rfl, e'.trans (by simp)⟩
    · exact .inl (k.kp b' o ht e)
  · cases q : s'.heap.get? b' with
    | none => exact absurd q (k.al b.jj b' (by rw [e]; simp))
    | some o' => exact ⟨o', rfl⟩
end
end Mine

end

section
open PySem PySem.W PyProof.Rows PySem.Calls
set_option maxRecDepth 100000
set_option maxHeartbeats 8000000
set_option linter.unusedVariables false
theorem Mine.mg184 {P : Params} {h : Heap} {mg : Str → Option Value} (X : (Mine.hK P).In h) (N : h.Ns mainGlobals mg) : mg (Str.ofString "law") = some (.ref 184) := mg_of X N (by kernel_rfl)
theorem Mine.join_law {w : World} {s₁ : Shared} {cl : Str → Option Addr} {mean mean' : ExcName → Option Value} {loose : List Str} {mg mb : Str → Option Value} {p : Program} {args : List WData} (X : (Mine.hK w.params).In s₁.heap) (t3 : Mine.Tabs3 s₁.heap) (T : Top p loose mean mg mb s₁.heap) (hg : s₁.gens = #[])
    {l : Addr} {vs : List Value} {ns : List Int} (hL : s₁.heap.IsList l vs.toArray) (hI : IntsAre vs ns) (hlen : ns.length ≤ 63) :
    wpAny (model PySem.Challenge.rw_rs0050_02.row.prog w) callerA (call (.ref 184) [.ref l]) (fun v s' => GoodWG PySem.Challenge.rw_rs0050_02.row.claim cl mean' args s₁ (.ok (.ret v)) s') (fun e s' => GoodWG PySem.Challenge.rw_rs0050_02.row.claim cl mean' args s₁ (.error e) s') s₁ := by
  refine wpAny_mono (Mine.top_run Mine.plain_law X t3 T hg hL hI hlen) (fun v s' q => ?_) fun _ _ f => f.elim
  obtain ⟨rfl, h1, h2, h3⟩ := q
  exact ⟨.inl ⟨_, .bool true, [], rfl, fun c => rfl, .bool true, by kernel_rfl, fun _ => ⟨List.nodup_nil, (fun _ h => nomatch h)⟩⟩, h1, h2, h3⟩
theorem PySem.Challenge.cw_rs0050_02_holds : PySem.Challenge.rw_rs0050_02.Holds := by
  refine Mine.hHead (by
    intro w s₀ s₁ mg mb G Y fa o pm cd doc dV kV ho hd hcd hD hmg hg args vals as hpre hlay hrd hwl hlo
    obtain ⟨KX, ta, tb, tc⟩ := Y
    have T := Ground.T G
    have e184 := Mine.mg184 KX T.g
    clear hd
    wrow_args hpre hlay hrd hwl hlo
    clear ho hcd hD
    have hfa : fa = 184 := by
      have h := hmg.symm.trans e184
      cases h
      rfl
    subst hfa
    rename_i hL ra w1 r0 hI hr hc1 hc2
    exact Mine.join_law KX ⟨ta, tb, tc⟩ T hg hL hI (by omega))
end
