import PyProof.Rows.All
import Wide.All
import OpenK.AllK
import Wide.FinOn
import Lean
import PySem.Challenge.RW_wj0066_01
set_option Elab.async false
set_option linter.all false
namespace Mine
open PySem PySem.W PyProof.Rows PySem.Calls PySem.Spec
namespace hd
noncomputable abbrev PW : Program := PySem.Challenge.pw_wj0066_01
noncomputable abbrev RR := PySem.Challenge.rw_wj0066_01.row
noncomputable def stAt (i : Nat) : Stmt := PW.main.body.getD i (.Pass ⟨0, 0, 0, 0⟩)
noncomputable def inAt (i j : Nat) : Stmt := match stAt i with
  | .ClassDef _ _ _ b _ _ _ _ _ _ _ => b.getD j (.Pass ⟨0, 0, 0, 0⟩)
  | s => s
noncomputable def fdOf (s : Stmt) (q : Str) (g : Addr) (cl : List (Str × Addr)) (dV kV doc pm : Value) (an : Option Addr) (cd ct : Value) (bi : Addr) : FuncData := match s with
  | .FunctionDef n a b _ _ _ sc _ _ _ => ⟨n, q, a, .stmts b, sc, g, cl, dV, kV, doc, pm, an, cd, ct, bi⟩
  | _ => ⟨q, q, ⟨[], [], none, [], [], none, []⟩, .stmts [], PW.main.scope, g, cl, dV, kV, doc, pm, an, cd, ct, bi⟩
set_option maxRecDepth 100000
noncomputable def fd0S : { f : FuncData // f = fdOf (stAt 0) "_wall" 0 [] .none .none .none .none .none .none .none 0 } := ⟨_, by (conv => rhs; whnf)⟩
noncomputable def fd0 : FuncData := fd0S.1
noncomputable def fd1S : { f : FuncData // f = fdOf (stAt 0) "_wall" 3 [] .none .none .none (.str "__main__" 164) .none (.ref 20) .none 0 } := ⟨_, by (conv => rhs; whnf)⟩
noncomputable def fd1 : FuncData := fd1S.1
noncomputable def fd2S : { f : FuncData // f = fdOf (inAt 2 1) "Whitespace.__init__" 0 [] .none .none .none .none .none .none .none 0 } := ⟨_, by (conv => rhs; whnf)⟩
noncomputable def fd2 : FuncData := fd2S.1
noncomputable def fd3S : { f : FuncData // f = fdOf (inAt 2 1) "Whitespace.__init__" 3 [] .none .none .none (.str "cpy313.tabnanny" 194) .none (.ref 37) .none 0 } := ⟨_, by (conv => rhs; whnf)⟩
noncomputable def fd3 : FuncData := fd3S.1
noncomputable def fd4S : { f : FuncData // f = fdOf (inAt 2 2) "Whitespace.longest_run_of_spaces" 0 [] .none .none .none .none .none .none .none 0 } := ⟨_, by (conv => rhs; whnf)⟩
noncomputable def fd4 : FuncData := fd4S.1
noncomputable def fd5S : { f : FuncData // f = fdOf (inAt 2 2) "Whitespace.longest_run_of_spaces" 3 [] .none .none .none (.str "cpy313.tabnanny" 194) .none (.ref 44) .none 0 } := ⟨_, by (conv => rhs; whnf)⟩
noncomputable def fd5 : FuncData := fd5S.1
noncomputable def fd6S : { f : FuncData // f = fdOf (inAt 2 3) "Whitespace.indent_level" 0 [] .none .none .none .none .none .none .none 0 } := ⟨_, by (conv => rhs; whnf)⟩
noncomputable def fd6 : FuncData := fd6S.1
noncomputable def fd7S : { f : FuncData // f = fdOf (inAt 2 3) "Whitespace.indent_level" 3 [] .none .none .none (.str "cpy313.tabnanny" 194) .none (.ref 51) .none 0 } := ⟨_, by (conv => rhs; whnf)⟩
noncomputable def fd7 : FuncData := fd7S.1
noncomputable def fd8S : { f : FuncData // f = fdOf (inAt 2 4) "Whitespace.equal" 0 [] .none .none .none .none .none .none .none 0 } := ⟨_, by (conv => rhs; whnf)⟩
noncomputable def fd8 : FuncData := fd8S.1
noncomputable def fd9S : { f : FuncData // f = fdOf (inAt 2 4) "Whitespace.equal" 3 [] .none .none .none (.str "cpy313.tabnanny" 194) .none (.ref 58) .none 0 } := ⟨_, by (conv => rhs; whnf)⟩
noncomputable def fd9 : FuncData := fd9S.1
noncomputable def fd10S : { f : FuncData // f = fdOf (inAt 2 5) "Whitespace.not_equal_witness" 0 [] .none .none .none .none .none .none .none 0 } := ⟨_, by (conv => rhs; whnf)⟩
noncomputable def fd10 : FuncData := fd10S.1
noncomputable def fd11S : { f : FuncData // f = fdOf (inAt 2 5) "Whitespace.not_equal_witness" 3 [] .none .none .none (.str "cpy313.tabnanny" 194) .none (.ref 65) .none 0 } := ⟨_, by (conv => rhs; whnf)⟩
noncomputable def fd11 : FuncData := fd11S.1
noncomputable def fd12S : { f : FuncData // f = fdOf (inAt 2 6) "Whitespace.less" 0 [] .none .none .none .none .none .none .none 0 } := ⟨_, by (conv => rhs; whnf)⟩
noncomputable def fd12 : FuncData := fd12S.1
noncomputable def fd13S : { f : FuncData // f = fdOf (inAt 2 6) "Whitespace.less" 3 [] .none .none .none (.str "cpy313.tabnanny" 194) .none (.ref 72) .none 0 } := ⟨_, by (conv => rhs; whnf)⟩
noncomputable def fd13 : FuncData := fd13S.1
noncomputable def fd14S : { f : FuncData // f = fdOf (inAt 2 7) "Whitespace.not_less_witness" 0 [] .none .none .none .none .none .none .none 0 } := ⟨_, by (conv => rhs; whnf)⟩
noncomputable def fd14 : FuncData := fd14S.1
noncomputable def fd15S : { f : FuncData // f = fdOf (inAt 2 7) "Whitespace.not_less_witness" 3 [] .none .none .none (.str "cpy313.tabnanny" 194) .none (.ref 79) .none 0 } := ⟨_, by (conv => rhs; whnf)⟩
noncomputable def fd15 : FuncData := fd15S.1
noncomputable def fd16S : { f : FuncData // f = fdOf (stAt 4) "Int2AP" 0 [] .none .none .none .none .none .none .none 0 } := ⟨_, by (conv => rhs; whnf)⟩
noncomputable def fd16 : FuncData := fd16S.1
noncomputable def fd17S : { f : FuncData // f = fdOf (stAt 4) "Int2AP" 3 [] .none .none .none (.str "cpy313.imaplib" 290) .none (.ref 93) .none 0 } := ⟨_, by (conv => rhs; whnf)⟩
noncomputable def fd17 : FuncData := fd17S.1
noncomputable def fd18S : { f : FuncData // f = fdOf (stAt 6) "add" 0 [] .none .none .none .none .none .none .none 0 } := ⟨_, by (conv => rhs; whnf)⟩
noncomputable def fd18 : FuncData := fd18S.1
noncomputable def fd19S : { f : FuncData // f = fdOf (stAt 6) "add" 3 [] .none .none .none (.str "cpy313.operator" 302) .none (.ref 100) .none 0 } := ⟨_, by (conv => rhs; whnf)⟩
noncomputable def fd19 : FuncData := fd19S.1
noncomputable def fd20S : { f : FuncData // f = fdOf (stAt 7) "and_" 0 [] .none .none .none .none .none .none .none 0 } := ⟨_, by (conv => rhs; whnf)⟩
noncomputable def fd20 : FuncData := fd20S.1
noncomputable def fd21S : { f : FuncData // f = fdOf (stAt 7) "and_" 3 [] .none .none .none (.str "cpy313.operator" 302) .none (.ref 107) .none 0 } := ⟨_, by (conv => rhs; whnf)⟩
noncomputable def fd21 : FuncData := fd21S.1
noncomputable def fd22S : { f : FuncData // f = fdOf (stAt 8) "mul" 0 [] .none .none .none .none .none .none .none 0 } := ⟨_, by (conv => rhs; whnf)⟩
noncomputable def fd22 : FuncData := fd22S.1
noncomputable def fd23S : { f : FuncData // f = fdOf (stAt 8) "mul" 3 [] .none .none .none (.str "cpy313.operator" 302) .none (.ref 114) .none 0 } := ⟨_, by (conv => rhs; whnf)⟩
noncomputable def fd23 : FuncData := fd23S.1
noncomputable def fd24S : { f : FuncData // f = fdOf (stAt 9) "rshift" 0 [] .none .none .none .none .none .none .none 0 } := ⟨_, by (conv => rhs; whnf)⟩
noncomputable def fd24 : FuncData := fd24S.1
noncomputable def fd25S : { f : FuncData // f = fdOf (stAt 9) "rshift" 3 [] .none .none .none (.str "cpy313.operator" 302) .none (.ref 121) .none 0 } := ⟨_, by (conv => rhs; whnf)⟩
noncomputable def fd25 : FuncData := fd25S.1
noncomputable def fd26S : { f : FuncData // f = fdOf (stAt 10) "countOf" 0 [] .none .none .none .none .none .none .none 0 } := ⟨_, by (conv => rhs; whnf)⟩
noncomputable def fd26 : FuncData := fd26S.1
noncomputable def fd27S : { f : FuncData // f = fdOf (stAt 10) "countOf" 3 [] .none .none .none (.str "cpy313.operator" 302) .none (.ref 128) .none 0 } := ⟨_, by (conv => rhs; whnf)⟩
noncomputable def fd27 : FuncData := fd27S.1
noncomputable def fd28S : { f : FuncData // f = fdOf (stAt 11) "ipow" 0 [] .none .none .none .none .none .none .none 0 } := ⟨_, by (conv => rhs; whnf)⟩
noncomputable def fd28 : FuncData := fd28S.1
noncomputable def fd29S : { f : FuncData // f = fdOf (stAt 11) "ipow" 3 [] .none .none .none (.str "cpy313.operator" 302) .none (.ref 135) .none 0 } := ⟨_, by (conv => rhs; whnf)⟩
noncomputable def fd29 : FuncData := fd29S.1
noncomputable def fd30S : { f : FuncData // f = fdOf (stAt 64) "ISNONTERMINAL" 0 [] .none .none .none .none .none .none .none 0 } := ⟨_, by (conv => rhs; whnf)⟩
noncomputable def fd30 : FuncData := fd30S.1
noncomputable def fd31S : { f : FuncData // f = fdOf (stAt 64) "ISNONTERMINAL" 3 [] .none .none .none (.str "cpy313.token" 354) .none (.ref 145) .none 0 } := ⟨_, by (conv => rhs; whnf)⟩
noncomputable def fd31 : FuncData := fd31S.1
noncomputable def fd32S : { f : FuncData // f = fdOf (stAt 65) "ISEOF" 0 [] .none .none .none .none .none .none .none 0 } := ⟨_, by (conv => rhs; whnf)⟩
noncomputable def fd32 : FuncData := fd32S.1
noncomputable def fd33S : { f : FuncData // f = fdOf (stAt 65) "ISEOF" 3 [] .none .none .none (.str "cpy313.token" 354) .none (.ref 152) .none 0 } := ⟨_, by (conv => rhs; whnf)⟩
noncomputable def fd33 : FuncData := fd33S.1
noncomputable def fd34S : { f : FuncData // f = fdOf (stAt 67) "_law_weights" 0 [] .none .none .none .none .none .none .none 0 } := ⟨_, by (conv => rhs; whnf)⟩
noncomputable def fd34 : FuncData := fd34S.1
noncomputable def fd35S : { f : FuncData // f = fdOf (stAt 67) "_law_weights" 3 [] .none .none .none (.str "law_wj0066_01" 567) .none (.ref 157) .none 0 } := ⟨_, by (conv => rhs; whnf)⟩
noncomputable def fd35 : FuncData := fd35S.1
noncomputable def fd36S : { f : FuncData // f = fdOf (stAt 68) "_law_texts" 0 [] .none .none .none .none .none .none .none 0 } := ⟨_, by (conv => rhs; whnf)⟩
noncomputable def fd36 : FuncData := fd36S.1
noncomputable def fd37S : { f : FuncData // f = fdOf (stAt 68) "_law_texts" 3 [] .none .none .none (.str "law_wj0066_01" 567) .none (.ref 162) .none 0 } := ⟨_, by (conv => rhs; whnf)⟩
noncomputable def fd37 : FuncData := fd37S.1
noncomputable def fd38S : { f : FuncData // f = fdOf (stAt 69) "_law_symbols" 0 [] .none .none .none .none .none .none .none 0 } := ⟨_, by (conv => rhs; whnf)⟩
noncomputable def fd38 : FuncData := fd38S.1
noncomputable def fd39S : { f : FuncData // f = fdOf (stAt 69) "_law_symbols" 3 [] .none .none .none (.str "law_wj0066_01" 567) .none (.ref 169) .none 0 } := ⟨_, by (conv => rhs; whnf)⟩
noncomputable def fd39 : FuncData := fd39S.1
noncomputable def fd40S : { f : FuncData // f = fdOf (stAt 70) "_law_leads" 0 [] .none .none .none .none .none .none .none 0 } := ⟨_, by (conv => rhs; whnf)⟩
noncomputable def fd40 : FuncData := fd40S.1
noncomputable def fd41S : { f : FuncData // f = fdOf (stAt 70) "_law_leads" 3 [] .none .none .none (.str "law_wj0066_01" 567) .none (.ref 174) .none 0 } := ⟨_, by (conv => rhs; whnf)⟩
noncomputable def fd41 : FuncData := fd41S.1
noncomputable def fd42S : { f : FuncData // f = fdOf (stAt 71) "_law_worth" 0 [] .none .none .none .none .none .none .none 0 } := ⟨_, by (conv => rhs; whnf)⟩
noncomputable def fd42 : FuncData := fd42S.1
noncomputable def fd43S : { f : FuncData // f = fdOf (stAt 71) "_law_worth" 3 [] .none .none .none (.str "law_wj0066_01" 567) .none (.ref 181) .none 0 } := ⟨_, by (conv => rhs; whnf)⟩
noncomputable def fd43 : FuncData := fd43S.1
noncomputable def fd44S : { f : FuncData // f = fdOf (stAt 72) "_law_together" 0 [] .none .none .none .none .none .none .none 0 } := ⟨_, by (conv => rhs; whnf)⟩
noncomputable def fd44 : FuncData := fd44S.1
noncomputable def fd45S : { f : FuncData // f = fdOf (stAt 72) "_law_together" 3 [] .none .none .none (.str "law_wj0066_01" 567) .none (.ref 188) .none 0 } := ⟨_, by (conv => rhs; whnf)⟩
noncomputable def fd45 : FuncData := fd45S.1
noncomputable def fd46S : { f : FuncData // f = fdOf (stAt 73) "_law_times" 0 [] .none .none .none .none .none .none .none 0 } := ⟨_, by (conv => rhs; whnf)⟩
noncomputable def fd46 : FuncData := fd46S.1
noncomputable def fd47S : { f : FuncData // f = fdOf (stAt 73) "_law_times" 3 [] .none .none .none (.str "law_wj0066_01" 567) .none (.ref 195) .none 0 } := ⟨_, by (conv => rhs; whnf)⟩
noncomputable def fd47 : FuncData := fd47S.1
noncomputable def fd48S : { f : FuncData // f = fdOf (stAt 74) "_law_inverse" 0 [] .none .none .none .none .none .none .none 0 } := ⟨_, by (conv => rhs; whnf)⟩
noncomputable def fd48 : FuncData := fd48S.1
noncomputable def fd49S : { f : FuncData // f = fdOf (stAt 74) "_law_inverse" 3 [] .none .none .none (.str "law_wj0066_01" 567) .none (.ref 200) .none 0 } := ⟨_, by (conv => rhs; whnf)⟩
noncomputable def fd49 : FuncData := fd49S.1
noncomputable def fd50S : { f : FuncData // f = fdOf (stAt 75) "_law_product" 0 [] .none .none .none .none .none .none .none 0 } := ⟨_, by (conv => rhs; whnf)⟩
noncomputable def fd50 : FuncData := fd50S.1
noncomputable def fd51S : { f : FuncData // f = fdOf (stAt 75) "_law_product" 3 [] .none .none .none (.str "law_wj0066_01" 567) .none (.ref 205) .none 0 } := ⟨_, by (conv => rhs; whnf)⟩
noncomputable def fd51 : FuncData := fd51S.1
noncomputable def fd52S : { f : FuncData // f = fdOf (stAt 76) "law" 0 [] .none .none .none .none .none .none .none 0 } := ⟨_, by (conv => rhs; whnf)⟩
noncomputable def fd52 : FuncData := fd52S.1
noncomputable def fd53S : { f : FuncData // f = fdOf (stAt 76) "law" 3 [] .none .none .none (.str "law_wj0066_01" 567) .none (.ref 210) .none 0 } := ⟨_, by (conv => rhs; whnf)⟩
noncomputable def fd53 : FuncData := fd53S.1
noncomputable def o0 (P : Params) : Obj := ⟨(.type "tuple"), .none, (.seq #[] 0), #[]⟩
noncomputable def o1 (P : Params) : Obj := ⟨.none, .none, (.fields #[]), #[]⟩
noncomputable def o2 (P : Params) : Obj := ⟨(.type "code"), .none, (.fields #[(.str "<module>" 182), (.str "<module>" 183), (.str "/claim/cut.py" 184), (.int 1 0), (.int 0 0), (.int 0 0), (.int 0 0), (.int 0 0), (.ref 11), (.bool .false), (.int 181 0), (.ref 12), .none, .none, .none, .none, (.int 185 0), (.int 1 0), (.str "/claim/cut.py" 186)]), #[]⟩
noncomputable def o3 (P : Params) : Obj := ⟨(.type "frame"), .none, .plain, #[(.some (.ref 13)), (.some (.ref 3)), (.some (.ref 3)), .none, (.some (.str "__main__" 164)), .none, (.some (.ref 0))]⟩
noncomputable def o4 (P : Params) : Obj := ⟨(.type "dict"), .none, (.dict #[⟨(PySem.PyData.keyHash P "__name__"), (.str "__name__" 165), (.str "cpy313.tabnanny" 194)⟩, ⟨(PySem.PyData.keyHash P "__doc__"), (.str "__doc__" 166), .none⟩, ⟨(PySem.PyData.keyHash P "__package__"), (.str "__package__" 167), .none⟩, ⟨(PySem.PyData.keyHash P "__loader__"), (.str "__loader__" 168), (.builtin "__main__.__loader__#opaque")⟩, ⟨(PySem.PyData.keyHash P "__spec__"), (.str "__spec__" 169), .none⟩, ⟨(PySem.PyData.keyHash P "__annotations__"), (.str "__annotations__" 170), (.ref 6)⟩, ⟨(PySem.PyData.keyHash P "__builtins__"), (.str "__builtins__" 171), (.ref 4)⟩, ⟨(PySem.PyData.keyHash P "__file__"), (.str "__file__" 173), (.str "/claim/cut.py" 172)⟩, ⟨(PySem.PyData.keyHash P "__cached__"), (.str "__cached__" 174), .none⟩, ⟨(PySem.PyData.keyHash P "_wall"), (.str "_wall" 193), (.ref 21)⟩, ⟨(PySem.PyData.keyHash P "Whitespace"), (.str "Whitespace" 289), (.ref 83)⟩] 11), #[]⟩
noncomputable def o5 (P : Params) : Obj := ⟨.none, .none, (.fields #[(.int 1 0), (.int 0 0), (.ref 20), (.int 5 0), (.int 0 0), (.ref 27)]), #[]⟩
noncomputable def o6 (P : Params) : Obj := ⟨(.type "tuple"), .none, (.seq #[(.str "k" 190)] 0), #[]⟩
noncomputable def o7 (P : Params) : Obj := ⟨.none, .none, (.func fd0), #[]⟩
noncomputable def o8 (P : Params) : Obj := ⟨(.type "code"), .none, (.fields #[(.str "_wall" 187), (.str "_wall" 188), (.str "/claim/cut.py" 189), (.int 1 0), (.int 1 0), (.int 0 0), (.int 0 0), (.int 3 0), (.ref 15), (.bool .true), (.int 181 0), (.ref 16), .none, (.ref 17), (.ref 18), (.ref 19), (.int 191 0), (.int 1 0), (.str "/claim/cut.py" 192)]), #[]⟩
noncomputable def o9 (P : Params) : Obj := ⟨(.type "function"), .none, (.func fd1), #[]⟩
noncomputable def o10 (P : Params) : Obj := ⟨(.type "builtin_function_or_method"), .none, (.fields #[(.builtin "type.__prepare__"), (.type "type")]), #[]⟩
noncomputable def o11 (P : Params) : Obj := ⟨(.type "dict"), .none, (.dict #[⟨(PySem.PyData.keyHash P "__module__"), (.str "__module__" 203), (.str "cpy313.tabnanny" 194)⟩, ⟨(PySem.PyData.keyHash P "__qualname__"), (.str "__qualname__" 205), (.str "Whitespace" 204)⟩, ⟨(PySem.PyData.keyHash P "__firstlineno__"), (.str "__firstlineno__" 207), (.int 5 206)⟩, ⟨(PySem.PyData.keyHash P "S"), (.str "S" 211), (.str " " 209)⟩, ⟨(PySem.PyData.keyHash P "T"), (.str "T" 212), (.str "\t" 210)⟩, ⟨(PySem.PyData.keyHash P "__init__"), (.str "__init__" 227), (.ref 38)⟩, ⟨(PySem.PyData.keyHash P "longest_run_of_spaces"), (.str "longest_run_of_spaces" 236), (.ref 45)⟩, ⟨(PySem.PyData.keyHash P "indent_level"), (.str "indent_level" 244), (.ref 52)⟩, ⟨(PySem.PyData.keyHash P "equal"), (.str "equal" 252), (.ref 59)⟩, ⟨(PySem.PyData.keyHash P "not_equal_witness"), (.str "not_equal_witness" 260), (.ref 66)⟩, ⟨(PySem.PyData.keyHash P "less"), (.str "less" 268), (.ref 73)⟩, ⟨(PySem.PyData.keyHash P "not_less_witness"), (.str "not_less_witness" 276), (.ref 80)⟩, ⟨(PySem.PyData.keyHash P "__static_attributes__"), (.str "__static_attributes__" 282), (.ref 81)⟩] 13), #[]⟩
noncomputable def o12 (P : Params) : Obj := ⟨.none, .none, (.fields #[(.int 8 0), (.int 4 0), (.ref 37), (.int 31 0), (.int 4 0), (.ref 44), (.int 35 0), (.int 4 0), (.ref 51), (.int 38 0), (.int 4 0), (.ref 58), (.int 41 0), (.int 4 0), (.ref 65), (.int 44 0), (.int 4 0), (.ref 72), (.int 47 0), (.int 4 0), (.ref 79)]), #[]⟩
noncomputable def o13 (P : Params) : Obj := ⟨(.type "code"), .none, (.fields #[(.str "Whitespace" 198), (.str "Whitespace" 199), (.str "/claim/cut.py" 200), (.int 5 0), (.int 0 0), (.int 0 0), (.int 0 0), (.int 0 0), (.ref 25), (.bool .false), (.int 181 0), (.ref 26), .none, .none, .none, .none, (.int 201 0), (.int 5 0), (.str "/claim/cut.py" 202)]), #[]⟩
noncomputable def o14 (P : Params) : Obj := ⟨(.type "frame"), .none, .plain, #[(.some (.ref 27)), (.some (.ref 3)), (.some (.ref 24)), .none, (.some (.str "cpy313.tabnanny" 194)), .none, (.some (.ref 0))]⟩
noncomputable def o15 (P : Params) : Obj := ⟨(.type "str_ascii_iterator"), .none, (.fields #[.none, (.int 2 0)]), #[]⟩
noncomputable def o16 (P : Params) : Obj := ⟨(.type "StopIteration"), .none, (.fields #[(.ref 30), .none, .none, .none, (.bool .false), .none]), #[]⟩
noncomputable def o17 (P : Params) : Obj := ⟨(.type "tuple"), .none, (.seq #[(.str "self" 216), (.str "ws" 217), (.str "S" 218), (.str "T" 219), (.str "count" 220), (.str "b" 221), (.str "n" 222), (.str "nt" 223), (.str "ch" 224)] 0), #[]⟩
noncomputable def o18 (P : Params) : Obj := ⟨.none, .none, (.func fd2), #[]⟩
noncomputable def o19 (P : Params) : Obj := ⟨(.type "code"), .none, (.fields #[(.str "__init__" 213), (.str "Whitespace.__init__" 214), (.str "/claim/cut.py" 215), (.int 8 0), (.int 2 0), (.int 0 0), (.int 0 0), (.int 3 0), (.ref 32), (.bool .true), (.int 181 0), (.ref 33), .none, (.ref 34), (.ref 35), (.ref 36), (.int 225 0), (.int 8 0), (.str "/claim/cut.py" 226)]), #[]⟩
noncomputable def o20 (P : Params) : Obj := ⟨(.type "function"), .none, (.func fd3), #[]⟩
noncomputable def o21 (P : Params) : Obj := ⟨(.type "tuple"), .none, (.seq #[(.str "self" 231), (.str "count" 232), (.str "trailing" 233)] 0), #[]⟩
noncomputable def o22 (P : Params) : Obj := ⟨.none, .none, (.func fd4), #[]⟩
noncomputable def o23 (P : Params) : Obj := ⟨(.type "code"), .none, (.fields #[(.str "longest_run_of_spaces" 228), (.str "Whitespace.longest_run_of_spaces" 229), (.str "/claim/cut.py" 230), (.int 31 0), (.int 1 0), (.int 0 0), (.int 0 0), (.int 3 0), (.ref 39), (.bool .true), (.int 181 0), (.ref 40), .none, (.ref 41), (.ref 42), (.ref 43), (.int 234 0), (.int 31 0), (.str "/claim/cut.py" 235)]), #[]⟩
noncomputable def o24 (P : Params) : Obj := ⟨(.type "function"), .none, (.func fd5), #[]⟩
noncomputable def o25 (P : Params) : Obj := ⟨(.type "tuple"), .none, (.seq #[(.str "self" 240), (.str "tabsize" 241)] 0), #[]⟩
noncomputable def o26 (P : Params) : Obj := ⟨.none, .none, (.func fd6), #[]⟩
noncomputable def o27 (P : Params) : Obj := ⟨(.type "code"), .none, (.fields #[(.str "indent_level" 237), (.str "Whitespace.indent_level" 238), (.str "/claim/cut.py" 239), (.int 35 0), (.int 2 0), (.int 0 0), (.int 0 0), (.int 3 0), (.ref 46), (.bool .true), (.int 181 0), (.ref 47), .none, (.ref 48), (.ref 49), (.ref 50), (.int 242 0), (.int 35 0), (.str "/claim/cut.py" 243)]), #[]⟩
noncomputable def o28 (P : Params) : Obj := ⟨(.type "function"), .none, (.func fd7), #[]⟩
noncomputable def o29 (P : Params) : Obj := ⟨(.type "tuple"), .none, (.seq #[(.str "self" 248), (.str "other" 249)] 0), #[]⟩
noncomputable def o30 (P : Params) : Obj := ⟨.none, .none, (.func fd8), #[]⟩
noncomputable def o31 (P : Params) : Obj := ⟨(.type "code"), .none, (.fields #[(.str "equal" 245), (.str "Whitespace.equal" 246), (.str "/claim/cut.py" 247), (.int 38 0), (.int 2 0), (.int 0 0), (.int 0 0), (.int 3 0), (.ref 53), (.bool .true), (.int 181 0), (.ref 54), .none, (.ref 55), (.ref 56), (.ref 57), (.int 250 0), (.int 38 0), (.str "/claim/cut.py" 251)]), #[]⟩
noncomputable def o32 (P : Params) : Obj := ⟨(.type "function"), .none, (.func fd9), #[]⟩
noncomputable def o33 (P : Params) : Obj := ⟨(.type "tuple"), .none, (.seq #[(.str "self" 256), (.str "other" 257)] 0), #[]⟩
noncomputable def o34 (P : Params) : Obj := ⟨.none, .none, (.func fd10), #[]⟩
noncomputable def o35 (P : Params) : Obj := ⟨(.type "code"), .none, (.fields #[(.str "not_equal_witness" 253), (.str "Whitespace.not_equal_witness" 254), (.str "/claim/cut.py" 255), (.int 41 0), (.int 2 0), (.int 0 0), (.int 0 0), (.int 3 0), (.ref 60), (.bool .true), (.int 181 0), (.ref 61), .none, (.ref 62), (.ref 63), (.ref 64), (.int 258 0), (.int 41 0), (.str "/claim/cut.py" 259)]), #[]⟩
noncomputable def o36 (P : Params) : Obj := ⟨(.type "function"), .none, (.func fd11), #[]⟩
noncomputable def o37 (P : Params) : Obj := ⟨(.type "tuple"), .none, (.seq #[(.str "self" 264), (.str "other" 265)] 0), #[]⟩
noncomputable def o38 (P : Params) : Obj := ⟨.none, .none, (.func fd12), #[]⟩
noncomputable def o39 (P : Params) : Obj := ⟨(.type "code"), .none, (.fields #[(.str "less" 261), (.str "Whitespace.less" 262), (.str "/claim/cut.py" 263), (.int 44 0), (.int 2 0), (.int 0 0), (.int 0 0), (.int 3 0), (.ref 67), (.bool .true), (.int 181 0), (.ref 68), .none, (.ref 69), (.ref 70), (.ref 71), (.int 266 0), (.int 44 0), (.str "/claim/cut.py" 267)]), #[]⟩
noncomputable def o40 (P : Params) : Obj := ⟨(.type "function"), .none, (.func fd13), #[]⟩
noncomputable def o41 (P : Params) : Obj := ⟨(.type "tuple"), .none, (.seq #[(.str "self" 272), (.str "other" 273)] 0), #[]⟩
noncomputable def o42 (P : Params) : Obj := ⟨.none, .none, (.func fd14), #[]⟩
noncomputable def o43 (P : Params) : Obj := ⟨(.type "code"), .none, (.fields #[(.str "not_less_witness" 269), (.str "Whitespace.not_less_witness" 270), (.str "/claim/cut.py" 271), (.int 47 0), (.int 2 0), (.int 0 0), (.int 0 0), (.int 3 0), (.ref 74), (.bool .true), (.int 181 0), (.ref 75), .none, (.ref 76), (.ref 77), (.ref 78), (.int 274 0), (.int 47 0), (.str "/claim/cut.py" 275)]), #[]⟩
noncomputable def o44 (P : Params) : Obj := ⟨(.type "function"), .none, (.func fd15), #[]⟩
noncomputable def o45 (P : Params) : Obj := ⟨(.type "tuple"), .none, (.seq #[(.str "is_simple" 277), (.str "n" 278), (.str "norm" 279), (.str "nt" 280), (.str "raw" 281)] 0), #[]⟩
noncomputable def o46 (P : Params) : Obj := ⟨(.type "dict"), .none, (.dict #[⟨(PySem.PyData.keyHash P "__module__"), (.str "__module__" 203), (.str "cpy313.tabnanny" 194)⟩, ⟨(PySem.PyData.keyHash P "__firstlineno__"), (.str "__firstlineno__" 207), (.int 5 206)⟩, ⟨(PySem.PyData.keyHash P "S"), (.str "S" 211), (.str " " 209)⟩, ⟨(PySem.PyData.keyHash P "T"), (.str "T" 212), (.str "\t" 210)⟩, ⟨(PySem.PyData.keyHash P "__init__"), (.str "__init__" 227), (.ref 38)⟩, ⟨(PySem.PyData.keyHash P "longest_run_of_spaces"), (.str "longest_run_of_spaces" 236), (.ref 45)⟩, ⟨(PySem.PyData.keyHash P "indent_level"), (.str "indent_level" 244), (.ref 52)⟩, ⟨(PySem.PyData.keyHash P "equal"), (.str "equal" 252), (.ref 59)⟩, ⟨(PySem.PyData.keyHash P "not_equal_witness"), (.str "not_equal_witness" 260), (.ref 66)⟩, ⟨(PySem.PyData.keyHash P "less"), (.str "less" 268), (.ref 73)⟩, ⟨(PySem.PyData.keyHash P "not_less_witness"), (.str "not_less_witness" 276), (.ref 80)⟩, ⟨(PySem.PyData.keyHash P "__static_attributes__"), (.str "__static_attributes__" 282), (.ref 81)⟩, ⟨(PySem.PyData.keyHash P "__dict__"), (.str "__dict__" 284), (.ref 84)⟩, ⟨(PySem.PyData.keyHash P "__weakref__"), (.str "__weakref__" 286), (.ref 85)⟩, ⟨(PySem.PyData.keyHash P "__doc__"), (.str "__doc__" 287), .none⟩] 4), #[]⟩
noncomputable def o47 (P : Params) : Obj := ⟨(.type "type"), .none, (.cls ⟨"Whitespace", [(.type "object")], [(.ref 83), (.type "object")], 82, "Whitespace", .true, [], [], .false, .none, .false⟩), #[.none, .none, (.some (.str "Whitespace" 196)), (.some (.str "Whitespace" 204)), (.some (.builtin "object.__new__")), (.some (.bool .true))]⟩
noncomputable def o48 (P : Params) : Obj := ⟨(.type "getset_descriptor"), .none, (.fields #[(.str "__dict__" 283), (.ref 83), (.builtin "function.__dict__"), (.builtin "function.__dict__#set")]), #[]⟩
noncomputable def o49 (P : Params) : Obj := ⟨(.type "getset_descriptor"), .none, (.fields #[(.str "__weakref__" 285), (.ref 83), (.builtin "ExceptionGroup.__weakref__"), .none]), #[]⟩
noncomputable def o50 (P : Params) : Obj := ⟨(.type "super"), .none, (.fields #[(.ref 83), (.ref 83), (.ref 83)]), #[]⟩
noncomputable def o51 (P : Params) : Obj := ⟨(.type "builtin_function_or_method"), .none, (.fields #[(.builtin "object.__init_subclass__"), (.ref 83)]), #[]⟩
noncomputable def o52 (P : Params) : Obj := ⟨(.type "dict"), .none, (.dict #[⟨(PySem.PyData.keyHash P "__name__"), (.str "__name__" 165), (.str "cpy313.token" 354)⟩, ⟨(PySem.PyData.keyHash P "__doc__"), (.str "__doc__" 166), .none⟩, ⟨(PySem.PyData.keyHash P "__package__"), (.str "__package__" 167), .none⟩, ⟨(PySem.PyData.keyHash P "__loader__"), (.str "__loader__" 168), (.builtin "__main__.__loader__#opaque")⟩, ⟨(PySem.PyData.keyHash P "__spec__"), (.str "__spec__" 169), .none⟩, ⟨(PySem.PyData.keyHash P "__annotations__"), (.str "__annotations__" 170), (.ref 6)⟩, ⟨(PySem.PyData.keyHash P "__builtins__"), (.str "__builtins__" 171), (.ref 4)⟩, ⟨(PySem.PyData.keyHash P "__file__"), (.str "__file__" 173), (.str "/claim/cut.py" 172)⟩, ⟨(PySem.PyData.keyHash P "__cached__"), (.str "__cached__" 174), .none⟩, ⟨(PySem.PyData.keyHash P "_wall"), (.str "_wall" 193), (.ref 21)⟩, ⟨(PySem.PyData.keyHash P "Whitespace"), (.str "Whitespace" 289), (.ref 83)⟩, ⟨(PySem.PyData.keyHash P "Int2AP"), (.str "Int2AP" 301), (.ref 94)⟩, ⟨(PySem.PyData.keyHash P "add"), (.str "add" 311), (.ref 101)⟩, ⟨(PySem.PyData.keyHash P "and_"), (.str "and_" 319), (.ref 108)⟩, ⟨(PySem.PyData.keyHash P "mul"), (.str "mul" 327), (.ref 115)⟩, ⟨(PySem.PyData.keyHash P "rshift"), (.str "rshift" 335), (.ref 122)⟩, ⟨(PySem.PyData.keyHash P "countOf"), (.str "countOf" 345), (.ref 129)⟩, ⟨(PySem.PyData.keyHash P "ipow"), (.str "ipow" 353), (.ref 136)⟩, ⟨(PySem.PyData.keyHash P "ENDMARKER"), (.str "ENDMARKER" 357), (.int 0 356)⟩, ⟨(PySem.PyData.keyHash P "LPAR"), (.str "LPAR" 359), (.int 7 358)⟩, ⟨(PySem.PyData.keyHash P "RPAR"), (.str "RPAR" 361), (.int 8 360)⟩, ⟨(PySem.PyData.keyHash P "LSQB"), (.str "LSQB" 363), (.int 9 362)⟩, ⟨(PySem.PyData.keyHash P "RSQB"), (.str "RSQB" 365), (.int 10 364)⟩, ⟨(PySem.PyData.keyHash P "COLON"), (.str "COLON" 367), (.int 11 366)⟩, ⟨(PySem.PyData.keyHash P "COMMA"), (.str "COMMA" 369), (.int 12 368)⟩, ⟨(PySem.PyData.keyHash P "SEMI"), (.str "SEMI" 371), (.int 13 370)⟩, ⟨(PySem.PyData.keyHash P "PLUS"), (.str "PLUS" 373), (.int 14 372)⟩, ⟨(PySem.PyData.keyHash P "MINUS"), (.str "MINUS" 375), (.int 15 374)⟩, ⟨(PySem.PyData.keyHash P "STAR"), (.str "STAR" 377), (.int 16 376)⟩, ⟨(PySem.PyData.keyHash P "SLASH"), (.str "SLASH" 379), (.int 17 378)⟩, ⟨(PySem.PyData.keyHash P "VBAR"), (.str "VBAR" 381), (.int 18 380)⟩, ⟨(PySem.PyData.keyHash P "AMPER"), (.str "AMPER" 383), (.int 19 382)⟩, ⟨(PySem.PyData.keyHash P "LESS"), (.str "LESS" 385), (.int 20 384)⟩, ⟨(PySem.PyData.keyHash P "GREATER"), (.str "GREATER" 387), (.int 21 386)⟩, ⟨(PySem.PyData.keyHash P "EQUAL"), (.str "EQUAL" 389), (.int 22 388)⟩, ⟨(PySem.PyData.keyHash P "DOT"), (.str "DOT" 391), (.int 23 390)⟩, ⟨(PySem.PyData.keyHash P "PERCENT"), (.str "PERCENT" 393), (.int 24 392)⟩, ⟨(PySem.PyData.keyHash P "LBRACE"), (.str "LBRACE" 395), (.int 25 394)⟩, ⟨(PySem.PyData.keyHash P "RBRACE"), (.str "RBRACE" 397), (.int 26 396)⟩, ⟨(PySem.PyData.keyHash P "EQEQUAL"), (.str "EQEQUAL" 399), (.int 27 398)⟩, ⟨(PySem.PyData.keyHash P "NOTEQUAL"), (.str "NOTEQUAL" 401), (.int 28 400)⟩, ⟨(PySem.PyData.keyHash P "LESSEQUAL"), (.str "LESSEQUAL" 403), (.int 29 402)⟩, ⟨(PySem.PyData.keyHash P "GREATEREQUAL"), (.str "GREATEREQUAL" 405), (.int 30 404)⟩, ⟨(PySem.PyData.keyHash P "TILDE"), (.str "TILDE" 407), (.int 31 406)⟩, ⟨(PySem.PyData.keyHash P "CIRCUMFLEX"), (.str "CIRCUMFLEX" 409), (.int 32 408)⟩, ⟨(PySem.PyData.keyHash P "LEFTSHIFT"), (.str "LEFTSHIFT" 411), (.int 33 410)⟩, ⟨(PySem.PyData.keyHash P "RIGHTSHIFT"), (.str "RIGHTSHIFT" 413), (.int 34 412)⟩, ⟨(PySem.PyData.keyHash P "DOUBLESTAR"), (.str "DOUBLESTAR" 415), (.int 35 414)⟩, ⟨(PySem.PyData.keyHash P "PLUSEQUAL"), (.str "PLUSEQUAL" 417), (.int 36 416)⟩, ⟨(PySem.PyData.keyHash P "MINEQUAL"), (.str "MINEQUAL" 419), (.int 37 418)⟩, ⟨(PySem.PyData.keyHash P "STAREQUAL"), (.str "STAREQUAL" 421), (.int 38 420)⟩, ⟨(PySem.PyData.keyHash P "SLASHEQUAL"), (.str "SLASHEQUAL" 423), (.int 39 422)⟩, ⟨(PySem.PyData.keyHash P "PERCENTEQUAL"), (.str "PERCENTEQUAL" 425), (.int 40 424)⟩, ⟨(PySem.PyData.keyHash P "AMPEREQUAL"), (.str "AMPEREQUAL" 427), (.int 41 426)⟩, ⟨(PySem.PyData.keyHash P "VBAREQUAL"), (.str "VBAREQUAL" 429), (.int 42 428)⟩, ⟨(PySem.PyData.keyHash P "CIRCUMFLEXEQUAL"), (.str "CIRCUMFLEXEQUAL" 431), (.int 43 430)⟩, ⟨(PySem.PyData.keyHash P "LEFTSHIFTEQUAL"), (.str "LEFTSHIFTEQUAL" 433), (.int 44 432)⟩, ⟨(PySem.PyData.keyHash P "RIGHTSHIFTEQUAL"), (.str "RIGHTSHIFTEQUAL" 435), (.int 45 434)⟩, ⟨(PySem.PyData.keyHash P "DOUBLESTAREQUAL"), (.str "DOUBLESTAREQUAL" 437), (.int 46 436)⟩, ⟨(PySem.PyData.keyHash P "DOUBLESLASH"), (.str "DOUBLESLASH" 439), (.int 47 438)⟩, ⟨(PySem.PyData.keyHash P "DOUBLESLASHEQUAL"), (.str "DOUBLESLASHEQUAL" 441), (.int 48 440)⟩, ⟨(PySem.PyData.keyHash P "AT"), (.str "AT" 443), (.int 49 442)⟩, ⟨(PySem.PyData.keyHash P "ATEQUAL"), (.str "ATEQUAL" 445), (.int 50 444)⟩, ⟨(PySem.PyData.keyHash P "RARROW"), (.str "RARROW" 447), (.int 51 446)⟩, ⟨(PySem.PyData.keyHash P "ELLIPSIS"), (.str "ELLIPSIS" 449), (.int 52 448)⟩, ⟨(PySem.PyData.keyHash P "COLONEQUAL"), (.str "COLONEQUAL" 451), (.int 53 450)⟩, ⟨(PySem.PyData.keyHash P "EXCLAMATION"), (.str "EXCLAMATION" 453), (.int 54 452)⟩, ⟨(PySem.PyData.keyHash P "NT_OFFSET"), (.str "NT_OFFSET" 455), (.int 256 454)⟩] 68), #[]⟩
noncomputable def o53 (P : Params) : Obj := ⟨.none, .none, (.fields #[(.int 1 0), (.int 0 0), (.ref 20), (.int 5 0), (.int 0 0), (.ref 27), (.int 50 0), (.int 0 0), (.ref 93), (.int 59 0), (.int 0 0), (.ref 100), (.int 61 0), (.int 0 0), (.ref 107), (.int 63 0), (.int 0 0), (.ref 114), (.int 65 0), (.int 0 0), (.ref 121), (.int 67 0), (.int 0 0), (.ref 128), (.int 73 0), (.int 0 0), (.ref 135)]), #[]⟩
noncomputable def o54 (P : Params) : Obj := ⟨(.type "tuple"), .none, (.seq #[(.str "num" 295), (.str "val" 296), (.str "AP" 297), (.str "mod" 298)] 0), #[]⟩
noncomputable def o55 (P : Params) : Obj := ⟨.none, .none, (.func fd16), #[]⟩
noncomputable def o56 (P : Params) : Obj := ⟨(.type "code"), .none, (.fields #[(.str "Int2AP" 292), (.str "Int2AP" 293), (.str "/claim/cut.py" 294), (.int 50 0), (.int 1 0), (.int 0 0), (.int 0 0), (.int 3 0), (.ref 88), (.bool .true), (.int 181 0), (.ref 89), .none, (.ref 90), (.ref 91), (.ref 92), (.int 299 0), (.int 50 0), (.str "/claim/cut.py" 300)]), #[]⟩
noncomputable def o57 (P : Params) : Obj := ⟨(.type "function"), .none, (.func fd17), #[]⟩
noncomputable def o58 (P : Params) : Obj := ⟨(.type "tuple"), .none, (.seq #[(.str "a" 307), (.str "b" 308)] 0), #[]⟩
noncomputable def o59 (P : Params) : Obj := ⟨.none, .none, (.func fd18), #[]⟩
noncomputable def o60 (P : Params) : Obj := ⟨(.type "code"), .none, (.fields #[(.str "add" 304), (.str "add" 305), (.str "/claim/cut.py" 306), (.int 59 0), (.int 2 0), (.int 0 0), (.int 0 0), (.int 3 0), (.ref 95), (.bool .true), (.int 181 0), (.ref 96), .none, (.ref 97), (.ref 98), (.ref 99), (.int 309 0), (.int 59 0), (.str "/claim/cut.py" 310)]), #[]⟩
noncomputable def o61 (P : Params) : Obj := ⟨(.type "function"), .none, (.func fd19), #[]⟩
noncomputable def o62 (P : Params) : Obj := ⟨(.type "tuple"), .none, (.seq #[(.str "a" 315), (.str "b" 316)] 0), #[]⟩
noncomputable def o63 (P : Params) : Obj := ⟨.none, .none, (.func fd20), #[]⟩
noncomputable def o64 (P : Params) : Obj := ⟨(.type "code"), .none, (.fields #[(.str "and_" 312), (.str "and_" 313), (.str "/claim/cut.py" 314), (.int 61 0), (.int 2 0), (.int 0 0), (.int 0 0), (.int 3 0), (.ref 102), (.bool .true), (.int 181 0), (.ref 103), .none, (.ref 104), (.ref 105), (.ref 106), (.int 317 0), (.int 61 0), (.str "/claim/cut.py" 318)]), #[]⟩
noncomputable def o65 (P : Params) : Obj := ⟨(.type "function"), .none, (.func fd21), #[]⟩
noncomputable def o66 (P : Params) : Obj := ⟨(.type "tuple"), .none, (.seq #[(.str "a" 323), (.str "b" 324)] 0), #[]⟩
noncomputable def o67 (P : Params) : Obj := ⟨.none, .none, (.func fd22), #[]⟩
noncomputable def o68 (P : Params) : Obj := ⟨(.type "code"), .none, (.fields #[(.str "mul" 320), (.str "mul" 321), (.str "/claim/cut.py" 322), (.int 63 0), (.int 2 0), (.int 0 0), (.int 0 0), (.int 3 0), (.ref 109), (.bool .true), (.int 181 0), (.ref 110), .none, (.ref 111), (.ref 112), (.ref 113), (.int 325 0), (.int 63 0), (.str "/claim/cut.py" 326)]), #[]⟩
noncomputable def o69 (P : Params) : Obj := ⟨(.type "function"), .none, (.func fd23), #[]⟩
noncomputable def o70 (P : Params) : Obj := ⟨(.type "tuple"), .none, (.seq #[(.str "a" 331), (.str "b" 332)] 0), #[]⟩
noncomputable def o71 (P : Params) : Obj := ⟨.none, .none, (.func fd24), #[]⟩
noncomputable def o72 (P : Params) : Obj := ⟨(.type "code"), .none, (.fields #[(.str "rshift" 328), (.str "rshift" 329), (.str "/claim/cut.py" 330), (.int 65 0), (.int 2 0), (.int 0 0), (.int 0 0), (.int 3 0), (.ref 116), (.bool .true), (.int 181 0), (.ref 117), .none, (.ref 118), (.ref 119), (.ref 120), (.int 333 0), (.int 65 0), (.str "/claim/cut.py" 334)]), #[]⟩
noncomputable def o73 (P : Params) : Obj := ⟨(.type "function"), .none, (.func fd25), #[]⟩
noncomputable def o74 (P : Params) : Obj := ⟨(.type "tuple"), .none, (.seq #[(.str "a" 339), (.str "b" 340), (.str "count" 341), (.str "i" 342)] 0), #[]⟩
noncomputable def o75 (P : Params) : Obj := ⟨.none, .none, (.func fd26), #[]⟩
noncomputable def o76 (P : Params) : Obj := ⟨(.type "code"), .none, (.fields #[(.str "countOf" 336), (.str "countOf" 337), (.str "/claim/cut.py" 338), (.int 67 0), (.int 2 0), (.int 0 0), (.int 0 0), (.int 3 0), (.ref 123), (.bool .true), (.int 181 0), (.ref 124), .none, (.ref 125), (.ref 126), (.ref 127), (.int 343 0), (.int 67 0), (.str "/claim/cut.py" 344)]), #[]⟩
noncomputable def o77 (P : Params) : Obj := ⟨(.type "function"), .none, (.func fd27), #[]⟩
noncomputable def o78 (P : Params) : Obj := ⟨(.type "tuple"), .none, (.seq #[(.str "a" 349), (.str "b" 350)] 0), #[]⟩
noncomputable def o79 (P : Params) : Obj := ⟨.none, .none, (.func fd28), #[]⟩
noncomputable def o80 (P : Params) : Obj := ⟨(.type "code"), .none, (.fields #[(.str "ipow" 346), (.str "ipow" 347), (.str "/claim/cut.py" 348), (.int 73 0), (.int 2 0), (.int 0 0), (.int 0 0), (.int 3 0), (.ref 130), (.bool .true), (.int 181 0), (.ref 131), .none, (.ref 132), (.ref 133), (.ref 134), (.int 351 0), (.int 73 0), (.str "/claim/cut.py" 352)]), #[]⟩
noncomputable def o81 (P : Params) : Obj := ⟨(.type "function"), .none, (.func fd29), #[]⟩
noncomputable def o82 (P : Params) : Obj := ⟨(.type "dict"), .none, (.dict #[⟨(PySem.PyData.keyHash P "__name__"), (.str "__name__" 165), (.str "cpy313.token" 354)⟩, ⟨(PySem.PyData.keyHash P "__doc__"), (.str "__doc__" 166), .none⟩, ⟨(PySem.PyData.keyHash P "__package__"), (.str "__package__" 167), .none⟩, ⟨(PySem.PyData.keyHash P "__loader__"), (.str "__loader__" 168), (.builtin "__main__.__loader__#opaque")⟩, ⟨(PySem.PyData.keyHash P "__spec__"), (.str "__spec__" 169), .none⟩, ⟨(PySem.PyData.keyHash P "__annotations__"), (.str "__annotations__" 170), (.ref 6)⟩, ⟨(PySem.PyData.keyHash P "__builtins__"), (.str "__builtins__" 171), (.ref 4)⟩, ⟨(PySem.PyData.keyHash P "__file__"), (.str "__file__" 173), (.str "/claim/cut.py" 172)⟩, ⟨(PySem.PyData.keyHash P "__cached__"), (.str "__cached__" 174), .none⟩, ⟨(PySem.PyData.keyHash P "_wall"), (.str "_wall" 193), (.ref 21)⟩, ⟨(PySem.PyData.keyHash P "Whitespace"), (.str "Whitespace" 289), (.ref 83)⟩, ⟨(PySem.PyData.keyHash P "Int2AP"), (.str "Int2AP" 301), (.ref 94)⟩, ⟨(PySem.PyData.keyHash P "add"), (.str "add" 311), (.ref 101)⟩, ⟨(PySem.PyData.keyHash P "and_"), (.str "and_" 319), (.ref 108)⟩, ⟨(PySem.PyData.keyHash P "mul"), (.str "mul" 327), (.ref 115)⟩, ⟨(PySem.PyData.keyHash P "rshift"), (.str "rshift" 335), (.ref 122)⟩, ⟨(PySem.PyData.keyHash P "countOf"), (.str "countOf" 345), (.ref 129)⟩, ⟨(PySem.PyData.keyHash P "ipow"), (.str "ipow" 353), (.ref 136)⟩, ⟨(PySem.PyData.keyHash P "ENDMARKER"), (.str "ENDMARKER" 357), (.int 0 356)⟩, ⟨(PySem.PyData.keyHash P "LPAR"), (.str "LPAR" 359), (.int 7 358)⟩, ⟨(PySem.PyData.keyHash P "RPAR"), (.str "RPAR" 361), (.int 8 360)⟩, ⟨(PySem.PyData.keyHash P "LSQB"), (.str "LSQB" 363), (.int 9 362)⟩, ⟨(PySem.PyData.keyHash P "RSQB"), (.str "RSQB" 365), (.int 10 364)⟩, ⟨(PySem.PyData.keyHash P "COLON"), (.str "COLON" 367), (.int 11 366)⟩, ⟨(PySem.PyData.keyHash P "COMMA"), (.str "COMMA" 369), (.int 12 368)⟩, ⟨(PySem.PyData.keyHash P "SEMI"), (.str "SEMI" 371), (.int 13 370)⟩, ⟨(PySem.PyData.keyHash P "PLUS"), (.str "PLUS" 373), (.int 14 372)⟩, ⟨(PySem.PyData.keyHash P "MINUS"), (.str "MINUS" 375), (.int 15 374)⟩, ⟨(PySem.PyData.keyHash P "STAR"), (.str "STAR" 377), (.int 16 376)⟩, ⟨(PySem.PyData.keyHash P "SLASH"), (.str "SLASH" 379), (.int 17 378)⟩, ⟨(PySem.PyData.keyHash P "VBAR"), (.str "VBAR" 381), (.int 18 380)⟩, ⟨(PySem.PyData.keyHash P "AMPER"), (.str "AMPER" 383), (.int 19 382)⟩, ⟨(PySem.PyData.keyHash P "LESS"), (.str "LESS" 385), (.int 20 384)⟩, ⟨(PySem.PyData.keyHash P "GREATER"), (.str "GREATER" 387), (.int 21 386)⟩, ⟨(PySem.PyData.keyHash P "EQUAL"), (.str "EQUAL" 389), (.int 22 388)⟩, ⟨(PySem.PyData.keyHash P "DOT"), (.str "DOT" 391), (.int 23 390)⟩, ⟨(PySem.PyData.keyHash P "PERCENT"), (.str "PERCENT" 393), (.int 24 392)⟩, ⟨(PySem.PyData.keyHash P "LBRACE"), (.str "LBRACE" 395), (.int 25 394)⟩, ⟨(PySem.PyData.keyHash P "RBRACE"), (.str "RBRACE" 397), (.int 26 396)⟩, ⟨(PySem.PyData.keyHash P "EQEQUAL"), (.str "EQEQUAL" 399), (.int 27 398)⟩, ⟨(PySem.PyData.keyHash P "NOTEQUAL"), (.str "NOTEQUAL" 401), (.int 28 400)⟩, ⟨(PySem.PyData.keyHash P "LESSEQUAL"), (.str "LESSEQUAL" 403), (.int 29 402)⟩, ⟨(PySem.PyData.keyHash P "GREATEREQUAL"), (.str "GREATEREQUAL" 405), (.int 30 404)⟩, ⟨(PySem.PyData.keyHash P "TILDE"), (.str "TILDE" 407), (.int 31 406)⟩, ⟨(PySem.PyData.keyHash P "CIRCUMFLEX"), (.str "CIRCUMFLEX" 409), (.int 32 408)⟩, ⟨(PySem.PyData.keyHash P "LEFTSHIFT"), (.str "LEFTSHIFT" 411), (.int 33 410)⟩, ⟨(PySem.PyData.keyHash P "RIGHTSHIFT"), (.str "RIGHTSHIFT" 413), (.int 34 412)⟩, ⟨(PySem.PyData.keyHash P "DOUBLESTAR"), (.str "DOUBLESTAR" 415), (.int 35 414)⟩, ⟨(PySem.PyData.keyHash P "PLUSEQUAL"), (.str "PLUSEQUAL" 417), (.int 36 416)⟩, ⟨(PySem.PyData.keyHash P "MINEQUAL"), (.str "MINEQUAL" 419), (.int 37 418)⟩, ⟨(PySem.PyData.keyHash P "STAREQUAL"), (.str "STAREQUAL" 421), (.int 38 420)⟩, ⟨(PySem.PyData.keyHash P "SLASHEQUAL"), (.str "SLASHEQUAL" 423), (.int 39 422)⟩, ⟨(PySem.PyData.keyHash P "PERCENTEQUAL"), (.str "PERCENTEQUAL" 425), (.int 40 424)⟩, ⟨(PySem.PyData.keyHash P "AMPEREQUAL"), (.str "AMPEREQUAL" 427), (.int 41 426)⟩, ⟨(PySem.PyData.keyHash P "VBAREQUAL"), (.str "VBAREQUAL" 429), (.int 42 428)⟩, ⟨(PySem.PyData.keyHash P "CIRCUMFLEXEQUAL"), (.str "CIRCUMFLEXEQUAL" 431), (.int 43 430)⟩, ⟨(PySem.PyData.keyHash P "LEFTSHIFTEQUAL"), (.str "LEFTSHIFTEQUAL" 433), (.int 44 432)⟩, ⟨(PySem.PyData.keyHash P "RIGHTSHIFTEQUAL"), (.str "RIGHTSHIFTEQUAL" 435), (.int 45 434)⟩, ⟨(PySem.PyData.keyHash P "DOUBLESTAREQUAL"), (.str "DOUBLESTAREQUAL" 437), (.int 46 436)⟩, ⟨(PySem.PyData.keyHash P "DOUBLESLASH"), (.str "DOUBLESLASH" 439), (.int 47 438)⟩, ⟨(PySem.PyData.keyHash P "DOUBLESLASHEQUAL"), (.str "DOUBLESLASHEQUAL" 441), (.int 48 440)⟩, ⟨(PySem.PyData.keyHash P "AT"), (.str "AT" 443), (.int 49 442)⟩, ⟨(PySem.PyData.keyHash P "ATEQUAL"), (.str "ATEQUAL" 445), (.int 50 444)⟩, ⟨(PySem.PyData.keyHash P "RARROW"), (.str "RARROW" 447), (.int 51 446)⟩, ⟨(PySem.PyData.keyHash P "ELLIPSIS"), (.str "ELLIPSIS" 449), (.int 52 448)⟩, ⟨(PySem.PyData.keyHash P "COLONEQUAL"), (.str "COLONEQUAL" 451), (.int 53 450)⟩, ⟨(PySem.PyData.keyHash P "EXCLAMATION"), (.str "EXCLAMATION" 453), (.int 54 452)⟩, ⟨(PySem.PyData.keyHash P "NT_OFFSET"), (.str "NT_OFFSET" 455), (.int 256 454)⟩, ⟨(PySem.PyData.keyHash P "EXACT_TOKEN_TYPES"), (.str "EXACT_TOKEN_TYPES" 552), (.ref 137)⟩] 69), #[]⟩
noncomputable def o83 (P : Params) : Obj := ⟨(.type "dict"), .none, (.dict #[⟨(PySem.PyData.keyHash P "!"), (.str "!" 456), (.int 54 452)⟩, ⟨(PySem.PyData.keyHash P "!="), (.str "!=" 458), (.int 28 400)⟩, ⟨(PySem.PyData.keyHash P "%"), (.str "%" 460), (.int 24 392)⟩, ⟨(PySem.PyData.keyHash P "%="), (.str "%=" 462), (.int 40 424)⟩, ⟨(PySem.PyData.keyHash P "&"), (.str "&" 464), (.int 19 382)⟩, ⟨(PySem.PyData.keyHash P "&="), (.str "&=" 466), (.int 41 426)⟩, ⟨(PySem.PyData.keyHash P "("), (.str "(" 468), (.int 7 358)⟩, ⟨(PySem.PyData.keyHash P ")"), (.str ")" 470), (.int 8 360)⟩, ⟨(PySem.PyData.keyHash P "*"), (.str "*" 472), (.int 16 376)⟩, ⟨(PySem.PyData.keyHash P "**"), (.str "**" 474), (.int 35 414)⟩, ⟨(PySem.PyData.keyHash P "**="), (.str "**=" 476), (.int 46 436)⟩, ⟨(PySem.PyData.keyHash P "*="), (.str "*=" 478), (.int 38 420)⟩, ⟨(PySem.PyData.keyHash P "+"), (.str "+" 480), (.int 14 372)⟩, ⟨(PySem.PyData.keyHash P "+="), (.str "+=" 482), (.int 36 416)⟩, ⟨(PySem.PyData.keyHash P ","), (.str "," 484), (.int 12 368)⟩, ⟨(PySem.PyData.keyHash P "-"), (.str "-" 486), (.int 15 374)⟩, ⟨(PySem.PyData.keyHash P "-="), (.str "-=" 488), (.int 37 418)⟩, ⟨(PySem.PyData.keyHash P "->"), (.str "->" 490), (.int 51 446)⟩, ⟨(PySem.PyData.keyHash P "."), (.str "." 492), (.int 23 390)⟩, ⟨(PySem.PyData.keyHash P "..."), (.str "..." 494), (.int 52 448)⟩, ⟨(PySem.PyData.keyHash P "/"), (.str "/" 496), (.int 17 378)⟩, ⟨(PySem.PyData.keyHash P "//"), (.str "//" 498), (.int 47 438)⟩, ⟨(PySem.PyData.keyHash P "//="), (.str "//=" 500), (.int 48 440)⟩, ⟨(PySem.PyData.keyHash P "/="), (.str "/=" 502), (.int 39 422)⟩, ⟨(PySem.PyData.keyHash P ":"), (.str ":" 504), (.int 11 366)⟩, ⟨(PySem.PyData.keyHash P ":="), (.str ":=" 506), (.int 53 450)⟩, ⟨(PySem.PyData.keyHash P ";"), (.str ";" 508), (.int 13 370)⟩, ⟨(PySem.PyData.keyHash P "<"), (.str "<" 510), (.int 20 384)⟩, ⟨(PySem.PyData.keyHash P "<<"), (.str "<<" 512), (.int 33 410)⟩, ⟨(PySem.PyData.keyHash P "<<="), (.str "<<=" 514), (.int 44 432)⟩, ⟨(PySem.PyData.keyHash P "<="), (.str "<=" 516), (.int 29 402)⟩, ⟨(PySem.PyData.keyHash P "="), (.str "=" 518), (.int 22 388)⟩, ⟨(PySem.PyData.keyHash P "=="), (.str "==" 520), (.int 27 398)⟩, ⟨(PySem.PyData.keyHash P ">"), (.str ">" 522), (.int 21 386)⟩, ⟨(PySem.PyData.keyHash P ">="), (.str ">=" 524), (.int 30 404)⟩, ⟨(PySem.PyData.keyHash P ">>"), (.str ">>" 525), (.int 34 412)⟩, ⟨(PySem.PyData.keyHash P ">>="), (.str ">>=" 526), (.int 45 434)⟩, ⟨(PySem.PyData.keyHash P "@"), (.str "@" 527), (.int 49 442)⟩, ⟨(PySem.PyData.keyHash P "@="), (.str "@=" 528), (.int 50 444)⟩, ⟨(PySem.PyData.keyHash P "["), (.str "[" 529), (.int 9 362)⟩, ⟨(PySem.PyData.keyHash P "]"), (.str "]" 530), (.int 10 364)⟩, ⟨(PySem.PyData.keyHash P "^"), (.str "^" 531), (.int 32 408)⟩, ⟨(PySem.PyData.keyHash P "^="), (.str "^=" 532), (.int 43 430)⟩, ⟨(PySem.PyData.keyHash P "{"), (.str "{" 533), (.int 25 394)⟩, ⟨(PySem.PyData.keyHash P "|"), (.str "|" 534), (.int 18 380)⟩, ⟨(PySem.PyData.keyHash P "|="), (.str "|=" 535), (.int 42 428)⟩, ⟨(PySem.PyData.keyHash P "}"), (.str "}" 536), (.int 26 396)⟩, ⟨(PySem.PyData.keyHash P "~"), (.str "~" 537), (.int 31 406)⟩] 48), #[]⟩
noncomputable def o84 (P : Params) : Obj := ⟨(.type "dict"), .none, (.dict #[⟨(PySem.PyData.keyHash P "->"), (.str "->" 490), (.int 51 446)⟩, ⟨(PySem.PyData.keyHash P "."), (.str "." 492), (.int 23 390)⟩, ⟨(PySem.PyData.keyHash P "..."), (.str "..." 494), (.int 52 448)⟩, ⟨(PySem.PyData.keyHash P "/"), (.str "/" 496), (.int 17 378)⟩, ⟨(PySem.PyData.keyHash P "//"), (.str "//" 498), (.int 47 438)⟩, ⟨(PySem.PyData.keyHash P "//="), (.str "//=" 500), (.int 48 440)⟩, ⟨(PySem.PyData.keyHash P "/="), (.str "/=" 502), (.int 39 422)⟩, ⟨(PySem.PyData.keyHash P ":"), (.str ":" 504), (.int 11 366)⟩, ⟨(PySem.PyData.keyHash P ":="), (.str ":=" 506), (.int 53 450)⟩, ⟨(PySem.PyData.keyHash P ";"), (.str ";" 508), (.int 13 370)⟩, ⟨(PySem.PyData.keyHash P "<"), (.str "<" 510), (.int 20 384)⟩, ⟨(PySem.PyData.keyHash P "<<"), (.str "<<" 512), (.int 33 410)⟩, ⟨(PySem.PyData.keyHash P "<<="), (.str "<<=" 514), (.int 44 432)⟩, ⟨(PySem.PyData.keyHash P "<="), (.str "<=" 516), (.int 29 402)⟩, ⟨(PySem.PyData.keyHash P "="), (.str "=" 518), (.int 22 388)⟩, ⟨(PySem.PyData.keyHash P "=="), (.str "==" 520), (.int 27 398)⟩, ⟨(PySem.PyData.keyHash P ">"), (.str ">" 522), (.int 21 386)⟩] 17), #[]⟩
noncomputable def o85 (P : Params) : Obj := ⟨(.type "dict"), .none, (.dict #[⟨(PySem.PyData.keyHash P ">="), (.str ">=" 524), (.int 30 404)⟩, ⟨(PySem.PyData.keyHash P ">>"), (.str ">>" 525), (.int 34 412)⟩, ⟨(PySem.PyData.keyHash P ">>="), (.str ">>=" 526), (.int 45 434)⟩, ⟨(PySem.PyData.keyHash P "@"), (.str "@" 527), (.int 49 442)⟩, ⟨(PySem.PyData.keyHash P "@="), (.str "@=" 528), (.int 50 444)⟩, ⟨(PySem.PyData.keyHash P "["), (.str "[" 529), (.int 9 362)⟩, ⟨(PySem.PyData.keyHash P "]"), (.str "]" 530), (.int 10 364)⟩, ⟨(PySem.PyData.keyHash P "^"), (.str "^" 531), (.int 32 408)⟩, ⟨(PySem.PyData.keyHash P "^="), (.str "^=" 532), (.int 43 430)⟩, ⟨(PySem.PyData.keyHash P "{"), (.str "{" 533), (.int 25 394)⟩, ⟨(PySem.PyData.keyHash P "|"), (.str "|" 534), (.int 18 380)⟩, ⟨(PySem.PyData.keyHash P "|="), (.str "|=" 535), (.int 42 428)⟩, ⟨(PySem.PyData.keyHash P "}"), (.str "}" 536), (.int 26 396)⟩, ⟨(PySem.PyData.keyHash P "~"), (.str "~" 537), (.int 31 406)⟩] 14), #[]⟩
noncomputable def o86 (P : Params) : Obj := ⟨(.type "dict"), .none, (.dict #[⟨(PySem.PyData.keyHash P "__name__"), (.str "__name__" 165), (.str "law_wj0066_01" 567)⟩, ⟨(PySem.PyData.keyHash P "__doc__"), (.str "__doc__" 166), .none⟩, ⟨(PySem.PyData.keyHash P "__package__"), (.str "__package__" 167), .none⟩, ⟨(PySem.PyData.keyHash P "__loader__"), (.str "__loader__" 168), (.builtin "__main__.__loader__#opaque")⟩, ⟨(PySem.PyData.keyHash P "__spec__"), (.str "__spec__" 169), .none⟩, ⟨(PySem.PyData.keyHash P "__annotations__"), (.str "__annotations__" 170), (.ref 6)⟩, ⟨(PySem.PyData.keyHash P "__builtins__"), (.str "__builtins__" 171), (.ref 4)⟩, ⟨(PySem.PyData.keyHash P "__file__"), (.str "__file__" 173), (.str "/claim/cut.py" 172)⟩, ⟨(PySem.PyData.keyHash P "__cached__"), (.str "__cached__" 174), .none⟩, ⟨(PySem.PyData.keyHash P "_wall"), (.str "_wall" 193), (.ref 21)⟩, ⟨(PySem.PyData.keyHash P "Whitespace"), (.str "Whitespace" 289), (.ref 83)⟩, ⟨(PySem.PyData.keyHash P "Int2AP"), (.str "Int2AP" 301), (.ref 94)⟩, ⟨(PySem.PyData.keyHash P "add"), (.str "add" 311), (.ref 101)⟩, ⟨(PySem.PyData.keyHash P "and_"), (.str "and_" 319), (.ref 108)⟩, ⟨(PySem.PyData.keyHash P "mul"), (.str "mul" 327), (.ref 115)⟩, ⟨(PySem.PyData.keyHash P "rshift"), (.str "rshift" 335), (.ref 122)⟩, ⟨(PySem.PyData.keyHash P "countOf"), (.str "countOf" 345), (.ref 129)⟩, ⟨(PySem.PyData.keyHash P "ipow"), (.str "ipow" 353), (.ref 136)⟩, ⟨(PySem.PyData.keyHash P "ENDMARKER"), (.str "ENDMARKER" 357), (.int 0 356)⟩, ⟨(PySem.PyData.keyHash P "LPAR"), (.str "LPAR" 359), (.int 7 358)⟩, ⟨(PySem.PyData.keyHash P "RPAR"), (.str "RPAR" 361), (.int 8 360)⟩, ⟨(PySem.PyData.keyHash P "LSQB"), (.str "LSQB" 363), (.int 9 362)⟩, ⟨(PySem.PyData.keyHash P "RSQB"), (.str "RSQB" 365), (.int 10 364)⟩, ⟨(PySem.PyData.keyHash P "COLON"), (.str "COLON" 367), (.int 11 366)⟩, ⟨(PySem.PyData.keyHash P "COMMA"), (.str "COMMA" 369), (.int 12 368)⟩, ⟨(PySem.PyData.keyHash P "SEMI"), (.str "SEMI" 371), (.int 13 370)⟩, ⟨(PySem.PyData.keyHash P "PLUS"), (.str "PLUS" 373), (.int 14 372)⟩, ⟨(PySem.PyData.keyHash P "MINUS"), (.str "MINUS" 375), (.int 15 374)⟩, ⟨(PySem.PyData.keyHash P "STAR"), (.str "STAR" 377), (.int 16 376)⟩, ⟨(PySem.PyData.keyHash P "SLASH"), (.str "SLASH" 379), (.int 17 378)⟩, ⟨(PySem.PyData.keyHash P "VBAR"), (.str "VBAR" 381), (.int 18 380)⟩, ⟨(PySem.PyData.keyHash P "AMPER"), (.str "AMPER" 383), (.int 19 382)⟩, ⟨(PySem.PyData.keyHash P "LESS"), (.str "LESS" 385), (.int 20 384)⟩, ⟨(PySem.PyData.keyHash P "GREATER"), (.str "GREATER" 387), (.int 21 386)⟩, ⟨(PySem.PyData.keyHash P "EQUAL"), (.str "EQUAL" 389), (.int 22 388)⟩, ⟨(PySem.PyData.keyHash P "DOT"), (.str "DOT" 391), (.int 23 390)⟩, ⟨(PySem.PyData.keyHash P "PERCENT"), (.str "PERCENT" 393), (.int 24 392)⟩, ⟨(PySem.PyData.keyHash P "LBRACE"), (.str "LBRACE" 395), (.int 25 394)⟩, ⟨(PySem.PyData.keyHash P "RBRACE"), (.str "RBRACE" 397), (.int 26 396)⟩, ⟨(PySem.PyData.keyHash P "EQEQUAL"), (.str "EQEQUAL" 399), (.int 27 398)⟩, ⟨(PySem.PyData.keyHash P "NOTEQUAL"), (.str "NOTEQUAL" 401), (.int 28 400)⟩, ⟨(PySem.PyData.keyHash P "LESSEQUAL"), (.str "LESSEQUAL" 403), (.int 29 402)⟩, ⟨(PySem.PyData.keyHash P "GREATEREQUAL"), (.str "GREATEREQUAL" 405), (.int 30 404)⟩, ⟨(PySem.PyData.keyHash P "TILDE"), (.str "TILDE" 407), (.int 31 406)⟩, ⟨(PySem.PyData.keyHash P "CIRCUMFLEX"), (.str "CIRCUMFLEX" 409), (.int 32 408)⟩, ⟨(PySem.PyData.keyHash P "LEFTSHIFT"), (.str "LEFTSHIFT" 411), (.int 33 410)⟩, ⟨(PySem.PyData.keyHash P "RIGHTSHIFT"), (.str "RIGHTSHIFT" 413), (.int 34 412)⟩, ⟨(PySem.PyData.keyHash P "DOUBLESTAR"), (.str "DOUBLESTAR" 415), (.int 35 414)⟩, ⟨(PySem.PyData.keyHash P "PLUSEQUAL"), (.str "PLUSEQUAL" 417), (.int 36 416)⟩, ⟨(PySem.PyData.keyHash P "MINEQUAL"), (.str "MINEQUAL" 419), (.int 37 418)⟩, ⟨(PySem.PyData.keyHash P "STAREQUAL"), (.str "STAREQUAL" 421), (.int 38 420)⟩, ⟨(PySem.PyData.keyHash P "SLASHEQUAL"), (.str "SLASHEQUAL" 423), (.int 39 422)⟩, ⟨(PySem.PyData.keyHash P "PERCENTEQUAL"), (.str "PERCENTEQUAL" 425), (.int 40 424)⟩, ⟨(PySem.PyData.keyHash P "AMPEREQUAL"), (.str "AMPEREQUAL" 427), (.int 41 426)⟩, ⟨(PySem.PyData.keyHash P "VBAREQUAL"), (.str "VBAREQUAL" 429), (.int 42 428)⟩, ⟨(PySem.PyData.keyHash P "CIRCUMFLEXEQUAL"), (.str "CIRCUMFLEXEQUAL" 431), (.int 43 430)⟩, ⟨(PySem.PyData.keyHash P "LEFTSHIFTEQUAL"), (.str "LEFTSHIFTEQUAL" 433), (.int 44 432)⟩, ⟨(PySem.PyData.keyHash P "RIGHTSHIFTEQUAL"), (.str "RIGHTSHIFTEQUAL" 435), (.int 45 434)⟩, ⟨(PySem.PyData.keyHash P "DOUBLESTAREQUAL"), (.str "DOUBLESTAREQUAL" 437), (.int 46 436)⟩, ⟨(PySem.PyData.keyHash P "DOUBLESLASH"), (.str "DOUBLESLASH" 439), (.int 47 438)⟩, ⟨(PySem.PyData.keyHash P "DOUBLESLASHEQUAL"), (.str "DOUBLESLASHEQUAL" 441), (.int 48 440)⟩, ⟨(PySem.PyData.keyHash P "AT"), (.str "AT" 443), (.int 49 442)⟩, ⟨(PySem.PyData.keyHash P "ATEQUAL"), (.str "ATEQUAL" 445), (.int 50 444)⟩, ⟨(PySem.PyData.keyHash P "RARROW"), (.str "RARROW" 447), (.int 51 446)⟩, ⟨(PySem.PyData.keyHash P "ELLIPSIS"), (.str "ELLIPSIS" 449), (.int 52 448)⟩, ⟨(PySem.PyData.keyHash P "COLONEQUAL"), (.str "COLONEQUAL" 451), (.int 53 450)⟩, ⟨(PySem.PyData.keyHash P "EXCLAMATION"), (.str "EXCLAMATION" 453), (.int 54 452)⟩, ⟨(PySem.PyData.keyHash P "NT_OFFSET"), (.str "NT_OFFSET" 455), (.int 256 454)⟩, ⟨(PySem.PyData.keyHash P "EXACT_TOKEN_TYPES"), (.str "EXACT_TOKEN_TYPES" 552), (.ref 137)⟩, ⟨(PySem.PyData.keyHash P "ISNONTERMINAL"), (.str "ISNONTERMINAL" 559), (.ref 146)⟩, ⟨(PySem.PyData.keyHash P "ISEOF"), (.str "ISEOF" 566), (.ref 153)⟩, ⟨(PySem.PyData.keyHash P "_law_weights"), (.str "_law_weights" 574), (.ref 158)⟩, ⟨(PySem.PyData.keyHash P "_law_texts"), (.str "_law_texts" 580), (.ref 163)⟩, ⟨(PySem.PyData.keyHash P "_law_symbols"), (.str "_law_symbols" 593), (.ref 170)⟩, ⟨(PySem.PyData.keyHash P "_law_leads"), (.str "_law_leads" 599), (.ref 175)⟩, ⟨(PySem.PyData.keyHash P "_law_worth"), (.str "_law_worth" 612), (.ref 182)⟩, ⟨(PySem.PyData.keyHash P "_law_together"), (.str "_law_together" 625), (.ref 189)⟩, ⟨(PySem.PyData.keyHash P "_law_times"), (.str "_law_times" 636), (.ref 196)⟩, ⟨(PySem.PyData.keyHash P "_law_inverse"), (.str "_law_inverse" 642), (.ref 201)⟩, ⟨(PySem.PyData.keyHash P "_law_product"), (.str "_law_product" 648), (.ref 206)⟩, ⟨(PySem.PyData.keyHash P "law"), (.str "law" 654), (.ref 211)⟩] 81), #[]⟩
noncomputable def o87 (P : Params) : Obj := ⟨.none, .none, (.fields #[(.int 1 0), (.int 0 0), (.ref 20), (.int 5 0), (.int 0 0), (.ref 27), (.int 50 0), (.int 0 0), (.ref 93), (.int 59 0), (.int 0 0), (.ref 100), (.int 61 0), (.int 0 0), (.ref 107), (.int 63 0), (.int 0 0), (.ref 114), (.int 65 0), (.int 0 0), (.ref 121), (.int 67 0), (.int 0 0), (.ref 128), (.int 73 0), (.int 0 0), (.ref 135), (.int 128 0), (.int 0 0), (.ref 145), (.int 130 0), (.int 0 0), (.ref 152), (.int 133 0), (.int 0 0), (.ref 157), (.int 138 0), (.int 0 0), (.ref 162), (.int 143 0), (.int 0 0), (.ref 169), (.int 154 0), (.int 0 0), (.ref 174), (.int 172 0), (.int 0 0), (.ref 181), (.int 181 0), (.int 0 0), (.ref 188), (.int 187 0), (.int 0 0), (.ref 195), (.int 193 0), (.int 0 0), (.ref 200), (.int 203 0), (.int 0 0), (.ref 205), (.int 205 0), (.int 0 0), (.ref 210)]), #[]⟩
noncomputable def o88 (P : Params) : Obj := ⟨(.type "tuple"), .none, (.seq #[(.str "x" 556)] 0), #[]⟩
noncomputable def o89 (P : Params) : Obj := ⟨.none, .none, (.func fd30), #[]⟩
noncomputable def o90 (P : Params) : Obj := ⟨(.type "code"), .none, (.fields #[(.str "ISNONTERMINAL" 553), (.str "ISNONTERMINAL" 554), (.str "/claim/cut.py" 555), (.int 128 0), (.int 1 0), (.int 0 0), (.int 0 0), (.int 3 0), (.ref 140), (.bool .true), (.int 181 0), (.ref 141), .none, (.ref 142), (.ref 143), (.ref 144), (.int 557 0), (.int 128 0), (.str "/claim/cut.py" 558)]), #[]⟩
noncomputable def o91 (P : Params) : Obj := ⟨(.type "function"), .none, (.func fd31), #[]⟩
noncomputable def o92 (P : Params) : Obj := ⟨(.type "tuple"), .none, (.seq #[(.str "x" 563)] 0), #[]⟩
noncomputable def o93 (P : Params) : Obj := ⟨.none, .none, (.func fd32), #[]⟩
noncomputable def o94 (P : Params) : Obj := ⟨(.type "code"), .none, (.fields #[(.str "ISEOF" 560), (.str "ISEOF" 561), (.str "/claim/cut.py" 562), (.int 130 0), (.int 1 0), (.int 0 0), (.int 0 0), (.int 3 0), (.ref 147), (.bool .true), (.int 181 0), (.ref 148), .none, (.ref 149), (.ref 150), (.ref 151), (.int 564 0), (.int 130 0), (.str "/claim/cut.py" 565)]), #[]⟩
noncomputable def o95 (P : Params) : Obj := ⟨(.type "function"), .none, (.func fd33), #[]⟩
noncomputable def o96 (P : Params) : Obj := ⟨.none, .none, (.func fd34), #[]⟩
noncomputable def o97 (P : Params) : Obj := ⟨(.type "code"), .none, (.fields #[(.str "_law_weights" 569), (.str "_law_weights" 570), (.str "/claim/cut.py" 571), (.int 133 0), (.int 1 0), (.int 0 0), (.int 0 0), (.int 3 0), (.ref 154), (.bool .true), (.int 181 0), (.ref 155), .none, .none, .none, (.ref 156), (.int 572 0), (.int 133 0), (.str "/claim/cut.py" 573)]), #[]⟩
noncomputable def o98 (P : Params) : Obj := ⟨(.type "function"), .none, (.func fd35), #[]⟩
noncomputable def o99 (P : Params) : Obj := ⟨.none, .none, (.func fd36), #[]⟩
noncomputable def o100 (P : Params) : Obj := ⟨(.type "code"), .none, (.fields #[(.str "_law_texts" 575), (.str "_law_texts" 576), (.str "/claim/cut.py" 577), (.int 138 0), (.int 1 0), (.int 0 0), (.int 0 0), (.int 3 0), (.ref 159), (.bool .true), (.int 181 0), (.ref 160), .none, .none, .none, (.ref 161), (.int 578 0), (.int 138 0), (.str "/claim/cut.py" 579)]), #[]⟩
noncomputable def o101 (P : Params) : Obj := ⟨(.type "function"), .none, (.func fd37), #[]⟩
noncomputable def o102 (P : Params) : Obj := ⟨(.type "tuple"), .none, (.seq #[(.str "text" 584), (.str "number" 585), (.str "sign" 586), (.str "symbols" 587), (.str "letter" 588), (.str "place" 589), (.str "bit" 590)] 0), #[]⟩
noncomputable def o103 (P : Params) : Obj := ⟨.none, .none, (.func fd38), #[]⟩
noncomputable def o104 (P : Params) : Obj := ⟨(.type "code"), .none, (.fields #[(.str "_law_symbols" 581), (.str "_law_symbols" 582), (.str "/claim/cut.py" 583), (.int 143 0), (.int 1 0), (.int 0 0), (.int 0 0), (.int 3 0), (.ref 164), (.bool .true), (.int 181 0), (.ref 165), .none, (.ref 166), (.ref 167), (.ref 168), (.int 591 0), (.int 143 0), (.str "/claim/cut.py" 592)]), #[]⟩
noncomputable def o105 (P : Params) : Obj := ⟨(.type "function"), .none, (.func fd39), #[]⟩
noncomputable def o106 (P : Params) : Obj := ⟨.none, .none, (.func fd40), #[]⟩
noncomputable def o107 (P : Params) : Obj := ⟨(.type "code"), .none, (.fields #[(.str "_law_leads" 594), (.str "_law_leads" 595), (.str "/claim/cut.py" 596), (.int 154 0), (.int 1 0), (.int 0 0), (.int 0 0), (.int 3 0), (.ref 171), (.bool .true), (.int 181 0), (.ref 172), .none, .none, .none, (.ref 173), (.int 597 0), (.int 154 0), (.str "/claim/cut.py" 598)]), #[]⟩
noncomputable def o108 (P : Params) : Obj := ⟨(.type "function"), .none, (.func fd41), #[]⟩
noncomputable def o109 (P : Params) : Obj := ⟨(.type "tuple"), .none, (.seq #[(.str "lead" 603), (.str "weights" 604), (.str "counts" 605), (.str "last" 606), (.str "worth" 607), (.str "size" 608), (.str "many" 609)] 0), #[]⟩
noncomputable def o110 (P : Params) : Obj := ⟨.none, .none, (.func fd42), #[]⟩
noncomputable def o111 (P : Params) : Obj := ⟨(.type "code"), .none, (.fields #[(.str "_law_worth" 600), (.str "_law_worth" 601), (.str "/claim/cut.py" 602), (.int 172 0), (.int 2 0), (.int 0 0), (.int 0 0), (.int 3 0), (.ref 176), (.bool .true), (.int 181 0), (.ref 177), .none, (.ref 178), (.ref 179), (.ref 180), (.int 610 0), (.int 172 0), (.str "/claim/cut.py" 611)]), #[]⟩
noncomputable def o112 (P : Params) : Obj := ⟨(.type "function"), .none, (.func fd43), #[]⟩
noncomputable def o113 (P : Params) : Obj := ⟨(.type "tuple"), .none, (.seq #[(.str "texts" 616), (.str "first" 617), (.str "second" 618), (.str "total" 619), (.str "text" 620), (.str "even" 621), (.str "odd" 622)] 0), #[]⟩
noncomputable def o114 (P : Params) : Obj := ⟨.none, .none, (.func fd44), #[]⟩
noncomputable def o115 (P : Params) : Obj := ⟨(.type "code"), .none, (.fields #[(.str "_law_together" 613), (.str "_law_together" 614), (.str "/claim/cut.py" 615), (.int 181 0), (.int 3 0), (.int 0 0), (.int 0 0), (.int 3 0), (.ref 183), (.bool .true), (.int 181 0), (.ref 184), .none, (.ref 185), (.ref 186), (.ref 187), (.int 623 0), (.int 181 0), (.str "/claim/cut.py" 624)]), #[]⟩
noncomputable def o116 (P : Params) : Obj := ⟨(.type "function"), .none, (.func fd45), #[]⟩
noncomputable def o117 (P : Params) : Obj := ⟨(.type "tuple"), .none, (.seq #[(.str "one" 629), (.str "other" 630), (.str "made" 631), (.str "i" 632), (.str "j" 633)] 0), #[]⟩
noncomputable def o118 (P : Params) : Obj := ⟨.none, .none, (.func fd46), #[]⟩
noncomputable def o119 (P : Params) : Obj := ⟨(.type "code"), .none, (.fields #[(.str "_law_times" 626), (.str "_law_times" 627), (.str "/claim/cut.py" 628), (.int 187 0), (.int 2 0), (.int 0 0), (.int 0 0), (.int 3 0), (.ref 190), (.bool .true), (.int 181 0), (.ref 191), .none, (.ref 192), (.ref 193), (.ref 194), (.int 634 0), (.int 187 0), (.str "/claim/cut.py" 635)]), #[]⟩
noncomputable def o120 (P : Params) : Obj := ⟨(.type "function"), .none, (.func fd47), #[]⟩
noncomputable def o121 (P : Params) : Obj := ⟨.none, .none, (.func fd48), #[]⟩
noncomputable def o122 (P : Params) : Obj := ⟨(.type "code"), .none, (.fields #[(.str "_law_inverse" 637), (.str "_law_inverse" 638), (.str "/claim/cut.py" 639), (.int 193 0), (.int 1 0), (.int 0 0), (.int 0 0), (.int 3 0), (.ref 197), (.bool .true), (.int 181 0), (.ref 198), .none, .none, .none, (.ref 199), (.int 640 0), (.int 193 0), (.str "/claim/cut.py" 641)]), #[]⟩
noncomputable def o123 (P : Params) : Obj := ⟨(.type "function"), .none, (.func fd49), #[]⟩
noncomputable def o124 (P : Params) : Obj := ⟨.none, .none, (.func fd50), #[]⟩
noncomputable def o125 (P : Params) : Obj := ⟨(.type "code"), .none, (.fields #[(.str "_law_product" 643), (.str "_law_product" 644), (.str "/claim/cut.py" 645), (.int 203 0), (.int 2 0), (.int 0 0), (.int 0 0), (.int 3 0), (.ref 202), (.bool .true), (.int 181 0), (.ref 203), .none, .none, .none, (.ref 204), (.int 646 0), (.int 203 0), (.str "/claim/cut.py" 647)]), #[]⟩
noncomputable def o126 (P : Params) : Obj := ⟨(.type "function"), .none, (.func fd51), #[]⟩
noncomputable def o127 (P : Params) : Obj := ⟨.none, .none, (.func fd52), #[]⟩
noncomputable def o128 (P : Params) : Obj := ⟨(.type "code"), .none, (.fields #[(.str "law" 649), (.str "law" 650), (.str "/claim/cut.py" 651), (.int 205 0), (.int 1 0), (.int 0 0), (.int 0 0), (.int 3 0), (.ref 207), (.bool .true), (.int 181 0), (.ref 208), .none, .none, .none, (.ref 209), (.int 652 0), (.int 205 0), (.str "/claim/cut.py" 653)]), #[]⟩
noncomputable def o129 (P : Params) : Obj := ⟨(.type "function"), .none, (.func fd53), #[]⟩
noncomputable def HP (P : Params) : Heap := { objs := ⟨[
  boot_o_0 P, boot_o_1 P, boot_o_2 P, boot_o_3 P, boot_o_4 P, boot_o_5 P, boot_o_6 P, boot_o_7 P, boot_o_8 P, boot_o_9 P, boot_o_10 P, o0 P, o1 P, o2 P,
  o3 P]⟩ }
noncomputable def HA (P : Params) : Heap := { objs := ⟨[
  boot_o_0 P, boot_o_1 P, boot_o_2 P, o4 P, boot_o_4 P, boot_o_5 P, boot_o_6 P, boot_o_7 P, boot_o_8 P, boot_o_9 P, boot_o_10 P, o0 P, o5 P, o2 P,
  o3 P, o0 P, o1 P, o6 P, o0 P, o7 P, o8 P, o9 P, o0 P, o10 P, o11 P, o0 P, o12 P, o13 P,
  o14 P, o15 P, o0 P, o16 P, o0 P, o1 P, o17 P, o0 P, o18 P, o19 P, o20 P, o0 P, o1 P, o21 P,
  o0 P, o22 P, o23 P, o24 P, o0 P, o1 P, o25 P, o0 P, o26 P, o27 P, o28 P, o0 P, o1 P, o29 P,
  o0 P, o30 P, o31 P, o32 P, o0 P, o1 P, o33 P, o0 P, o34 P, o35 P, o36 P, o0 P, o1 P, o37 P,
  o0 P, o38 P, o39 P, o40 P, o0 P, o1 P, o41 P, o0 P, o42 P, o43 P, o44 P, o45 P, o46 P, o47 P,
  o48 P, o49 P, o50 P, o51 P]⟩ }
noncomputable def HB (P : Params) : Heap := { objs := ⟨[
  boot_o_0 P, boot_o_1 P, boot_o_2 P, o52 P, boot_o_4 P, boot_o_5 P, boot_o_6 P, boot_o_7 P, boot_o_8 P, boot_o_9 P, boot_o_10 P, o0 P, o53 P, o2 P,
  o3 P, o0 P, o1 P, o6 P, o0 P, o7 P, o8 P, o9 P, o0 P, o10 P, o11 P, o0 P, o12 P, o13 P,
  o14 P, o15 P, o0 P, o16 P, o0 P, o1 P, o17 P, o0 P, o18 P, o19 P, o20 P, o0 P, o1 P, o21 P,
  o0 P, o22 P, o23 P, o24 P, o0 P, o1 P, o25 P, o0 P, o26 P, o27 P, o28 P, o0 P, o1 P, o29 P,
  o0 P, o30 P, o31 P, o32 P, o0 P, o1 P, o33 P, o0 P, o34 P, o35 P, o36 P, o0 P, o1 P, o37 P,
  o0 P, o38 P, o39 P, o40 P, o0 P, o1 P, o41 P, o0 P, o42 P, o43 P, o44 P, o45 P, o46 P, o47 P,
  o48 P, o49 P, o50 P, o51 P, o0 P, o1 P, o54 P, o0 P, o55 P, o56 P, o57 P, o0 P, o1 P, o58 P,
  o0 P, o59 P, o60 P, o61 P, o0 P, o1 P, o62 P, o0 P, o63 P, o64 P, o65 P, o0 P, o1 P, o66 P,
  o0 P, o67 P, o68 P, o69 P, o0 P, o1 P, o70 P, o0 P, o71 P, o72 P, o73 P, o0 P, o1 P, o74 P,
  o0 P, o75 P, o76 P, o77 P, o0 P, o1 P, o78 P, o0 P, o79 P, o80 P, o81 P]⟩ }
noncomputable def HC (P : Params) : Heap := { objs := ⟨[
  boot_o_0 P, boot_o_1 P, boot_o_2 P, o82 P, boot_o_4 P, boot_o_5 P, boot_o_6 P, boot_o_7 P, boot_o_8 P, boot_o_9 P, boot_o_10 P, o0 P, o53 P, o2 P,
  o3 P, o0 P, o1 P, o6 P, o0 P, o7 P, o8 P, o9 P, o0 P, o10 P, o11 P, o0 P, o12 P, o13 P,
  o14 P, o15 P, o0 P, o16 P, o0 P, o1 P, o17 P, o0 P, o18 P, o19 P, o20 P, o0 P, o1 P, o21 P,
  o0 P, o22 P, o23 P, o24 P, o0 P, o1 P, o25 P, o0 P, o26 P, o27 P, o28 P, o0 P, o1 P, o29 P,
  o0 P, o30 P, o31 P, o32 P, o0 P, o1 P, o33 P, o0 P, o34 P, o35 P, o36 P, o0 P, o1 P, o37 P,
  o0 P, o38 P, o39 P, o40 P, o0 P, o1 P, o41 P, o0 P, o42 P, o43 P, o44 P, o45 P, o46 P, o47 P,
  o48 P, o49 P, o50 P, o51 P, o0 P, o1 P, o54 P, o0 P, o55 P, o56 P, o57 P, o0 P, o1 P, o58 P,
  o0 P, o59 P, o60 P, o61 P, o0 P, o1 P, o62 P, o0 P, o63 P, o64 P, o65 P, o0 P, o1 P, o66 P,
  o0 P, o67 P, o68 P, o69 P, o0 P, o1 P, o70 P, o0 P, o71 P, o72 P, o73 P, o0 P, o1 P, o74 P,
  o0 P, o75 P, o76 P, o77 P, o0 P, o1 P, o78 P, o0 P, o79 P, o80 P, o81 P, o83 P, o84 P, o85 P]⟩ }
noncomputable def HF (P : Params) : Heap := { objs := ⟨[
  boot_o_0 P, boot_o_1 P, boot_o_2 P, o86 P, boot_o_4 P, boot_o_5 P, boot_o_6 P, boot_o_7 P, boot_o_8 P, boot_o_9 P, boot_o_10 P, o0 P, o87 P, o2 P,
  o3 P, o0 P, o1 P, o6 P, o0 P, o7 P, o8 P, o9 P, o0 P, o10 P, o11 P, o0 P, o12 P, o13 P,
  o14 P, o15 P, o0 P, o16 P, o0 P, o1 P, o17 P, o0 P, o18 P, o19 P, o20 P, o0 P, o1 P, o21 P,
  o0 P, o22 P, o23 P, o24 P, o0 P, o1 P, o25 P, o0 P, o26 P, o27 P, o28 P, o0 P, o1 P, o29 P,
  o0 P, o30 P, o31 P, o32 P, o0 P, o1 P, o33 P, o0 P, o34 P, o35 P, o36 P, o0 P, o1 P, o37 P,
  o0 P, o38 P, o39 P, o40 P, o0 P, o1 P, o41 P, o0 P, o42 P, o43 P, o44 P, o45 P, o46 P, o47 P,
  o48 P, o49 P, o50 P, o51 P, o0 P, o1 P, o54 P, o0 P, o55 P, o56 P, o57 P, o0 P, o1 P, o58 P,
  o0 P, o59 P, o60 P, o61 P, o0 P, o1 P, o62 P, o0 P, o63 P, o64 P, o65 P, o0 P, o1 P, o66 P,
  o0 P, o67 P, o68 P, o69 P, o0 P, o1 P, o70 P, o0 P, o71 P, o72 P, o73 P, o0 P, o1 P, o74 P,
  o0 P, o75 P, o76 P, o77 P, o0 P, o1 P, o78 P, o0 P, o79 P, o80 P, o81 P, o83 P, o84 P, o85 P,
  o0 P, o1 P, o88 P, o0 P, o89 P, o90 P, o91 P, o0 P, o1 P, o92 P, o0 P, o93 P, o94 P, o95 P,
  o0 P, o1 P, o96 P, o97 P, o98 P, o0 P, o1 P, o99 P, o100 P, o101 P, o0 P, o1 P, o102 P, o0 P,
  o103 P, o104 P, o105 P, o0 P, o1 P, o106 P, o107 P, o108 P, o0 P, o1 P, o109 P, o0 P, o110 P, o111 P,
  o112 P, o0 P, o1 P, o113 P, o0 P, o114 P, o115 P, o116 P, o0 P, o1 P, o117 P, o0 P, o118 P, o119 P,
  o120 P, o0 P, o1 P, o121 P, o122 P, o123 P, o0 P, o1 P, o124 P, o125 P, o126 P, o0 P, o1 P, o127 P,
  o128 P, o129 P]⟩ }
noncomputable def heap_39 : Params → Frag := fun P =>
  (nat_lit 2, boot_o_2 P) :: (nat_lit 3, o86 P) :: (nat_lit 15, o0 P) :: (nat_lit 17, o6 P) :: (nat_lit 18, o0 P) :: (nat_lit 20, o8 P) :: (nat_lit 21, o9 P) :: (nat_lit 32, o0 P) ::
  (nat_lit 34, o17 P) :: (nat_lit 35, o0 P) :: (nat_lit 37, o19 P) :: (nat_lit 38, o20 P) :: (nat_lit 39, o0 P) :: (nat_lit 41, o21 P) :: (nat_lit 42, o0 P) :: (nat_lit 44, o23 P) ::
  (nat_lit 45, o24 P) :: (nat_lit 46, o0 P) :: (nat_lit 48, o25 P) :: (nat_lit 49, o0 P) :: (nat_lit 51, o27 P) :: (nat_lit 52, o28 P) :: (nat_lit 53, o0 P) :: (nat_lit 55, o29 P) ::
  (nat_lit 56, o0 P) :: (nat_lit 58, o31 P) :: (nat_lit 59, o32 P) :: (nat_lit 60, o0 P) :: (nat_lit 62, o33 P) :: (nat_lit 63, o0 P) :: (nat_lit 65, o35 P) :: (nat_lit 66, o36 P) ::
  (nat_lit 67, o0 P) :: (nat_lit 69, o37 P) :: (nat_lit 70, o0 P) :: (nat_lit 72, o39 P) :: (nat_lit 73, o40 P) :: (nat_lit 74, o0 P) :: (nat_lit 76, o41 P) :: (nat_lit 77, o0 P) ::
  (nat_lit 79, o43 P) :: (nat_lit 80, o44 P) :: (nat_lit 81, o45 P) :: (nat_lit 82, o46 P) :: (nat_lit 83, o47 P) :: (nat_lit 84, o48 P) :: (nat_lit 85, o49 P) :: (nat_lit 88, o0 P) ::
  (nat_lit 90, o54 P) :: (nat_lit 91, o0 P) :: (nat_lit 93, o56 P) :: (nat_lit 94, o57 P) :: (nat_lit 95, o0 P) :: (nat_lit 97, o58 P) :: (nat_lit 98, o0 P) :: (nat_lit 100, o60 P) ::
  (nat_lit 101, o61 P) :: (nat_lit 102, o0 P) :: (nat_lit 104, o62 P) :: (nat_lit 105, o0 P) :: (nat_lit 107, o64 P) :: (nat_lit 108, o65 P) :: (nat_lit 109, o0 P) :: (nat_lit 111, o66 P) ::
  (nat_lit 112, o0 P) :: (nat_lit 114, o68 P) :: (nat_lit 115, o69 P) :: (nat_lit 116, o0 P) :: (nat_lit 118, o70 P) :: (nat_lit 119, o0 P) :: (nat_lit 121, o72 P) :: (nat_lit 122, o73 P) ::
  (nat_lit 123, o0 P) :: (nat_lit 125, o74 P) :: (nat_lit 126, o0 P) :: (nat_lit 128, o76 P) :: (nat_lit 129, o77 P) :: (nat_lit 130, o0 P) :: (nat_lit 132, o78 P) :: (nat_lit 133, o0 P) ::
  (nat_lit 135, o80 P) :: (nat_lit 136, o81 P) :: (nat_lit 137, o83 P) :: (nat_lit 140, o0 P) :: (nat_lit 142, o88 P) :: (nat_lit 143, o0 P) :: (nat_lit 145, o90 P) :: (nat_lit 146, o91 P) ::
  (nat_lit 147, o0 P) :: (nat_lit 149, o92 P) :: (nat_lit 150, o0 P) :: (nat_lit 152, o94 P) :: (nat_lit 153, o95 P) :: (nat_lit 154, o0 P) :: (nat_lit 157, o97 P) :: (nat_lit 158, o98 P) ::
  (nat_lit 159, o0 P) :: (nat_lit 162, o100 P) :: (nat_lit 163, o101 P) :: (nat_lit 164, o0 P) :: (nat_lit 166, o102 P) :: (nat_lit 167, o0 P) :: (nat_lit 169, o104 P) :: (nat_lit 170, o105 P) ::
  (nat_lit 171, o0 P) :: (nat_lit 174, o107 P) :: (nat_lit 175, o108 P) :: (nat_lit 176, o0 P) :: (nat_lit 178, o109 P) :: (nat_lit 179, o0 P) :: (nat_lit 181, o111 P) :: (nat_lit 182, o112 P) ::
  (nat_lit 183, o0 P) :: (nat_lit 185, o113 P) :: (nat_lit 186, o0 P) :: (nat_lit 188, o115 P) :: (nat_lit 189, o116 P) :: (nat_lit 190, o0 P) :: (nat_lit 192, o117 P) :: (nat_lit 193, o0 P) ::
  (nat_lit 195, o119 P) :: (nat_lit 196, o120 P) :: (nat_lit 197, o0 P) :: (nat_lit 200, o122 P) :: (nat_lit 201, o123 P) :: (nat_lit 202, o0 P) :: (nat_lit 205, o125 P) :: (nat_lit 206, o126 P) ::
  (nat_lit 207, o0 P) :: (nat_lit 210, o128 P) :: (nat_lit 211, o129 P) :: []
abbrev hAs : List Addr := [nat_lit 2, nat_lit 3, nat_lit 15, nat_lit 17, nat_lit 18, nat_lit 20, nat_lit 21, nat_lit 32, nat_lit 34, nat_lit 35, nat_lit 37, nat_lit 38, nat_lit 39, nat_lit 41, nat_lit 42, nat_lit 44, nat_lit 45, nat_lit 46, nat_lit 48, nat_lit 49, nat_lit 51, nat_lit 52, nat_lit 53, nat_lit 55, nat_lit 56, nat_lit 58, nat_lit 59, nat_lit 60, nat_lit 62, nat_lit 63, nat_lit 65, nat_lit 66, nat_lit 67, nat_lit 69, nat_lit 70, nat_lit 72, nat_lit 73, nat_lit 74, nat_lit 76, nat_lit 77, nat_lit 79, nat_lit 80, nat_lit 81, nat_lit 82, nat_lit 83, nat_lit 84, nat_lit 85, nat_lit 88, nat_lit 90, nat_lit 91, nat_lit 93, nat_lit 94, nat_lit 95, nat_lit 97, nat_lit 98, nat_lit 100, nat_lit 101, nat_lit 102, nat_lit 104, nat_lit 105, nat_lit 107, nat_lit 108, nat_lit 109, nat_lit 111, nat_lit 112, nat_lit 114, nat_lit 115, nat_lit 116, nat_lit 118, nat_lit 119, nat_lit 121, nat_lit 122, nat_lit 123, nat_lit 125, nat_lit 126, nat_lit 128, nat_lit 129, nat_lit 130, nat_lit 132, nat_lit 133, nat_lit 135, nat_lit 136, nat_lit 137, nat_lit 140, nat_lit 142, nat_lit 143, nat_lit 145, nat_lit 146, nat_lit 147, nat_lit 149, nat_lit 150, nat_lit 152, nat_lit 153, nat_lit 154, nat_lit 157, nat_lit 158, nat_lit 159, nat_lit 162, nat_lit 163, nat_lit 164, nat_lit 166, nat_lit 167, nat_lit 169, nat_lit 170, nat_lit 171, nat_lit 174, nat_lit 175, nat_lit 176, nat_lit 178, nat_lit 179, nat_lit 181, nat_lit 182, nat_lit 183, nat_lit 185, nat_lit 186, nat_lit 188, nat_lit 189, nat_lit 190, nat_lit 192, nat_lit 193, nat_lit 195, nat_lit 196, nat_lit 197, nat_lit 200, nat_lit 201, nat_lit 202, nat_lit 205, nat_lit 206, nat_lit 207, nat_lit 210, nat_lit 211]
theorem hE : ∀ P, hAs = (heap_39 P).map (·.1) := fun P => by kernel_rfl
noncomputable def lawS : { s : Stmt // s = stAt 76 } := ⟨_, by (conv => rhs; whnf)⟩
noncomputable def view_39 : Program := { PW with main := { PW.main with body := [lawS.1] } }
abbrev LS : List Str := [Str.ofString "_wall", Str.ofString "Whitespace", Str.ofString "Int2AP", Str.ofString "add", Str.ofString "and_", Str.ofString "mul", Str.ofString "rshift", Str.ofString "countOf", Str.ofString "ipow", Str.ofString "ENDMARKER", Str.ofString "LPAR", Str.ofString "RPAR", Str.ofString "LSQB", Str.ofString "RSQB", Str.ofString "COLON", Str.ofString "COMMA", Str.ofString "SEMI", Str.ofString "PLUS", Str.ofString "MINUS", Str.ofString "STAR", Str.ofString "SLASH", Str.ofString "VBAR", Str.ofString "AMPER", Str.ofString "LESS", Str.ofString "GREATER", Str.ofString "EQUAL", Str.ofString "DOT", Str.ofString "PERCENT", Str.ofString "LBRACE", Str.ofString "RBRACE", Str.ofString "EQEQUAL", Str.ofString "NOTEQUAL", Str.ofString "LESSEQUAL", Str.ofString "GREATEREQUAL", Str.ofString "TILDE", Str.ofString "CIRCUMFLEX", Str.ofString "LEFTSHIFT", Str.ofString "RIGHTSHIFT", Str.ofString "DOUBLESTAR", Str.ofString "PLUSEQUAL", Str.ofString "MINEQUAL", Str.ofString "STAREQUAL", Str.ofString "SLASHEQUAL", Str.ofString "PERCENTEQUAL", Str.ofString "AMPEREQUAL", Str.ofString "VBAREQUAL", Str.ofString "CIRCUMFLEXEQUAL", Str.ofString "LEFTSHIFTEQUAL", Str.ofString "RIGHTSHIFTEQUAL", Str.ofString "DOUBLESTAREQUAL", Str.ofString "DOUBLESLASH", Str.ofString "DOUBLESLASHEQUAL", Str.ofString "AT", Str.ofString "ATEQUAL", Str.ofString "RARROW", Str.ofString "ELLIPSIS", Str.ofString "COLONEQUAL", Str.ofString "EXCLAMATION", Str.ofString "NT_OFFSET", Str.ofString "EXACT_TOKEN_TYPES", Str.ofString "ISNONTERMINAL", Str.ofString "ISEOF", Str.ofString "_law_weights", Str.ofString "_law_texts", Str.ofString "_law_symbols", Str.ofString "_law_leads", Str.ofString "_law_worth", Str.ofString "_law_together", Str.ofString "_law_times", Str.ofString "_law_inverse", Str.ofString "_law_product"]
noncomputable def ENV0 : Env := { scope := RR.prog.main.scope, locals := mainNs, globals := mainNs, cells := [], code := .ref 13, frame := some 14 }
abbrev p0 : Pos := ⟨0, 0, 0, 0⟩
noncomputable abbrev CB : Code := Code.body (behindTheImports RR.prog) ENV0
noncomputable def cut (a n : Nat) : List Stmt := ((behindTheImports RR.prog).drop a).take n
noncomputable abbrev hst (H : Params → Heap) (k : Nat) (w : World) (os : OsState) : Shared := { heap := H w.params, toks := k, os := os }
theorem run0 (w : World) (os : OsState) : topGo treeTable RR.prog w 11 (some (.ref 6)) 12 ⟨boot_heap w.params, #[], boot_drawn, boot_toks, os⟩ (topStub RR.prog) = some (hst HP 187 w os, ⟨denote treeTable CB, CB, p0, [topFrame p0]⟩) := by kernel_rfl
theorem run1 (w : World) (os : OsState) : segRun treeTable RR.prog w 11 (some (.ref 6)) 1 1 (hst HP 187 w os) (blockOf (behindTheImports RR.prog) ENV0 CB p0 [topFrame p0]) = some (Flow.next, hst HP 187 w os, CB, p0) := by kernel_rfl
theorem runA_false (w : World) (os : OsState) : segRun treeTable RR.prog (w.withFollow "special-get-raises" false) 11 (some (.ref 6)) 1 525 (hst HP 187 (w.withFollow "special-get-raises" false) os) (piecesOf (cut 0 3) ENV0 CB p0 [topFrame p0]) = some (Flow.next, hst HA 290 (w.withFollow "special-get-raises" false) os, CB, ⟨5,0,48,16⟩) := by
  rw [PySem.W.Fast.te14374325043358763698, PySem.W.Fast.te14364793385576792824]; kernel_rfl
theorem runA_true (w : World) (os : OsState) : segRun treeTable RR.prog (w.withFollow "special-get-raises" true) 11 (some (.ref 6)) 1 525 (hst HP 187 (w.withFollow "special-get-raises" true) os) (piecesOf (cut 0 3) ENV0 CB p0 [topFrame p0]) = some (Flow.next, hst HA 290 (w.withFollow "special-get-raises" true) os, CB, ⟨5,0,48,16⟩) := by
  rw [PySem.W.Fast.te14374325043358763698, PySem.W.Fast.te14364793385576792824]; kernel_rfl
theorem runA (w : World) (os : OsState) : segRun treeTable RR.prog w 11 (some (.ref 6)) 1 525 (hst HP 187 w os) (piecesOf (cut 0 3) ENV0 CB p0 [topFrame p0]) = some (Flow.next, hst HA 290 w os, CB, ⟨5,0,48,16⟩) :=
  byRow2 "special-get-raises" (P := fun w => segRun treeTable RR.prog w 11 (some (.ref 6)) 1 525 (hst HP 187 w os) (piecesOf (cut 0 3) ENV0 CB p0 [topFrame p0]) = some (Flow.next, hst HA 290 w os, CB, ⟨5,0,48,16⟩)) (fun w => runA_false w os) (fun w => runA_true w os) w
theorem runB (w : World) (os : OsState) : segRun treeTable RR.prog w 11 (some (.ref 6)) 1 692 (hst HA 290 w os) (piecesOf (cut 3 60) ENV0 CB ⟨5,0,48,16⟩ [topFrame p0]) = some (Flow.next, hst HB 456 w os, CB, ⟨126,0,126,9⟩) := by
  rw [PySem.W.Fast.te14374325043358763698, PySem.W.Fast.te14364793385576792824]; kernel_rfl
theorem runC_false (w : World) (os : OsState) : segRun treeTable RR.prog (w.withFollow "special-get-raises" false) 11 (some (.ref 6)) 1 979 (hst HB 456 (w.withFollow "special-get-raises" false) os) (piecesOf (cut 63 1) ENV0 CB ⟨126,0,126,9⟩ [topFrame p0]) = some (Flow.next, hst HC 553 (w.withFollow "special-get-raises" false) os, CB, ⟨127,0,127,17⟩) := by
  rw [PySem.W.Fast.te14374325043358763698, PySem.W.Fast.te14364793385576792824]; kernel_rfl
theorem runC_true (w : World) (os : OsState) : segRun treeTable RR.prog (w.withFollow "special-get-raises" true) 11 (some (.ref 6)) 1 979 (hst HB 456 (w.withFollow "special-get-raises" true) os) (piecesOf (cut 63 1) ENV0 CB ⟨126,0,126,9⟩ [topFrame p0]) = some (Flow.next, hst HC 553 (w.withFollow "special-get-raises" true) os, CB, ⟨127,0,127,17⟩) := by
  rw [PySem.W.Fast.te14374325043358763698, PySem.W.Fast.te14364793385576792824]; kernel_rfl
theorem runC (w : World) (os : OsState) : segRun treeTable RR.prog w 11 (some (.ref 6)) 1 979 (hst HB 456 w os) (piecesOf (cut 63 1) ENV0 CB ⟨126,0,126,9⟩ [topFrame p0]) = some (Flow.next, hst HC 553 w os, CB, ⟨127,0,127,17⟩) :=
  byRow2 "special-get-raises" (P := fun w => segRun treeTable RR.prog w 11 (some (.ref 6)) 1 979 (hst HB 456 w os) (piecesOf (cut 63 1) ENV0 CB ⟨126,0,126,9⟩ [topFrame p0]) = some (Flow.next, hst HC 553 w os, CB, ⟨127,0,127,17⟩)) (fun w => runC_false w os) (fun w => runC_true w os) w
theorem runF (w : World) (os : OsState) : segRun treeTable RR.prog w 11 (some (.ref 6)) 1 362 (hst HC 553 w os) (piecesOf (cut 64 13) ENV0 CB ⟨127,0,127,17⟩ [topFrame p0]) = some (Flow.next, hst HF 655 w os, CB, ⟨205,0,211,88⟩) := by
  rw [PySem.W.Fast.te14374325043358763698, PySem.W.Fast.te14364793385576792824]; kernel_rfl
theorem runZ (w : World) (os : OsState) : topRun treeTable RR.prog w 11 (some (.ref 6)) 2 (hst HF 655 w os) (restOf [] ENV0 CB ⟨205,0,211,88⟩ [topFrame p0]) = some (hst HF 655 w os) := by kernel_rfl
end hd
end Mine
namespace Mine
open PySem PySem.W PyProof.Rows PySem.Calls PySem.Spec
namespace hd
set_option maxRecDepth 100000
abbrev MM : Nat := Nat.add 12 (Nat.add 1 (Nat.add 525 (Nat.add 692 (Nat.add 979 (Nat.add 362 2)))))
theorem cutAll : cut 0 3 ++ (cut 3 60 ++ (cut 63 1 ++ (cut 64 13 ++ []))) = behindTheImports RR.prog := by kernel_rfl
theorem runR (w : World) (os : OsState) : topRun treeTable RR.prog w 11 (some (.ref 6)) (Nat.add 525 (Nat.add 692 (Nat.add 979 (Nat.add 362 2)))) (hst HP 187 w os) (restOf (cut 0 3 ++ (cut 3 60 ++ (cut 63 1 ++ (cut 64 13 ++ [])))) ENV0 CB p0 [topFrame p0]) = some (hst HF 655 w os) :=
  piece_app (runA w os) (piece_app (runB w os) (piece_app (runC w os) (piece_app (runF w os) (runZ w os))))
theorem runQ (w : World) (os : OsState) : topRun treeTable RR.prog w 11 (some (.ref 6)) (Nat.add 525 (Nat.add 692 (Nat.add 979 (Nat.add 362 2)))) (hst HP 187 w os) (restOf (behindTheImports RR.prog) ENV0 CB p0 [topFrame p0]) = some (hst HF 655 w os) := by
  rw [← cutAll]
  exact runR w os
theorem runAll (w : World) (os : OsState) : topRun treeTable RR.prog w 11 (some (.ref 6)) MM ⟨boot_heap w.params, #[], boot_drawn, boot_toks, os⟩ (topStub RR.prog) = some (hst HF 655 w os) :=
  go_top (run0 w os) (piece_block (run1 w os) (runQ w os))
theorem size (w : World) : ((boot_heap w.params).isNs mainGlobals && (#[] : Array GenState).size == 0, (boot_heap w.params).objs.size, (boot_heap w.params).nsMap mainGlobals "__annotations__") = (true, 11, some (.ref 6)) := by kernel_rfl
noncomputable abbrev XT (s : Shared) : Bool := xlAt view_39 [] s && recOk RR.records s
noncomputable abbrev HK : Hook := kHook heap_39 hAs hE
theorem look1 (w : World) (os : OsState) : (staticsOk (importedModules RR.prog.main.body) (boot_heap w.params) (HF w.params) && namesBound RR.prog (HF w.params) && gensDone ⟨HF w.params, #[], {}, 655, os⟩ && laidKept (boot_heap w.params) (HF w.params)) = true := by kernel_rfl
theorem look2 (w : World) (os : OsState) : openSeen view_39 LS (importedModules RR.prog.main.body) XT true ⟨HF w.params, #[], {}, 655, os⟩ = openGood view_39 LS := by
  rw [PySem.W.Fast.te4187177175401517315]; kernel_rfl
theorem look3 (w : World) (os : OsState) : HK.obs ⟨HF w.params, #[], {}, 655, os⟩ = HK.val w := by kernel_rfl
theorem openD : opening RR.prog = plainProg RR.prog.main.scope.names := by kernel_rfl
theorem fence (s : Shared) : fenceModules? RR.prog s = some s := by kernel_rfl
theorem left : LeftO RR.prog view_39 LS XT HK.obs HK.val 5234 :=
  LeftO.of_pieces (boot_open openD (by decide) fence) size runAll (by decide) fun w => funext fun os => looks_pair (look1 w os) (looks_pair (look2 w os) (look3 w os))
end hd
end Mine
namespace Mine
open PySem PySem.W PyProof.Rows PySem.Calls PySem.Spec
namespace hd
set_option maxRecDepth 100000
theorem said : OpenLaw.wellSaid PySem.Challenge.rw_wj0066_01 = true := by
  rw [PySem.W.Fast.te9446332074065402090]; kernel_rfl
theorem okk : (chainsOk view_39 && opensWell RR.prog && (frees RR.toRowW && RR.within.isEmpty)) = true := by kernel_rfl
end hd
theorem hd {d : DefRec} {kwd : List (Str × Expr)} (hdef : defOf hd.view_39 hd.RR.name = some (d, kwd)) (hp : hd.RR.prog.theDef hd.RR.name = some (d.params, d.body, d.scope)) (hk : kwWritten? d.params.kwonlyargs d.params.kw_defaults = some kwd)
    (call : WalkO hd.view_39 hd.LS (XL hd.view_39 []) (kHook hd.heap_39 hd.hAs hd.hE).says PySem.Challenge.rw_wj0066_01.row.toRowW d kwd fun f vs => PySem.call f vs) : PySem.Challenge.rw_wj0066_01.Holds :=
  holds_law hd.said fun said => by
    refine holds_open (q := hd.view_39) (loose := hd.LS) (Xt := hd.XT) (XP := XL hd.view_39 []) (Yf := hd.HK.obs) (Ya := hd.HK.val) (YP := hd.HK.says) (N := 5234) hd.left hd.HK.of hd.HK.keeps (fun s e => xl_of s (Bool.and_eq_true_iff.mp e).1) XL.keeps hdef hp hk (fun s e => recFacts_of (Bool.and_eq_true_iff.mp e).2) (by rfl) said hd.okk ⟨rfl, rfl, rfl, rfl, rfl, by decide +kernel⟩ ?hw call
    case hw => exact ⟨[WData.list []], by decide +kernel, by decide +kernel⟩
end Mine
namespace Mine
open PySem PySem.W PyProof.Rows PySem.Calls PySem.Spec
abbrev PP := PySem.Challenge.rw_wj0066_01
noncomputable abbrev LW := looseW hd.view_39 hd.LS
theorem news_cons {h₀ h : Heap} {L : Addr} {p : Addr × Obj} {news l : List (Addr × Obj)} (hp : p ∈ news) (N : News h₀ L h news) (N' : News h₀ L h l) : News h₀ L h (p :: l) := fun q hq => by
  rcases List.mem_cons.mp hq with rfl | hq
  · exact N _ hp
  · exact N' _ hq
theorem news_sub {h₀ h : Heap} {L : Addr} {news l : List (Addr × Obj)} (N : News h₀ L h news) (hs : ∀ p ∈ l, p ∈ news) : News h₀ L h l := fun p hp => N p (hs p hp)
theorem sub3 {α : Type} {a b c : α} {l : List α} : ∀ p ∈ a :: l, p ∈ a :: b :: c :: l := fun p hp => by
  rcases List.mem_cons.mp hp with rfl | hp
  · exact .head _
  · exact .tail _ (.tail _ (.tail _ hp))
theorem allLt_out {d : Nat} : ∀ {l : List (Addr × Obj)}, AllLt d l → ∀ p ∈ l, p.1 < d
  | [], _, _, h => nomatch h
  | q :: r, h, p, hp => by
    rcases List.mem_cons.mp hp with rfl | hp
    · exact h.1
    · exact allLt_out h.2 p hp
theorem sub2 {α : Type} {a b : α} {l : List α} : ∀ p ∈ a :: l, p ∈ a :: b :: l := fun p hp => by
  rcases List.mem_cons.mp hp with rfl | hp
  · exact .head _
  · exact .tail _ (.tail _ hp)
theorem sub4 {α : Type} {a b c d : α} {l : List α} : ∀ p ∈ a :: l, p ∈ a :: b :: c :: d :: l := fun p hp => by
  rcases List.mem_cons.mp hp with rfl | hp
  · exact .head _
  · exact .tail _ (.tail _ (.tail _ (.tail _ hp)))
theorem fr_eq {h₀ h : Heap} {L : Addr} {m m' : Str → Option Value} (F : Fr h₀ L h m) (e : m = m') : Fr h₀ L h m' := e ▸ F
def Hide (P : Prop) : Prop := P
theorem pause {P : Prop} (h : Hide P) : P := h
theorem resume {P : Prop} (h : P) : Hide P := h
end Mine
namespace Mine
open PySem PySem.W PyProof.Rows PySem.Calls PySem.Spec
section
variable {prog : Program} {w : World} {A : Around} {E : Value → Shared → Prop} {s : Shared} {env : Env} {h₀ : Heap} {x : Str} {body : List Stmt} {Q : Flow → Shared → Prop}
/-- a for over a list or a tuple of any values that stands in the ledger -/
theorem my_seq {σ : Type} {l : Addr} {vs : List Value} {o : Obj} {m₀ : Str → Option Value} (Led : σ → List (Addr × Obj)) (ps : σ → List (Str × Value)) (Facts : σ → Prop) (stored : List Str) (P : List Int → σ → Prop) (c₀ : σ)
    (hh : A.handled = none) (hcls : o.cls = .type "list" ∨ o.cls = .type "tuple") (hdat : ∃ n, o.data = .seq vs.toArray n) (hl : ∀ c : σ, (l, o) ∈ Led c) (F : Fr h₀ env.locals s.heap m₀) (N : News h₀ env.locals s.heap (Led c₀)) (hf : Facts c₀) (hk : ∀ p ∈ ps c₀, m₀ p.1 = some p.2) (hp : P [] c₀)
    (turn : ∀ (c : σ) (pre : List Int) (k : Int) v (u : Str → Option Value) h tk own, k = (pre.length : Int) → vs[pre.length]? = some v → OwnOff own ((Led c₀).map (·.1)) → Facts c → P pre c →
      Fr h₀ env.locals h (fun y => if y = x then some v else kstB (fun z => if stored.contains z then u z else m₀ z) (ps c) y) → News h₀ env.locals h (Led c ++ own) →
      wpAny (model prog w) A (execs body env) (InvPostN h₀ env.locals (KstS Led ps Facts x stored m₀ P (pre ++ [k])) own ((Led c₀).map (·.1)) { s with heap := h, toks := tk } Q) E { s with heap := h, toks := tk })
    (done : ∀ (c : σ) (pre : List Int) (u : Str → Option Value) h tk, pre.length = vs.length → Facts c → P pre c → Fr h₀ env.locals h (fun y => if y = x then u y else kstB (fun z => if stored.contains z then u z else m₀ z) (ps c) y) → News h₀ env.locals h (Led c) → Q .next { s with heap := h, toks := tk }) :
    wpAny (model prog w) A (pyIter (.ref l)) (fun it s₂ => LoopAtV prog w A h₀ env x body Q E it s₂) E s := by
  have hol : s.heap.get? l = some o := (N _ (hl c₀)).1
  have hne : l ≠ s.heap.objs.size := Nat.ne_of_lt (Heap.lt_size hol)
  -- the same for both kinds
  have main : ∀ (it : Obj), it.isFreed = false → ∀ {P' : Nat → Value → Prop} {St : Nat → Heap → Prop}, Walks prog w A s.heap.objs.size [s.heap.objs.size, l] [s.heap.objs.size] vs.length P' St →
      (∀ i v, P' i v → vs[i]? = some v) → St 0 (s.heap.push it) →
      LoopAtV prog w A h₀ env x body Q E (.ref s.heap.objs.size) { s with heap := s.heap.push it } := by
    intro it _ P' St W hP' hst
    refine ⟨_, _, _, vs.length, _, _, m₀, Led c₀, (fun i m nx => nx.map (·.1) = (Led c₀).map (·.1) ∧ (l, o) ∈ nx ∧ KstS Led ps Facts x stored m₀ P ((List.range i).map Int.ofNat) m nx), rfl, W, ?_, ?_, ?_, hst, F.push _, (fun p hp => ⟨Heap.get?_push_of_some _ (N p hp).1, (N p hp).2⟩), ⟨rfl, hl c₀, c₀, rfl, hf, hk, fun _ _ _ _ => rfl, by simpa using hp⟩, ?_, ?_⟩
    · intro hm
      rcases List.mem_cons.mp hm with e | hm
      · exact absurd F.ns.lt (e ▸ Nat.lt_irrefl _)
      · exact (N _ (hl c₀)).2.1 ((List.mem_singleton.mp hm).symm)
    · intro b hb
      rw [List.mem_singleton.mp hb]
      exact next_is_new F
    · intro p hp hI
      exact absurd (Heap.lt_size (N p hp).1) ((List.mem_singleton.mp hI) ▸ Nat.lt_irrefl _)
    · rintro i v m₁ news₁ s₁ own ⟨hh', tk', rfl⟩ hin hP ⟨hadr, hl₁, c, rfl, hf', h1, h2, hp'⟩ hoff hown hget hfp _ F₁ N₁
      have hsep : OwnOff (own.filter fun p => decide (p.1 = s.heap.objs.size)) ((Led c₀).map (·.1)) := by
        intro p hp b hb e
        obtain ⟨q, hq, rfl⟩ := List.mem_map.mp hb
        have h1 : p.1 = s.heap.objs.size := by simpa using (List.mem_filter.mp hp).2
        exact absurd (Heap.lt_size (N q hq).1) (by rw [← e, h1]; exact Nat.lt_irrefl _)
      have hlen : ((List.range i).map Int.ofNat).length = i := by simp
      have N₂ : News h₀ env.locals hh' (Led c ++ own.filter fun p => decide (p.1 = s.heap.objs.size)) := fun p hp => N₁ p ((List.mem_append.mp hp).elim (fun h => List.mem_append.mpr (.inr h)) fun h => List.mem_append.mpr (.inl ((List.mem_filter.mp h).1)))
      have hlo : hh'.get? l = some o := (N₁ _ (List.mem_append.mpr (.inr hl₁))).1
      have hs : (List.range (i + 1)).map Int.ofNat = (List.range i).map Int.ofNat ++ [(i : Int)] := by simp [List.range_succ]
      refine wpAny_mono (turn c _ (i : Int) v m₁ hh' tk' _ (by rw [hlen]) (by rw [hlen]; exact hP' i v hP) hsep hf' hp' (kst_fr h1 h2 F₁) N₂) (fun f s₂ p => ?_) fun _ _ e => e
      have fin : InvEndN h₀ env.locals (KstS Led ps Facts x stored m₀ P ((List.range i).map Int.ofNat ++ [(i : Int)])) (own.filter fun p => decide (p.1 = s.heap.objs.size)) ((Led c₀).map (·.1)) { s with heap := hh', toks := tk' } s₂ →
          LoopStepU h₀ env.locals [s.heap.objs.size] own (fun m nx => nx.map (·.1) = (Led c₀).map (·.1) ∧ (l, o) ∈ nx ∧ KstS Led ps Facts x stored m₀ P ((List.range (i + 1)).map Int.ofNat) m nx) { s with heap := hh', toks := tk' } .next s₂ := by
        rintro ⟨h', tk, m', news', nx, e, F', N', hn, ho, ha, hS⟩
        have hlx : (l, o) ∈ nx := by
          obtain ⟨c', rfl, _⟩ := hS
          exact hl c'
        refine ⟨rfl, h', tk, m', nx, e, F', fun p hp => ?_, fun p hp => ?_, ha, hlx, by rw [hs]; exact hS⟩
        · rcases List.mem_append.mp hp with h | h
          · by_cases hI : p.1 = s.heap.objs.size
            · exact N' p (ho p (List.mem_filter.mpr ⟨h, by simpa using hI⟩))
            · have h1 : p.1 = l := by
                rcases List.mem_cons.mp (hown p h) with q | q
                · exact absurd q hI
                · exact List.mem_singleton.mp q
              have h2 := hget p h
              rw [h1, hlo] at h2
              have h3 : p = (l, o) := Prod.ext h1 (Option.some.inj h2).symm
              rw [h3]
              exact N' _ (hn _ hlx)
          · exact N' p (hn p h)
        · intro hI
          have h1 : p.1 ∈ nx.map (·.1) := List.mem_map.mpr ⟨p, hp, rfl⟩
          rw [ha] at h1
          obtain ⟨q, hq, e⟩ := List.mem_map.mp h1
          have := Heap.lt_size (N q hq).1
          rw [e, List.mem_singleton.mp hI] at this
          exact Nat.lt_irrefl _ this
      cases f with
      | ret v => exact .ret p
      | brk => exact .brk p
      | next => exact .next (fin p)
      | cont => exact .cont (fin p)
    · rintro h' tk m' news' F' N' _ ⟨_, _, c, rfl, hf', h1, h2, hp'⟩
      exact done c _ m' h' tk (by simp) hf' hp' (kst_frOut h1 h2 F') N'
  obtain ⟨nn, hd⟩ := hdat
  rcases hcls with hc | hc
  · have hls : s.heap.IsList l vs.toArray := ⟨_, hol, hc, nn, hd⟩
    refine wpAny_pyIter_list hls ?_
    have W := Walks.list (prog := prog) (w := w) hh s.heap.objs.size l hne vs.toArray
    rw [List.size_toArray] at W
    exact main _ rfl W (fun i v h => by simpa using h) ⟨⟨_, Heap.get?_push_size _ rfl, rfl, rfl⟩, hls.at fun o e => Heap.get?_push_of_some _ e⟩
  · have hls : s.heap.IsTuple l vs.toArray := ⟨_, hol, hc, nn, hd⟩
    refine wpAny_pyIter_tuple hls ?_
    have W := Walks.tuple (prog := prog) (w := w) hh s.heap.objs.size l hne vs.toArray
    rw [List.size_toArray] at W
    exact main _ rfl W (fun i v h => by simpa using h) ⟨⟨_, Heap.get?_push_size _ rfl, rfl, rfl⟩, hls.at fun o e => Heap.get?_push_of_some _ e⟩
end
end Mine
namespace Mine
open PySem PySem.W PyProof.Rows PySem.Calls PySem.Spec
section
variable {prog : Program} {w : World} {A : Around} {E : Value → Shared → Prop} {s : Shared} {env : Env} {h₀ : Heap} {target : Expr} {body : List Stmt} {Q : Flow → Shared → Prop}
/-- a turn's end: the state's letters anew, whatever addresses they have; the iterator stands -/
def EndC {σ : Type} (h₀ : Heap) (L I : Addr) (it : Obj) (Led : σ → List (Addr × Obj)) (ps : σ → List (Str × Value)) (stored : List Str) (m₀ : Str → Option Value) (P : σ → Nat → Prop) (s₁ s₂ : Shared) : Prop :=
  ∃ (c : σ) (h' : Heap) (tk : Nat) (m' : Str → Option Value) (news' : List (Addr × Obj)), s₂ = { s₁ with heap := h', toks := tk } ∧ Fr h₀ L h' m' ∧ News h₀ L h' news' ∧ (I, it) ∈ news' ∧ (∀ p ∈ Led c, p ∈ news') ∧ (∀ p ∈ Led c, p.1 ≠ I) ∧
    (∀ p ∈ ps c, m' p.1 = some p.2) ∧ (∀ z, (∀ p ∈ ps c, z ≠ p.1) → stored.contains z = false → m' z = m₀ z) ∧ P c tk
def PostC {σ : Type} (h₀ : Heap) (L I : Addr) (it : Obj) (Led : σ → List (Addr × Obj)) (ps : σ → List (Str × Value)) (stored : List Str) (m₀ : Str → Option Value) (P : σ → Nat → Prop) (s₁ : Shared) (Q : Flow → Shared → Prop) (f : Flow) (s₂ : Shared) : Prop :=
  match f with
  | .ret v => Q (.ret v) s₂
  | .brk => Q .next s₂
  | _ => EndC h₀ L I it Led ps stored m₀ P s₁ s₂
theorem endC {σ : Type} {L I : Addr} {it : Obj} {Led : σ → List (Addr × Obj)} {ps : σ → List (Str × Value)} {stored : List Str} {m₀ m' : Str → Option Value} {P : σ → Nat → Prop} {s₁ : Shared} {h' : Heap} {tk : Nat} {news' : List (Addr × Obj)} (c : σ)
    (F : Fr h₀ L h' m') (N : News h₀ L h' news') (hI : (I, it) ∈ news') (hn : ∀ p ∈ Led c, p ∈ news') (ho : ∀ p ∈ Led c, p.1 ≠ I) (hk : ∀ p ∈ ps c, m' p.1 = some p.2) (hr : ∀ z, (∀ p ∈ ps c, z ≠ p.1) → stored.contains z = false → m' z = m₀ z) (hp : P c tk) :
    PostC h₀ L I it Led ps stored m₀ P s₁ Q .next { s₁ with heap := h', toks := tk } := ⟨c, h', tk, m', news', rfl, F, N, hI, hn, ho, hk, hr, hp⟩

theorem my_loopC {σ : Type} {I : Addr} {fp : List Addr} {n : Nat} {Pv : Nat → Value → Prop} {St : Nat → Heap → Prop} {m₀ : Str → Option Value} (W : Walks prog w A I fp [I] n Pv St)
    (Led : σ → List (Addr × Obj)) (ps : σ → List (Str × Value)) (stored : List Str) (P : Nat → σ → Nat → Prop) (c₀ : σ) (mono : ∀ i c t t', t ≤ t' → P i c t → P i c t')
    (hLf : env.locals ∉ fp) (hI : h₀.get? I = none) (hlive : ∀ i h, St i h → ∃ o, h.get? I = some o) (hoth : ∀ b ∈ fp, b ≠ I → ∃ o, ∀ c, (b, o) ∈ Led c) (hnI : ∀ p ∈ Led c₀, p.1 ≠ I)
    (hst : St 0 s.heap) (F : Fr h₀ env.locals s.heap m₀) (N : News h₀ env.locals s.heap (Led c₀)) (hk : ∀ p ∈ ps c₀, m₀ p.1 = some p.2) (hp : P 0 c₀ s.toks)
    (turn : ∀ i (c : σ) v it (u : Str → Option Value) h tk, i < n → Pv i v → P i c tk → (∀ p ∈ Led c, p.1 ≠ I) → Fr h₀ env.locals h (kstB (fun z => if stored.contains z then u z else m₀ z) (ps c)) → News h₀ env.locals h ((I, it) :: Led c) →
      wpAny (model prog w) A (assign target env v) (fun _ s₂ => wpAny (model prog w) A (execs body env) (PostC h₀ env.locals I it Led ps stored m₀ (P (i + 1)) { s with heap := h, toks := tk } Q) E s₂) E { s with heap := h, toks := tk })
    (done : ∀ (c : σ) (u : Str → Option Value) h tk, P n c tk → Fr h₀ env.locals h (kstB (fun z => if stored.contains z then u z else m₀ z) (ps c)) → News h₀ env.locals h (Led c) → Q .next { s with heap := h, toks := tk })
    (hE : PassesOwn (model prog w) A env E) (ht : ∀ v, letOwnedTupleGo target (.ref I) v = pure () := by intro _; rfl) :
    codeAny (model prog w) A (.forLoop target (.ref I) body [] env) (fun r s' => match r with | .ok f => Q f s' | .error e => cameBackBy (model prog w) A env E e s') s := by
  have hLI : env.locals ≠ I := fun e => hLf (e ▸ W.sub _ (.head _))
  have old : ∀ b o, h₀.get? b = some o → b ∉ [I] := fun b o e hb => by rw [List.mem_singleton.mp hb, hI] at e; cases e
  refine codeAny_forLoop (fun k s' => ∃ (i : Nat) (c : σ) (h' : Heap) (tk : Nat) (m' : Str → Option Value), s' = { s with heap := h', toks := tk } ∧ St i h' ∧ Fr h₀ env.locals h' m' ∧ News h₀ env.locals h' (Led c) ∧ (∀ p ∈ Led c, p.1 ≠ I) ∧
      (∀ p ∈ ps c, m' p.1 = some p.2) ∧ (∀ z, (∀ p ∈ ps c, z ≠ p.1) → stored.contains z = false → m' z = m₀ z) ∧ P i c tk ∧ i ≤ n ∧ k = n + 1 - i) ?_ (n + 1)
    ⟨0, c₀, s.heap, s.toks, m₀, rfl, hst, F, N, hnI, hk, fun _ _ _ => rfl, hp, Nat.zero_le _, rfl⟩ ht
  rintro k s' ⟨i, c, h', tk, m', rfl, hst', F', N', hnI', h1, h2, hP, hi, rfl⟩
  have next : ∀ h₁ : Heap, (∀ b o, b ∉ [I] → h'.get? b = some o → h₁.get? b = some o) → Fr h₀ env.locals h₁ m' ∧ News h₀ env.locals h₁ (Led c) := fun h₁ hk₁ =>
    ⟨⟨F'.ns.at' fun o e => hk₁ _ o (fun q => hLI (List.mem_singleton.mp q)) e, fun b o e => hk₁ b o (old b o e) (F'.keep b o e), F'.above⟩, fun p hp => ⟨hk₁ _ _ (fun q => hnI' p hp (List.mem_singleton.mp q)) (N' p hp).1, (N' p hp).2⟩⟩
  by_cases hlt : i < n
  · refine wpAny_with_toks (n := tk) (Nat.le_refl _) ?_
    refine W.item i _ _ _ hlt hst' fun v h₁ tk₁ hPv hst₁ hk₁ hle => ?_
    obtain ⟨F₁, N₁⟩ := next h₁ hk₁
    obtain ⟨it, hit⟩ := hlive _ _ hst₁
    have NI : News h₀ env.locals h₁ ((I, it) :: Led c) := fun p hp => by
      rcases List.mem_cons.mp hp with rfl | hp
      · exact ⟨hit, fun e => hLI e.symm, hI⟩
      · exact N₁ p hp
    refine wpAny_mono (turn i c v it m' h₁ tk₁ hlt hPv (mono _ _ _ _ hle hP) hnI' (ksw_fr h1 h2 F₁) NI) (fun _ s₂ h₂ => ?_) fun e s₂ he => hE e s₂ he
    refine wpAny_mono h₂ (fun f s₃ h₃ => ?_) fun e s₂ he => hE e s₂ he
    have fin : EndC h₀ env.locals I it Led ps stored m₀ (P (i + 1)) { s with heap := h₁, toks := tk₁ } s₃ → ∃ m, m < n + 1 - i ∧ ∃ (i : Nat) (c : σ) (h' : Heap) (tk : Nat) (m' : Str → Option Value), s₃ = { s with heap := h', toks := tk } ∧ St i h' ∧ Fr h₀ env.locals h' m' ∧ News h₀ env.locals h' (Led c) ∧ (∀ p ∈ Led c, p.1 ≠ I) ∧
      (∀ p ∈ ps c, m' p.1 = some p.2) ∧ (∀ z, (∀ p ∈ ps c, z ≠ p.1) → stored.contains z = false → m' z = m₀ z) ∧ P i c tk ∧ i ≤ n ∧ m = n + 1 - i := by
      rintro ⟨c', h₄, tk₄, m₄, news₄, rfl, F₄, N₄, hI₄, hn₄, ho₄, hk₄, hr₄, hp₄⟩
      refine ⟨n + 1 - (i + 1), by omega, i + 1, c', h₄, tk₄, m₄, rfl, ?_, F₄, fun p hp => N₄ p (hn₄ p hp), ho₄, hk₄, hr₄, hp₄, hlt, rfl⟩
      refine W.frame _ _ _ hst₁ fun b hb o e => ?_
      by_cases hbI : b = I
      · subst hbI
        rw [hit] at e
        cases e
        exact (N₄ _ hI₄).1
      · obtain ⟨o', ho'⟩ := hoth b hb hbI
        have e1 := (N₁ _ (ho' c)).1
        rw [e] at e1
        cases e1
        exact (N₄ _ (hn₄ _ (ho' c'))).1
    cases f with
    | ret v => exact h₃
    | brk => exact h₃
    | next => exact fin h₃
    | cont => exact fin h₃
  · have hin : i = n := by omega
    subst hin
    refine wpAny_with_toks (n := tk) (Nat.le_refl _) ?_
    refine W.done _ _ _ hst' fun h₁ tk₁ hk₁ hle => wpAny_execs_nil ?_
    obtain ⟨F₁, N₁⟩ := next h₁ hk₁
    exact done c m' h₁ tk₁ (mono _ _ _ _ hle hP) (ksw_fr h1 h2 F₁) N₁

/-- over a range by ones -/
theorem my_rangeC {σ : Type} {r : Addr} {a₀ b₀ : Int} {t₀ u₀ v₀ : Tok} {n : Nat} {m₀ : Str → Option Value} (Led : σ → List (Addr × Obj)) (ps : σ → List (Str × Value)) (stored : List Str) (P : Nat → σ → Nat → Prop) (c₀ : σ) (mono : ∀ i c t t', t ≤ t' → P i c t → P i c t')
    (hh : A.handled = none) (hr : IsRange s.heap r a₀ b₀ 1 t₀ u₀ v₀) (hsmall : Builtin.Range.small a₀ b₀ 1 = true) (hn : Builtin.Range.rangeSize a₀ b₀ 1 = (n : Int)) (F : Fr h₀ env.locals s.heap m₀) (N : News h₀ env.locals s.heap (Led c₀)) (hk : ∀ p ∈ ps c₀, m₀ p.1 = some p.2) (hp : P 0 c₀ s.toks)
    (turn : ∀ I i (c : σ) k t it (u : Str → Option Value) h tk, (∀ p ∈ Led c₀, p.1 < I) → i < n → k = a₀ + (i : Int) → P i c tk → (∀ p ∈ Led c, p.1 ≠ I) → Fr h₀ env.locals h (kstB (fun z => if stored.contains z then u z else m₀ z) (ps c)) → News h₀ env.locals h ((I, it) :: Led c) →
      wpAny (model prog w) A (assign target env (.int k t)) (fun _ s₂ => wpAny (model prog w) A (execs body env) (PostC h₀ env.locals I it Led ps stored m₀ (P (i + 1)) { s with heap := h, toks := tk } Q) E s₂) E { s with heap := h, toks := tk })
    (done : ∀ (c : σ) (u : Str → Option Value) h tk, P n c tk → Fr h₀ env.locals h (kstB (fun z => if stored.contains z then u z else m₀ z) (ps c)) → News h₀ env.locals h (Led c) → Q .next { s with heap := h, toks := tk })
    (hE : PassesOwn (model prog w) A env E := by passes_own) (ht : ∀ I v, letOwnedTupleGo target (.ref I) v = pure () := by intro _ _; rfl) :
    wpAny (model prog w) A (pyIter (.ref r)) (fun it s₂ => codeAny (model prog w) A (.forLoop target it body [] env) (fun r s' => match r with | .ok f => Q f s' | .error e => cameBackBy (model prog w) A env E e s') s₂) E s := by
  refine wpAny_pyIter_range hr hsmall ?_
  have W : Walks prog w A s.heap.objs.size [s.heap.objs.size] [s.heap.objs.size] n (fun i v => i < n ∧ ∃ t, v = .int (a₀ + i * 1) t)
      (fun i h => IsRangeIter h s.heap.objs.size (a₀ + (i : Nat) * 1) ((n : Int) - (i : Nat)) 1) := (Walks.range hh _ a₀ 1 n).bound
  refine my_loopC W Led ps stored P c₀ mono ?_ (next_is_new F) (fun i h hs => ⟨_, hs⟩) (fun b hb hne => absurd (List.mem_singleton.mp hb) hne) (fun p hp e => absurd (Heap.lt_size (N p hp).1) (e ▸ Nat.lt_irrefl _))
    (by show IsRangeIter _ _ _ _ _; rw [hn]; simpa using Heap.get?_push_size _ rfl) (F.push _) (fun p hp => ⟨Heap.get?_push_of_some _ (N p hp).1, (N p hp).2⟩) hk hp ?_ (fun c u h tk => done c u h tk) hE (ht _)
  · intro hm
    exact absurd F.ns.lt ((List.mem_singleton.mp hm) ▸ Nat.lt_irrefl _)
  · rintro i c v it u h tk hi ⟨_, t, rfl⟩ hP hI F₁ N₁
    exact turn _ i c _ t it u h tk (fun p hp => Heap.lt_size (N p hp).1) hi (by omega) hP hI F₁ N₁

/-- over a list or a tuple of the ledger -/
theorem my_seqC {σ : Type} {l : Addr} {vs : List Value} {o : Obj} {m₀ : Str → Option Value} (Led : σ → List (Addr × Obj)) (ps : σ → List (Str × Value)) (stored : List Str) (P : Nat → σ → Nat → Prop) (c₀ : σ) (mono : ∀ i c t t', t ≤ t' → P i c t → P i c t')
    (hh : A.handled = none) (hcls : o.cls = .type "list" ∨ o.cls = .type "tuple") (hdat : ∃ n, o.data = .seq vs.toArray n) (hl : ∀ c : σ, (l, o) ∈ Led c) (F : Fr h₀ env.locals s.heap m₀) (N : News h₀ env.locals s.heap (Led c₀)) (hk : ∀ p ∈ ps c₀, m₀ p.1 = some p.2) (hp : P 0 c₀ s.toks)
    (turn : ∀ I i (c : σ) v it (u : Str → Option Value) h tk, (∀ p ∈ Led c₀, p.1 < I) → i < vs.length → vs[i]? = some v → P i c tk → (∀ p ∈ Led c, p.1 ≠ I) → Fr h₀ env.locals h (kstB (fun z => if stored.contains z then u z else m₀ z) (ps c)) → News h₀ env.locals h ((I, it) :: Led c) →
      wpAny (model prog w) A (assign target env v) (fun _ s₂ => wpAny (model prog w) A (execs body env) (PostC h₀ env.locals I it Led ps stored m₀ (P (i + 1)) { s with heap := h, toks := tk } Q) E s₂) E { s with heap := h, toks := tk })
    (done : ∀ (c : σ) (u : Str → Option Value) h tk, P vs.length c tk → Fr h₀ env.locals h (kstB (fun z => if stored.contains z then u z else m₀ z) (ps c)) → News h₀ env.locals h (Led c) → Q .next { s with heap := h, toks := tk })
    (hE : PassesOwn (model prog w) A env E := by passes_own) (ht : ∀ I v, letOwnedTupleGo target (.ref I) v = pure () := by intro _ _; rfl) :
    wpAny (model prog w) A (pyIter (.ref l)) (fun it s₂ => codeAny (model prog w) A (.forLoop target it body [] env) (fun r s' => match r with | .ok f => Q f s' | .error e => cameBackBy (model prog w) A env E e s') s₂) E s := by
  have hol : s.heap.get? l = some o := (N _ (hl c₀)).1
  have hne : l ≠ s.heap.objs.size := Nat.ne_of_lt (Heap.lt_size hol)
  have hlf : env.locals ∉ [s.heap.objs.size, l] := by
    intro hm
    rcases List.mem_cons.mp hm with e | hm
    · exact absurd F.ns.lt (e ▸ Nat.lt_irrefl _)
    · exact (N _ (hl c₀)).2.1 ((List.mem_singleton.mp hm).symm)
  have hoth : ∀ b ∈ [s.heap.objs.size, l], b ≠ s.heap.objs.size → ∃ o, ∀ c, (b, o) ∈ Led c := by
    intro b hb hne
    rcases List.mem_cons.mp hb with e | hb
    · exact absurd e hne
    · rw [List.mem_singleton.mp hb]; exact ⟨o, hl⟩
  have hnI : ∀ p ∈ Led c₀, p.1 ≠ s.heap.objs.size := fun p hp e => absurd (Heap.lt_size (N p hp).1) (e ▸ Nat.lt_irrefl _)
  obtain ⟨nn, hd⟩ := hdat
  rcases hcls with hc | hc
  · have hls : s.heap.IsList l vs.toArray := ⟨_, hol, hc, nn, hd⟩
    refine wpAny_pyIter_list hls ?_
    have W := Walks.list (prog := prog) (w := w) hh s.heap.objs.size l hne vs.toArray
    rw [List.size_toArray] at W
    exact my_loopC W Led ps stored P c₀ mono hlf (next_is_new F) (fun i h hs => ⟨_, hs.1.choose_spec.1⟩) hoth hnI ⟨⟨_, Heap.get?_push_size _ rfl, rfl, rfl⟩, hls.at fun o e => Heap.get?_push_of_some _ e⟩ (F.push _) (fun p hp => ⟨Heap.get?_push_of_some _ (N p hp).1, (N p hp).2⟩) hk hp
      (fun i c v it u h tk hi hv hP hI F₁ N₁ => turn _ i c v it u h tk (fun p hp => Heap.lt_size (N p hp).1) hi (by simpa using hv) hP hI F₁ N₁) (fun c u h tk => done c u h tk) hE (ht _)
  · have hls : s.heap.IsTuple l vs.toArray := ⟨_, hol, hc, nn, hd⟩
    refine wpAny_pyIter_tuple hls ?_
    have W := Walks.tuple (prog := prog) (w := w) hh s.heap.objs.size l hne vs.toArray
    rw [List.size_toArray] at W
    exact my_loopC W Led ps stored P c₀ mono hlf (next_is_new F) (fun i h hs => ⟨_, hs.1.choose_spec.1⟩) hoth hnI ⟨⟨_, Heap.get?_push_size _ rfl, rfl, rfl⟩, hls.at fun o e => Heap.get?_push_of_some _ e⟩ (F.push _) (fun p hp => ⟨Heap.get?_push_of_some _ (N p hp).1, (N p hp).2⟩) hk hp
      (fun i c v it u h tk hi hv hP hI F₁ N₁ => turn _ i c v it u h tk (fun p hp => Heap.lt_size (N p hp).1) hi (by simpa using hv) hP hI F₁ N₁) (fun c u h tk => done c u h tk) hE (ht _)
/-- over a text's signs -/
theorem my_strC {σ : Type} {xt : Str} {tx : Tok} {m₀ : Str → Option Value} (Led : σ → List (Addr × Obj)) (ps : σ → List (Str × Value)) (stored : List Str) (P : Nat → σ → Nat → Prop) (c₀ : σ) (mono : ∀ i c t t', t ≤ t' → P i c t → P i c t')
    (hh : A.handled = none) (F : Fr h₀ env.locals s.heap m₀) (N : News h₀ env.locals s.heap (Led c₀)) (hk : ∀ p ∈ ps c₀, m₀ p.1 = some p.2) (hp : P 0 c₀ s.toks)
    (turn : ∀ I i (c : σ) (k : Nat) t it (u : Str → Option Value) h tk, (∀ p ∈ Led c₀, p.1 < I) → i < xt.cps.size → xt.cps[i]? = some k → P i c tk → (∀ p ∈ Led c, p.1 ≠ I) → Fr h₀ env.locals h (kstB (fun z => if stored.contains z then u z else m₀ z) (ps c)) → News h₀ env.locals h ((I, it) :: Led c) →
      wpAny (model prog w) A (assign target env (.str ⟨#[k]⟩ t)) (fun _ s₂ => wpAny (model prog w) A (execs body env) (PostC h₀ env.locals I it Led ps stored m₀ (P (i + 1)) { s with heap := h, toks := tk } Q) E s₂) E { s with heap := h, toks := tk })
    (done : ∀ (c : σ) (u : Str → Option Value) h tk, P xt.cps.size c tk → Fr h₀ env.locals h (kstB (fun z => if stored.contains z then u z else m₀ z) (ps c)) → News h₀ env.locals h (Led c) → Q .next { s with heap := h, toks := tk })
    (hE : PassesOwn (model prog w) A env E := by passes_own) (ht : ∀ I v, letOwnedTupleGo target (.ref I) v = pure () := by intro _ _; rfl) :
    wpAny (model prog w) A (pyIter (.str xt tx)) (fun it s₂ => codeAny (model prog w) A (.forLoop target it body [] env) (fun r s' => match r with | .ok f => Q f s' | .error e => cameBackBy (model prog w) A env E e s') s₂) E s := by
  have hlf : env.locals ∉ [s.heap.objs.size] := by
    intro hm
    exact absurd F.ns.lt ((List.mem_singleton.mp hm) ▸ Nat.lt_irrefl _)
  have hnI : ∀ p ∈ Led c₀, p.1 ≠ s.heap.objs.size := fun p hp e => absurd (Heap.lt_size (N p hp).1) (e ▸ Nat.lt_irrefl _)
  cases ha : xt.cps.all (· < 128)
  · refine wpAny_pyIter_wide ha ?_
    exact my_loopC (Walks.strWide (prog := prog) (w := w) hh _ xt tx) Led ps stored P c₀ mono hlf (next_is_new F) (fun i h hs => ⟨_, hs.choose_spec.1⟩) (fun b hb hne => absurd (List.mem_singleton.mp hb) hne) hnI ⟨_, Heap.get?_push_size _ rfl, rfl, rfl⟩ (F.push _) (fun p hp => ⟨Heap.get?_push_of_some _ (N p hp).1, (N p hp).2⟩) hk hp
      (fun i c v it u h tk hi hv hP hI F₁ N₁ => by obtain ⟨k, t, hk, rfl⟩ := hv; exact turn _ i c k t it u h tk (fun p hp => Heap.lt_size (N p hp).1) hi hk hP hI F₁ N₁) (fun c u h tk => done c u h tk) hE (ht _)
  · refine wpAny_pyIter_ascii ha ?_
    exact my_loopC (Walks.strAscii (prog := prog) (w := w) hh _ xt tx) Led ps stored P c₀ mono hlf (next_is_new F) (fun i h hs => ⟨_, hs.choose_spec.1⟩) (fun b hb hne => absurd (List.mem_singleton.mp hb) hne) hnI ⟨_, Heap.get?_push_size _ rfl, rfl, rfl⟩ (F.push _) (fun p hp => ⟨Heap.get?_push_of_some _ (N p hp).1, (N p hp).2⟩) hk hp
      (fun i c v it u h tk hi hv hP hI F₁ N₁ => by obtain ⟨k, t, hk, rfl⟩ := hv; exact turn _ i c k t it u h tk (fun p hp => Heap.lt_size (N p hp).1) hi hk hP hI F₁ N₁) (fun c u h tk => done c u h tk) hE (ht _)
end
end Mine
namespace Mine
open PySem PySem.W PyProof.Rows PySem.Calls PySem.Spec
theorem ints_get {vs : List Value} {ns : List Int} (h : IntsAre vs ns) {i : Nat} {v : Value} (hv : vs[i]? = some v) : ∃ t, v = .int (ns.getD i 0) t := by
  have hi : i < ns.length := by
    have := (List.getElem?_eq_some_iff.mp hv).1
    rw [h.length] at this
    exact this
  obtain ⟨t, ht⟩ := h.get i ns[i] (by simp [hi])
  rw [ht] at hv
  exact ⟨t, by rw [← Option.some.inj hv]; simp [List.getD_eq_getElem?_getD, hi]⟩
theorem ints_of {f : Nat → Int} : ∀ {n : Nat} {ys : List Value}, ys.length = n → (∀ i y, ys[i]? = some y → ∃ t, y = Value.int (f i) t) → IntsAre ys ((List.range n).map f) := by
  intro n
  induction n generalizing f with
  | zero =>
    intro ys hl _
    rw [List.length_eq_zero_iff.mp hl]
    exact .nil
  | succ n ih =>
    intro ys hl h
    match ys, hl with
    | y :: ys, hl =>
      obtain ⟨t, e⟩ := h 0 y rfl
      rw [List.range_succ_eq_map, List.map_cons, List.map_map, e]
      exact .cons _ _ (ih (f := fun i => f (i + 1)) (by simpa using hl) fun i z hz => h (i + 1) z (by simpa using hz))
theorem allLt_in {d : Nat} : ∀ {l : List (Addr × Obj)}, (∀ p ∈ l, p.1 < d) → AllLt d l
  | [], _ => trivial
  | _ :: _, h => ⟨h _ (.head _), allLt_in fun p hp => h p (.tail _ hp)⟩
theorem allLt_mono {d e : Nat} (h : d ≤ e) : ∀ {l : List (Addr × Obj)}, AllLt d l → AllLt e l
  | [], _ => trivial
  | _ :: _, q => ⟨Nat.lt_of_lt_of_le q.1 h, allLt_mono h q.2⟩
section
variable {prog : Program} {w : World} {A : Around} {E : Value → Shared → Prop} {s : Shared} {h₀ : Heap} {L : Addr} {m : Str → Option Value} {env : Env}
def PairEnd (h₀ : Heap) (L : Addr) (m : Str → Option Value) (led : List (Addr × Obj)) (R : Value → Prop) (s : Shared) (y : Value) (s₄ : Shared) : Prop := ∃ h' tk', s₄ = { s with heap := h', toks := tk' } ∧ R y ∧ Fr h₀ L h' m ∧ News h₀ L h' led
/-- where a list by pairs stands when its source is an iterator: what one element is, what is wanted behind -/
def PairsAt (prog : Program) (w : World) (A : Around) (h₀ : Heap) (L : Addr) (m : Str → Option Value) (env : Env) (elt : Expr) (x x₂ : Str) (scope : Scope) (cl : List (Str × Addr)) (Fin : Shared → List Value → List (Addr × Obj) → Prop) (it : Value) (s₂ : Shared) : Prop :=
  ∃ (I : Addr) (fp wr : List Addr) (n : Nat) (Pt : Nat → Array Value → Prop) (St : Nat → Heap → Prop) (Mid : Nat → Addr → Heap → Prop) (news : List (Addr × Obj)) (R : Nat → Value → Prop),
    it = .ref I ∧ WalksU prog w A I fp wr n Pt St Mid ∧ n ≤ sizeLine ∧ A.handled = none ∧ (∀ i vals, Pt i vals → ∃ a b, vals = #[a, b]) ∧ L ∉ fp ∧ (∀ b ∈ wr, h₀.get? b = none) ∧ (∀ b ∈ fp, b < s₂.heap.objs.size) ∧ (∀ p ∈ news, p.1 ∉ wr) ∧
    St 0 s₂.heap ∧ Fr h₀ L s₂.heap m ∧ News h₀ L s₂.heap news ∧
    (∀ i a b C oC m' own h tk (E' : Value → Shared → Prop), i < n → Pt i #[a, b] → LCg.NsObj oC m' → m' x = some a → m' x₂ = some b → Fr h₀ L h m → News h₀ L h ((C, oC) :: (news ++ own)) →
      wpAny (model prog w) A (eval elt (compEnvC scope cl C env)) (PairEnd h₀ L m ((C, oC) :: (news ++ own)) (R i) s₂) E' { s₂ with heap := h, toks := tk }) ∧
    (∀ ys, ys.length = n → (∀ i y, ys[i]? = some y → R i y) → Fin s₂ ys news)
theorem pairs_block {elt iter : Expr} {x x₂ : Str} {px px₂ tp : Pos} {tk₀} {scope : Scope} {cl : List (Str × Addr)} {pos : Pos} {s₂ : Shared} {it : Value} {Fin : Shared → List Value → List (Addr × Obj) → Prop} {RR : Value → Addr → Result → Shared → Prop}
    (hcell : ∀ y ∈ scope.names, y.2 ≠ .cell) (hkind : scope.kind = .function) (hx : scope.names.lookup x = some .local) (hx₂ : scope.names.lookup x₂ = some .local) (hxx : x ≠ x₂)
    (H : PairsAt prog w A h₀ L m env elt x x₂ scope cl Fin it s₂)
    (hRR : ∀ D C h tk m' ys news, Fr h₀ L h m → News h₀ L h ((D, LCg.lst ys) :: news) → (∀ p ∈ news, p.1 < D) → h.Ns C m' → h₀.get? C = none → h₀.get? D = none → C ≠ L → D ≠ L → C ≠ D → (∀ p ∈ news, p.1 ≠ C) → Fin s₂ ys news → RR (.ref D) C (.ok .next) { s₂ with heap := h, toks := tk }) :
    wpAny (model prog w) A (newList []) (fun acc s₃ => wpAny (model prog w) A (newFunctionEnv scope env.globals cl [] env.qual none .none (some env)) (fun cenv s₄ =>
      codeAny (model prog w) A (.compStart (.ListComp elt [⟨.Tuple [.Name x px, .Name x₂ px₂] tk₀ tp, iter, [], 0⟩] scope pos) 0 it acc { cenv with scope := relabel scope env }) (RR acc cenv.locals) s₄) E s₃) E s₂ := by
  obtain ⟨I, fp, wr, n, Pt, St, Mid, news, R, rfl, W, hsz, hh, hPt, hLf, hwr, hfp, hnw, hst, F, N, turn, fin⟩ := H
  refine wpAny_newObj_type (wpAny_newFunctionEnv hcell (by intro y hy; simp at hy) (fun h₁ hns₁ hsb₁ => ?_) hkind)
  dsimp only at hns₁ hsb₁ ⊢
  generalize hD : s₂.heap.objs.size = D at *
  generalize hH2 : s₂.heap.push { cls := .type "list", dict := none, data := .seq ([] : List Value).toArray } = H2 at hns₁ hsb₁ ⊢
  generalize hC : H2.objs.size = C at *
  have eC : C = D + 1 := by rw [← hC, ← hH2, Heap.size_push, hD]
  have ltD : ∀ b, b < D → b ≠ C ∧ b ≠ D := fun b hb => ⟨by rw [eC]; exact Nat.ne_of_lt (Nat.lt_succ_of_lt hb), Nat.ne_of_lt hb⟩
  have hDC : D ≠ C := by rw [eC]; exact Nat.ne_of_lt (Nat.lt_succ_self _)
  have old : ∀ b o, s₂.heap.get? b = some o → h₁.get? b = some o := fun b o e => hsb₁.extBut b o (ltD b (hD ▸ Heap.lt_size e)).1 (Heap.get?_push_of_some _ (hH2 ▸ Heap.get?_push_of_some _ e))
  have hacc : h₁.get? D = some (LCg.lst []) := hsb₁.extBut _ _ hDC (Heap.get?_push_of_some _ (hH2 ▸ hD ▸ Heap.get?_push_size _ rfl))
  have fresh₀ : ∀ a, D ≤ a → h₀.get? a = none := fun a ha => by
    cases e : h₀.get? a with
    | none => rfl
    | some o' => exact absurd (Heap.lt_size (F.keep a o' e)) (by rw [hD]; exact Nat.not_lt.mpr ha)
  have hD₀ : h₀.get? D = none := fresh₀ _ (Nat.le_refl _)
  have hC₀ : h₀.get? C = none := fresh₀ _ (by rw [eC]; exact Nat.le_succ _)
  have hLlt : L < D := hD ▸ F.ns.lt
  have hDL : D ≠ L := Ne.symm (ltD L hLlt).2
  have hCL : C ≠ L := Ne.symm (ltD L hLlt).1
  have hDf : D ∉ fp := fun q => absurd (hfp _ q) (Nat.lt_irrefl _)
  have hCf : C ∉ fp := fun q => by have := hfp _ q; rw [eC] at this; exact Nat.lt_irrefl _ (Nat.lt_of_succ_lt this)
  have hnlt : ∀ p ∈ news, p.1 < D := fun p hp => hD ▸ Heap.lt_size (N p hp).1
  have hLw : L ∉ wr := fun q => hLf (W.sub _ q)
  have fr_wr : ∀ {h h' : Heap}, Fr h₀ L h m → (∀ b o, b ∉ wr → h.get? b = some o → h'.get? b = some o) → Fr h₀ L h' m := fun F hk =>
    ⟨F.ns.at' fun o e => hk L o hLw e, fun b o e => hk b o (fun q => by rw [hwr b q] at e; cases e) (F.keep b o e), F.above⟩
  have news_wr : ∀ {h h' : Heap} {ys : List Value}, News h₀ L h ((D, LCg.lst ys) :: news) → (∀ b o, b ∉ wr → h.get? b = some o → h'.get? b = some o) → News h₀ L h' ((D, LCg.lst ys) :: news) := fun N hk p hp => by
    refine ⟨hk _ _ ?_ (N p hp).1, (N p hp).2⟩
    rcases List.mem_cons.mp hp with rfl | hp
    · exact fun q => hDf (W.sub _ q)
    · exact hnw p hp
  have loop : ∀ s₃ : Shared, s₃ = { s₂ with heap := h₁, toks := s₂.toks + ([] : List (Str × Value)).length } →
      codeAny (model prog w) A (.compLoop (.ListComp elt [⟨.Tuple [.Name x px, .Name x₂ px₂] tk₀ tp, iter, [], 0⟩] scope pos) 0 (.ref I) (.ref D) (compEnvC scope cl C env)) (RR (.ref D) C) s₃ := by
    rintro s₃ rfl
    refine PySem.W.kcp_loop
      (fun k s' => ∃ h' tk i ys m', s' = { s₂ with heap := h', toks := tk } ∧ i ≤ n ∧ k = n + 1 - i ∧ ys.length = i ∧ (∀ j y, ys[j]? = some y → R j y) ∧ St i h' ∧ Fr h₀ L h' m ∧ h'.Ns C m' ∧ News h₀ L h' ((D, LCg.lst ys) :: news)) ?_ (n + 1)
      ⟨h₁, _, 0, [], _, rfl, Nat.zero_le _, rfl, rfl, (fun j y e => by simp at e), W.frame _ _ _ hst fun b _ o e => old b o e, F.keeps old, hns₁, fun p hp => ?_⟩
    · rintro k s' ⟨h', tk, i, ys, m', rfl, hi, rfl, hyl, hR, hst', F', hn', N'⟩
      by_cases hlt : i < n
      · refine W.item i _ _ _ hlt hst' fun T vals h₂ tk₂ hPv hT hmid hk₂ => ?_
        obtain ⟨a, b, rfl⟩ := hPt i vals hPv
        have hTw : T ∉ wr := W.apart _ _ _ hmid
        refine W.go _ _ _ i T _ _ _ hmid fun h₃ hst₃ hk₃ => ?_
        have hT₃ : h₃.IsTuple T #[a, b] := hT.at fun o e => hk₃ T o hTw e
        have F₃ := fr_wr (fr_wr F' hk₂) hk₃
        have N₃ := news_wr (news_wr N' hk₂) hk₃
        have hCw : C ∉ wr := fun q => hCf (W.sub _ q)
        have hn₃ : h₃.Ns C m' := (hn'.at' fun o e => hk₂ _ o hCw e).at' fun o e => hk₃ _ o hCw e
        refine PySem.W.kcp_assign hh hT₃ (lookup_relabel_local hx) (lookup_relabel_local hx₂) (by simp [compEnvC, relabel, hkind]) hn₃ fun h₄ tk₄ hn₄ hs₄ => ?_
        have hst₄ : St (i + 1) h₄ := W.frame _ _ _ hst₃ fun b hb o e => hs₄ b o (fun q => hCf (by have q' : b = C := q; rw [← q']; exact hb)) e
        obtain ⟨oC, heC, hoC⟩ := LCg.ns_obj hn₄
        have F₄ : Fr h₀ L h₄ m := ⟨F₃.ns.at' fun o e => hs₄ L o (Ne.symm hCL) e, fun b o e => hs₄ b o (fun q => by have q' : b = C := q; rw [q', hC₀] at e; cases e) (F₃.keep b o e), F₃.above⟩
        have N₄ : News h₀ L h₄ ((C, oC) :: (news ++ ((D, LCg.lst ys) :: ownOf h₀ fp h₄))) := fun p hp => by
          rcases List.mem_cons.mp hp with rfl | hp
          · exact ⟨heC, hCL, hC₀⟩
          · rcases List.mem_append.mp hp with hp | hp
            · exact ⟨hs₄ _ _ (ltD _ (hnlt p hp)).1 (N₃ p (.tail _ hp)).1, (N₃ p (.tail _ hp)).2⟩
            · rcases List.mem_cons.mp hp with rfl | hp
              · exact ⟨hs₄ _ _ hDC (N₃ _ (.head _)).1, hDL, hD₀⟩
              · exact news_ownOf hLf p hp
        refine wpAny_mono (turn i a b C oC _ _ h₄ tk₄ _ hlt hPv hoC (by simp [hxx]) (by simp) F₄ N₄) (fun y s₄ h₅ => ?_) fun _ _ e => e
        obtain ⟨h₅, tk₅, rfl, hy, F₅, N₅⟩ := h₅
        have zC := (N₅ (C, oC) (.head _)).1
        have zD : h₅.get? D = some (LCg.lst ys) := (N₅ (D, LCg.lst ys) (.tail _ (List.mem_append.mpr (.inr (.head _))))).1
        refine append_at (hsz := by show ys.toArray.size ≤ sizeLine; rw [List.size_toArray, hyl]; exact Nat.le_trans hi hsz) zD fun h₆ hs₆ hD₆ => ?_
        have hst₅ : St (i + 1) h₅ := W.frame _ _ _ hst₄ fun b hb o e => by
          cases hn : h₀.get? b with
          | some o₀ =>
            have : o₀ = o := by have q := F₄.keep b o₀ hn; rw [e] at q; exact (Option.some.inj q).symm
            exact this ▸ F₅.keep b o₀ hn
          | none => exact (N₅ (b, o) (.tail _ (List.mem_append.mpr (.inr (.tail _ (mem_ownOf hb hn e)))))).1
        refine ⟨n + 1 - (i + 1), by omega, h₆, tk₅, i + 1, ys ++ [y], _, rfl, hlt, rfl, by rw [List.length_append, List.length_singleton, hyl], ?_, W.frame _ _ _ hst₅ fun b hb o e => hs₆.extBut b o (fun q => hDf (by have q' : b = D := q; rw [← q']; exact hb)) e, F₅.change hs₆ hDL hD₀, (hoC.ns zC).sameBut hs₆ (Ne.symm hDC), fun p hp => ?_⟩
        · intro j z hz
          by_cases hj : j < ys.length
          · rw [List.getElem?_append_left hj] at hz
            exact hR j z hz
          · rw [List.getElem?_append_right (by omega)] at hz
            have h0 : j - ys.length = 0 := by
              have := (List.getElem?_eq_some_iff.mp hz).1
              simp at this
              omega
            rw [h0] at hz
            have e1 : j = i := by omega
            have e2 : z = y := (Option.some.inj hz).symm
            rw [e1, e2]
            exact hy
        · rcases List.mem_cons.mp hp with rfl | hp
          · exact ⟨hD₆.trans (congrArg some (LCg.lst_snoc ys y)), hDL, hD₀⟩
          · have z := N₅ p (.tail _ (List.mem_append.mpr (.inl hp)))
            exact ⟨hs₆.extBut _ _ (Nat.ne_of_lt (hnlt p hp)) z.1, z.2⟩
      · obtain rfl : i = n := Nat.le_antisymm hi (Nat.not_lt.mp hlt)
        refine W.done _ _ _ hst' fun h₂ tk₂ hk₂ => ?_
        exact hRR _ _ h₂ tk₂ _ ys news (fr_wr F' hk₂) (news_wr N' hk₂) hnlt (hn'.at' fun o e => hk₂ _ o (fun q => hCf (W.sub _ q)) e) hC₀ hD₀ hCL hDL (Ne.symm hDC) (fun p hp => (ltD _ (hnlt p hp)).1) (fin ys hyl hR)
    · rcases List.mem_cons.mp hp with rfl | hp
      · exact ⟨hacc, hDL, hD₀⟩
      · exact ⟨old _ _ (N p hp).1, (N p hp).2⟩
  have hst₁ : St 0 h₁ := W.frame _ _ _ hst fun b _ o e => old b o e
  exact codeAny_compStart_list (loop _ rfl) (W.self 0 _ _ _ hst₁ (loop _ rfl))
/-- y = [elt for x, x₂ in ..] -/
theorem Assign_pairs {elt iter : Expr} {x x₂ y : Str} {px px₂ tp py : Pos} {tk₀} {scope : Scope} {cl : List (Str × Addr)} {pos spos : Pos} {Q : Flow → Shared → Prop} (F₀ : Fr h₀ L s.heap m) (hLe : env.locals = L)
    (hsw : swapsWith (.ListComp elt [⟨.Tuple [.Name x px, .Name x₂ px₂] tk₀ tp, iter, [], 0⟩] scope pos) (some (.Name y py)) spos.line env = pure true)
    (hclos : closureFor scope env = pure cl) (hcell : ∀ z ∈ scope.names, z.2 ≠ .cell) (hkind : scope.kind = .function)
    (hnames : ∀ z ∈ scope.names, z.2 = .local → scope.names.lookup z.1 = some .local) (hx : scope.names.lookup x = some .local) (hx₂ : scope.names.lookup x₂ = some .local) (hxx : x ≠ x₂)
    (hy : env.kindOf y = some .local) (hp : (env.scope.kind == .class || (env.scope.kind == .module && env.locals != env.globals)) = false)
    (h : wpAny (model prog w) A (eval iter env) (fun xv s₁ => wpAny (model prog w) A (pyIter xv) (fun it s₂ => PairsAt prog w A h₀ L m env elt x x₂ scope cl
      (fun s₂ ys news => ∀ D h tk, Fr h₀ L h (fun z => if z = y then some (.ref D) else m z) → News h₀ L h ((D, LCg.lst ys) :: news) → (∀ p ∈ news, p.1 < D) → Q .next { s₂ with heap := h, toks := tk }) it s₂) E s₁) E s)
    (hs : ∀ x, foldedSetIterable iter env x = pure x := by intro _; rfl) :
    wpAny (model prog w) A (exec (.Assign [.Name y py] (.ListComp elt [⟨.Tuple [.Name x px, .Name x₂ px₂] tk₀ tp, iter, [], 0⟩] scope pos) spos) env) Q E s := by
  subst hLe
  rw [exec_Assign_Name_used _ _ _ _ hsw]
  refine wpAny_bind (wpAny_standAt (wpAny_bind ?_))
  show wpAny _ A (do let _ ← comprehension (.ListComp elt [⟨.Tuple [.Name x px, .Name x₂ px₂] tk₀ tp, iter, [], 0⟩] scope pos) scope env _ (newList []) false (eval iter env) (some (assign (.Name y py) env))) _ _ s
  refine wpAny_bind (wpAny_mono (wpAny_comprehension_free (use := some (assign (.Name y py) env)) (Q := fun _ s' => Q .next s') rfl hs hclos hkind hnames
    (wpAny_mono h (fun xv s₁ h₁ => wpAny_mono h₁ (fun it s₂ H => ?_) fun _ _ e => e) fun _ _ e => e)) (fun _ s' hq => wpAny_pure (wpAny_pure hq)) fun _ _ e => e)
  refine pairs_block hcell hkind hx hx₂ hxx H ?_
  intro D C h' tk m' ys news F' N' hlt hn hC₀ hD₀ hCL hDL hCD offC fin
  show wpAny _ A (assign (.Name y py) env (.ref D)) _ _ _
  refine wpAny_assign_Name (wpAny_storeName_local hy F'.ns (fun h₂ hn₂ hs₂ => ?_) hp)
  have hL₀ : h₀.get? env.locals = none := Heap.get?_none_of_le F'.above
  have F₂ : Fr h₀ env.locals h₂ (fun z => if z = y then some (.ref D) else m z) := ⟨hn₂, fun b o e => hs₂.extBut b o (fun q => by have q' : b = env.locals := q; rw [q', hL₀] at e; cases e) (F'.keep b o e), F'.above⟩
  refine ⟨m', hn.sameBut hs₂ hCL, fun h'' hs'' => fin D h'' _ (F₂.change hs'' hCL hC₀) (fun p hp => ?_) hlt⟩
  have z : h₂.get? p.1 = some p.2 := hs₂.extBut _ _ (N' p hp).2.1 (N' p hp).1
  refine ⟨hs''.extBut _ _ ?_ z, (N' p hp).2⟩
  rcases List.mem_cons.mp hp with rfl | hp
  · exact Ne.symm hCD
  · exact offC p hp
/-- zip of two lists of the ledger -/
theorem zip_pairs {elt : Expr} {x x₂ : Str} {scope : Scope} {cl : List (Str × Addr)} {Fin : Shared → List Value → List (Addr × Obj) → Prop} {l1 l2 : Addr} {xs ys : List Value} {n1 n2 : Nat} {news : List (Addr × Obj)} (n : Nat) (R : Nat → Value → Prop)
    (hh : A.handled = none) (F : Fr h₀ L s.heap m) (N : News h₀ L s.heap news) (m1 : (l1, listOf xs.toArray n1) ∈ news) (m2 : (l2, listOf ys.toArray n2) ∈ news) (hx : xs.length = n) (hy : ys.length = n) (hn : n ≤ sizeLine)
    (turn : ∀ i a b C oC m' own h tk (E' : Value → Shared → Prop), i < n → xs[i]? = some a → ys[i]? = some b → LCg.NsObj oC m' → m' x = some a → m' x₂ = some b → Fr h₀ L h m → News h₀ L h ((C, oC) :: (news ++ own)) →
      wpAny (model prog w) A (eval elt (compEnvC scope cl C env)) (PairEnd h₀ L m ((C, oC) :: (news ++ own)) (R i) s) E' { s with heap := h, toks := tk })
    (fin : ∀ g vs, vs.length = n → (∀ i y, vs[i]? = some y → R i y) → Fin { s with heap := g } vs news) :
    wpAny (model prog w) A (call (.type "zip") [.ref l1, .ref l2]) (fun xv s₁ => wpAny (model prog w) A (pyIter xv) (fun it s₂ => PairsAt prog w A h₀ L m env elt x x₂ scope cl Fin it s₂) E s₁) E s := by
  have a1 := N _ m1
  have a2 := N _ m2
  have q1 : s.heap.IsList l1 xs.toArray := ⟨_, a1.1, rfl, n1, rfl⟩
  have q2 : s.heap.IsList l2 ys.toArray := ⟨_, a2.1, rfl, n2, rfl⟩
  have hlt1 : l1 < s.heap.objs.size := Heap.lt_size a1.1
  have hlt2 : l2 < s.heap.objs.size := Heap.lt_size a2.1
  have hL : L < s.heap.objs.size := F.ns.lt
  have D : ZipApart (s.heap.objs.size + 4) (s.heap.objs.size + 2) (s.heap.objs.size + 3) s.heap.objs.size (s.heap.objs.size + 1) l1 l2 := PySem.W.ktu_apart _ _ _ hlt1 hlt2
  have big : ∀ p ∈ news, p.1 < s.heap.objs.size := fun p hp => Heap.lt_size (N p hp).1
  refine call_zip_2 q1 q2 fun h' hz hTI hTO hi1 hi2 hsz hk => ?_
  refine wpAny_pyIter_zip hz ?_
  have W := (WalksT.zip2 (prog := prog) (w := w) hh _ _ _ _ _ _ _ D xs.toArray ys.toArray).toU
  rw [show min xs.toArray.size ys.toArray.size = n from by simp [hx, hy]] at W
  have five : ∀ {b : Nat}, b < s.heap.objs.size → b < s.heap.objs.size + 5 := fun h => Nat.lt_of_lt_of_le h (Nat.le_add_right _ 5)
  have hfp : ∀ b ∈ [s.heap.objs.size + 4, s.heap.objs.size + 2, s.heap.objs.size + 3, s.heap.objs.size, s.heap.objs.size + 1, l1, l2], b < s.heap.objs.size + 5 := by
    intro b hb
    simp only [List.mem_cons, List.not_mem_nil, or_false] at hb
    rcases hb with rfl | rfl | rfl | rfl | rfl | rfl | rfl
    · exact Nat.add_lt_add_left (by decide) _
    · exact Nat.add_lt_add_left (by decide) _
    · exact Nat.add_lt_add_left (by decide) _
    · exact Nat.lt_add_of_pos_right (k := 5) (by decide)
    · exact Nat.add_lt_add_left (by decide) _
    · exact five hlt1
    · exact five hlt2
  have hnew : ∀ b, s.heap.objs.size ≤ b → h₀.get? b = none := fun b hb => by
    cases e : h₀.get? b with
    | none => rfl
    | some o' => exact absurd (Heap.lt_size (F.keep b o' e)) (Nat.not_lt.mpr hb)
  refine ⟨_, _, _, n, _, _, _, news, R, rfl, W, hn, hh, ?_, ?_, ?_, ?_, ?_, ⟨hz, hTI, ⟨_, _, hTO⟩, hi1, hi2, q1.at fun o e => hk _ o e, q2.at fun o e => hk _ o e⟩, F.keeps hk, N.grown hk, ?_, ?_⟩
  · rintro i vals ⟨a, b, _, _, e⟩
    exact ⟨a, b, e⟩
  · intro hb
    simp only [List.mem_cons, List.not_mem_nil, or_false] at hb
    rcases hb with e | e | e | e | e | e | e
    · exact PySem.W.ktu_ne 4 hL e
    · exact PySem.W.ktu_ne 2 hL e
    · exact PySem.W.ktu_ne 3 hL e
    · exact PySem.W.ktu_ne 0 hL e
    · exact PySem.W.ktu_ne 1 hL e
    · exact absurd e (Ne.symm a1.2.1)
    · exact absurd e (Ne.symm a2.2.1)
  · intro b hb
    simp only [List.mem_cons, List.not_mem_nil, or_false] at hb
    rcases hb with rfl | rfl | rfl | rfl <;> first | exact hnew _ (Nat.le_refl _) | exact hnew _ (Nat.le_add_right _ _)
  · intro b hb
    show b < h'.objs.size
    rw [hsz]
    exact hfp b hb
  · intro p hp hb
    have := big p hp
    simp only [List.mem_cons, List.not_mem_nil, or_false] at hb
    rcases hb with e | e | e | e
    · exact PySem.W.ktu_ne 4 this e
    · exact PySem.W.ktu_ne 3 this e
    · exact PySem.W.ktu_ne 0 this e
    · exact PySem.W.ktu_ne 1 this e
  · intro i a b C oC m' own h tk E' hi hPt hoC e1 e2 F' N'
    obtain ⟨a', b', ha, hb, e⟩ := hPt
    have e' : [a, b] = [a', b'] := congrArg Array.toList e
    cases e'
    exact turn i a b C oC m' own h tk E' hi (by simpa using ha) (by simpa using hb) hoC e1 e2 F' N'
  · exact fun vs hl hR => fin _ vs hl hR
end
end Mine
namespace Mine
open PySem PySem.W PyProof.Rows PySem.Calls PySem.Spec
section
variable {prog : Program} {w : World} {A : Around} {E : Value → Shared → Prop} {s : Shared} {env : Env} {h₀ : Heap} {L : Addr} {m : Str → Option Value} {R : Result → Shared → Prop}
/-- a clause's start: its iterator once more -/
theorem comp_start {elt target iter : Expr} {ifs : List Expr} {gens : List Comprehension} {scope : Scope} {pos : Pos} {d : Nat} {it acc : Value}
    (hg : gens[d]? = some ⟨target, iter, ifs, 0⟩)
    (h0 : codeAny (model prog w) A (.compLoop (.ListComp elt gens scope pos) d it acc env) R s)
    (h : ∀ E', wpAny (model prog w) A (pyIter it) (fun it' s' => codeAny (model prog w) A (.compLoop (.ListComp elt gens scope pos) d it' acc env) R s') E' s) :
    codeAny (model prog w) A (.compStart (.ListComp elt gens scope pos) d it acc env) R s := by
  refine codeAny_of_tree ?_
  show wpAny _ _ ((compStart (.ListComp elt gens scope pos) d it acc env).onRaise (fun x => do noteFrame x env; standAt theWindowsPlace)) _ _ s
  refine wpAny_notedAt ?_
  unfold compStart
  simp only [clausesOf, hg, Option.elim, bne_self_eq_false, Bool.false_eq_true, if_false]
  show wpAny _ _ (ask >>= _) _ _ s
  refine wpAny_bind (wpAny_askSetting (wpAny_ite ?_))
  split
  · exact wpAny_bind (wpAny_pure (wpAny_pure (And.intro rfl h0)))
  · exact wpAny_bind (wpAny_rule (wpAny_bind (wpAny_standAt (wpAny_bind (wpAny_mono (h _) (fun it' s' h' => wpAny_pure (And.intro rfl h')) fun _ _ x => x)))))
def lastBody (elt : Expr) (acc : Value) (env : Env) (c : Code) : Sem Fin := (eval elt env >>= fun x => call (.builtin "list.append") [acc, x] >>= fun _ => pure ()) >>= fun _ => again c
def nextBody (e : Expr) (d : Nat) (iter : Expr) (acc : Value) (env : Env) (c : Code) : Sem Fin := eval iter env >>= fun x => standAt iter.pos >>= fun _ => foldedSetIterable iter env x >>= fun x => holding [x] (pyIter x) >>= fun it => runOwn (.compStart e (d + 1) it acc env) env >>= fun _ => again c
theorem last_body {elt : Expr} {acc : Value} {c : Code} {Q : Shared → Prop} (h : wpAny (model prog w) A (eval elt env) (fun y s₃ => wpAny (model prog w) A (call (.builtin "list.append") [acc, y]) (fun _ s₄ => Q s₄) E s₃) E s) :
    wpAny (model prog w) A (lastBody elt acc env c) (fun fin s' => fin = .again c ∧ Q s') E s :=
  wpAny_bind (wpAny_bind (wpAny_mono h (fun _ _ h₃ => wpAny_bind (wpAny_mono h₃ (fun _ _ h₄ => wpAny_pure (wpAny_pure ⟨rfl, h₄⟩)) fun _ _ e => e)) fun _ _ e => e))
theorem next_body {e : Expr} {d : Nat} {iter : Expr} {acc : Value} {c : Code} {Q : Shared → Prop}
    (h : wpAny (model prog w) A (eval iter env) (fun xv s₁ => wpAny (model prog w) A (pyIter xv) (fun it s₂ => codeAny (model prog w) A (.compStart e (d + 1) it acc env) (fun r s' => r = .ok .next ∧ Q s') s₂) E s₁) E s)
    (hs : ∀ x, foldedSetIterable iter env x = pure x) :
    wpAny (model prog w) A (nextBody e d iter acc env c) (fun fin s' => fin = .again c ∧ Q s') E s := by
  have key : ∀ it (s₂ : Shared), codeAny (model prog w) A (.compStart e (d + 1) it acc env) (fun r s' => r = .ok .next ∧ Q s') s₂ → wpAny (model prog w) A (runOwn (.compStart e (d + 1) it acc env) env >>= fun _ => again c) (fun fin s' => fin = .again c ∧ Q s') E s₂ := fun it s₂ h₂ =>
    wpAny_bind (wpAny_runOwn (codeAny_mono h₂ fun r s' hr => by
      obtain ⟨rfl, hq⟩ := hr
      exact wpAny_pure ⟨rfl, hq⟩))
  exact wpAny_bind (wpAny_mono h (fun x _ h₁ => wpAny_bind (wpAny_standAt (wpAny_bind (wpAny_of_eq (hs x) (wpAny_bind (wpAny_holding (wpAny_mono h₁ (fun _ _ h₂ => key _ _ h₂) fun _ _ e => e))))))) fun _ _ e => e)
/-- what a turn leaves -/
def CEnd {σ : Type} (h₀ : Heap) (L : Addr) (m : Str → Option Value) (I : Addr) (it : Obj) (c₁ : Addr) (Base : Obj → Prop) (Led : σ → List (Addr × Obj)) (P : σ → Prop) (s s₂ : Shared) : Prop :=
  ∃ (c : σ) (h' : Heap) (tk : Nat) (o₁ : Obj) (news' : List (Addr × Obj)), s₂ = { s with heap := h', toks := tk } ∧ Base o₁ ∧ Fr h₀ L h' m ∧ News h₀ L h' news' ∧ (I, it) ∈ news' ∧ (c₁, o₁) ∈ news' ∧ (∀ p ∈ Led c, p ∈ news') ∧ (∀ p ∈ Led c, p.1 ≠ I ∧ p.1 ≠ c₁) ∧ P c
/-- how a clause's name is set -/
def Sets (prog : Program) (w : World) (A : Around) (x : Str) (px : Pos) (env : Env) (c₁ : Addr) (Base : Obj → Prop) (Slot : Value → Obj → Prop) : Prop :=
  ∀ (s : Shared) (o : Obj) (v : Value) (Q : Unit → Shared → Prop) (E : Value → Shared → Prop), s.heap.get? c₁ = some o → Base o →
    (∀ h' o' tk', h'.get? c₁ = some o' → Slot v o' → Heap.SameBut c₁ s.heap h' → Q () { s with heap := h', toks := tk' }) → wpAny (model prog w) A (assign (.Name x px) env v) Q E s
theorem my_compC {σ : Type} {elt : Expr} {gens : List Comprehension} {scope : Scope} {pos : Pos} {d : Nat} {acc : Value} {x : Str} {px p : Pos} {body : Sem Fin} {I c₁ : Addr} {o₀ : Obj} {fp : List Addr} {n : Nat} {Pv : Nat → Value → Prop} {St : Nat → Heap → Prop} {Base : Obj → Prop} {Slot : Value → Obj → Prop}
    (W : Walks prog w A I fp [I] n Pv St)
    (Led : σ → List (Addr × Obj)) (P : Nat → σ → Prop) (c₀ : σ)
    (hasg : Sets prog w A x px env c₁ Base Slot)
    (heq : compTurn (.ListComp elt gens scope pos) d (.ref I) acc env = (standAt p >>= fun _ => pyNext (.ref I) >>= fun r => match r with
      | none => pure (.done .next)
      | some v => letOwnedTupleGo (.Name x px) (.ref I) v >>= fun _ => assign (.Name x px) env v >>= fun _ => body))
    (hLf : L ∉ fp) (hI : h₀.get? I = none) (hcf : c₁ ∉ fp) (hc₀ : h₀.get? c₁ = none) (hcL : c₁ ≠ L) (hlive : ∀ i h, St i h → ∃ o, h.get? I = some o) (hoth : ∀ b ∈ fp, b ≠ I → ∃ o, ∀ c, (b, o) ∈ Led c) (hnI : ∀ p ∈ Led c₀, p.1 ≠ I ∧ p.1 ≠ c₁)
    (hst : St 0 s.heap) (F : Fr h₀ L s.heap m) (N : News h₀ L s.heap ((c₁, o₀) :: Led c₀)) (hB : Base o₀) (hp : P 0 c₀)
    (turn : ∀ i (c : σ) v it o₁ h tk (E' : Value → Shared → Prop), i < n → Pv i v → P i c → Slot v o₁ → (∀ p ∈ Led c, p.1 ≠ I ∧ p.1 ≠ c₁) → Fr h₀ L h m → News h₀ L h ((I, it) :: (c₁, o₁) :: Led c) →
      wpAny (model prog w) A body (fun fin s₂ => fin = .again (.compLoop (.ListComp elt gens scope pos) d (.ref I) acc env) ∧ CEnd h₀ L m I it c₁ Base Led (P (i + 1)) s s₂) E' { s with heap := h, toks := tk })
    (done : ∀ (c : σ) o₁ h tk, P n c → Base o₁ → (∀ p ∈ Led c, p.1 ≠ I ∧ p.1 ≠ c₁) → Fr h₀ L h m → News h₀ L h ((c₁, o₁) :: Led c) → R (.ok .next) { s with heap := h, toks := tk }) :
    codeAny (model prog w) A (.compLoop (.ListComp elt gens scope pos) d (.ref I) acc env) R s := by
  have hLI : L ≠ I := fun e => hLf (e ▸ W.sub _ (.head _))
  have hcI : c₁ ≠ I := fun e => hcf (e ▸ W.sub _ (.head _))
  have old : ∀ b o, h₀.get? b = some o → b ∉ [I] := fun b o e hb => by rw [List.mem_singleton.mp hb, hI] at e; cases e
  refine codeAny_loop rfl (fun k s' => ∃ (i : Nat) (c : σ) (o₁ : Obj) (h' : Heap) (tk : Nat), s' = { s with heap := h', toks := tk } ∧ St i h' ∧ Base o₁ ∧ Fr h₀ L h' m ∧ News h₀ L h' ((c₁, o₁) :: Led c) ∧ (∀ p ∈ Led c, p.1 ≠ I ∧ p.1 ≠ c₁) ∧ P i c ∧ i ≤ n ∧ k = n + 1 - i) ?_ (n + 1)
    ⟨0, c₀, o₀, s.heap, s.toks, rfl, hst, hB, F, N, hnI, hp, Nat.zero_le _, rfl⟩
  rintro k s' ⟨i, c, o₁, h', tk, rfl, hst', hB', F', N', hnI', hP, hi, rfl⟩
  show wpAny _ A ((compTurn (.ListComp elt gens scope pos) d (.ref I) acc env).onRaise (fun x => do noteFrame x env; theTreesLotGoes x)) _ _ _
  refine wpAny_noted ?_
  rw [heq]
  have next : ∀ h₁ : Heap, (∀ b o, b ∉ [I] → h'.get? b = some o → h₁.get? b = some o) → Fr h₀ L h₁ m ∧ News h₀ L h₁ ((c₁, o₁) :: Led c) := fun h₁ hk₁ =>
    ⟨⟨F'.ns.at' fun o e => hk₁ _ o (fun q => hLI (List.mem_singleton.mp q)) e, fun b o e => hk₁ b o (old b o e) (F'.keep b o e), F'.above⟩, fun p hp => ⟨hk₁ _ _ (fun q => by
      rcases List.mem_cons.mp hp with rfl | hp
      · exact hcI (List.mem_singleton.mp q)
      · exact (hnI' p hp).1 (List.mem_singleton.mp q)) (N' p hp).1, (N' p hp).2⟩⟩
  by_cases hlt : i < n
  · refine wpAny_bind (wpAny_standAt (wpAny_bind ?_))
    refine W.item i _ _ _ hlt hst' fun v h₁ tk₁ hPv hst₁ hk₁ => ?_
    obtain ⟨F₁, N₁⟩ := next h₁ hk₁
    refine wpAny_bind (wpAny_of_eq (show letOwnedTupleGo (.Name x px) (.ref I) v = pure () from rfl) (wpAny_bind ?_))
    refine hasg _ o₁ v _ _ (N₁ _ (.head _)).1 hB' fun h₂ o₂ tk₂ ho₂ hS hs₂ => ?_
    have hst₂ : St (i + 1) h₂ := W.frame _ _ _ hst₁ fun b hb o e => hs₂.extBut b o (fun q => hcf (by have q' : b = c₁ := q; rw [← q']; exact hb)) e
    obtain ⟨it, hit⟩ := hlive _ _ hst₂
    have F₂ : Fr h₀ L h₂ m := F₁.change hs₂ hcL hc₀
    have N₂ : News h₀ L h₂ ((I, it) :: (c₁, o₂) :: Led c) := fun p hp => by
      rcases List.mem_cons.mp hp with rfl | hp
      · exact ⟨hit, fun e => hLI e.symm, hI⟩
      · rcases List.mem_cons.mp hp with rfl | hp
        · exact ⟨ho₂, hcL, hc₀⟩
        · exact ⟨hs₂.extBut _ _ (hnI' p hp).2 (N₁ p (.tail _ hp)).1, (N₁ p (.tail _ hp)).2⟩
    refine wpAny_mono (turn i c v it o₂ h₂ tk₂ _ hlt hPv hP hS hnI' F₂ N₂) (fun fin s₃ h₃ => ?_) fun _ _ e => e
    obtain ⟨rfl, c', h₄, tk₄, o₄, news₄, rfl, hB₄, F₄, N₄, hI₄, hc₄, hn₄, ho₄, hp₄⟩ := h₃
    refine ⟨rfl, n + 1 - (i + 1), by omega, i + 1, c', o₄, h₄, tk₄, rfl, ?_, hB₄, F₄, fun p hp => ?_, ho₄, hp₄, hlt, rfl⟩
    · refine W.frame _ _ _ hst₂ fun b hb o e => ?_
      by_cases hbI : b = I
      · subst hbI
        rw [hit] at e
        cases e
        exact (N₄ _ hI₄).1
      · obtain ⟨o', ho'⟩ := hoth b hb hbI
        have e1 := (N₂ _ (.tail _ (.tail _ (ho' c)))).1
        rw [e] at e1
        cases e1
        exact (N₄ _ (hn₄ _ (ho' c'))).1
    · rcases List.mem_cons.mp hp with rfl | hp
      · exact N₄ _ hc₄
      · exact N₄ p (hn₄ p hp)
  · have hin : i = n := by omega
    subst hin
    refine wpAny_bind (wpAny_standAt (wpAny_bind ?_))
    refine W.done _ _ _ hst' fun h₁ tk₁ hk₁ => wpAny_pure ?_
    obtain ⟨F₁, N₁⟩ := next h₁ hk₁
    exact done c o₁ h₁ tk₁ hP hB' hnI' F₁ N₁
theorem sets_local {x : Str} {px : Pos} (ps : List (Str × Value)) (hk : env.kindOf x = some .local) (hp : (env.scope.kind == .class || (env.scope.kind == .module && env.locals != env.globals)) = false) (hx : ∀ p ∈ ps, p.1 ≠ x) :
    Sets prog w A x px env env.locals (fun o => ∃ m', LCg.NsObj o m' ∧ ∀ p ∈ ps, m' p.1 = some p.2) (fun v o => ∃ m', LCg.NsObj o m' ∧ (∀ p ∈ ps, m' p.1 = some p.2) ∧ m' x = some v) := by
  rintro s o v Q E ho ⟨m', hm, hps⟩ h
  refine wpAny_assign_Name (wpAny_storeName_local hk (hm.ns ho) (fun h' hn hs => ?_) hp)
  obtain ⟨o', ho', hn'⟩ := LCg.ns_obj hn
  exact h h' o' _ ho' ⟨_, hn', fun p hp => by simp only [if_neg (hx p hp)]; exact hps p hp, by simp⟩ hs
theorem sets_cell {x : Str} {px : Pos} {c₁ : Addr} (hk : env.scope.kind = .function) (hx : env.kindOf x = some .cell) (hc : env.cells.lookup x = some c₁) :
    Sets prog w A x px env c₁ (fun o => ∃ v, o.data = .cell v) (fun v o => o.data = .cell (some v)) := by
  rintro s o v Q E ho ⟨v₀, hd⟩ h
  refine wpAny_assign_Name (wpAny_storeName_cell hk hx hc ⟨o, ho, hd⟩ fun h' hv hs => ?_)
  obtain ⟨o', ho', hd'⟩ := hv
  exact h h' o' _ ho' hd' hs
/-- the end of a whole comprehension's loops -/
def CompOut (h₀ : Heap) (L : Addr) (m : Str → Option Value) (C : Addr) (s : Shared) (Q : Shared → Prop) (r : Result) (s' : Shared) : Prop :=
  r = .ok .next ∧ ∃ oC m' h' tk' news', s' = { s with heap := h', toks := tk' } ∧ LCg.NsObj oC m' ∧ Fr h₀ L h' m ∧ News h₀ L h' ((C, oC) :: news') ∧ (∀ p ∈ news', p.1 ≠ C) ∧ ∀ h'', Fr h₀ L h'' m → News h₀ L h'' news' → Q { s with heap := h'', toks := tk' }
theorem comp_out {acc : Value} {C : Addr} {Q : Value → Shared → Prop} {r : Result} {s' : Shared} {M : Model} (h : CompOut h₀ L m C s (Q acc) r s') : compPost M A E none Q acc C r s' := by
  obtain ⟨rfl, oC, m', h', tk', news', rfl, hC, F, N, ho, hq⟩ := h
  have nC := N _ (.head _)
  refine ⟨m', hC.ns nC.1, fun h'' hs => hq h'' (F.change hs nC.2.1 nC.2.2) fun p hp => ?_⟩
  have z := N p (.tail _ hp)
  exact ⟨hs.extBut _ _ (ho p hp) z.1, z.2⟩
def InAt (prog : Program) (w : World) (A : Around) (h₀ : Heap) (L : Addr) (env : Env) (e : Expr) (scope : Scope) (cl : List (Str × Addr)) (Q : Value → Shared → Prop) (it : Value) (s₂ : Shared) : Prop :=
  ∃ m news, Fr h₀ L s₂.heap m ∧ News h₀ L s₂.heap news ∧ ∀ (D C : Addr) oC h tk, @LE.le Nat _ s₂.heap.objs.size D → @LT.lt Nat _ D C → LCg.NsObj oC (fun _ => none) → Fr h₀ L h m → News h₀ L h ((C, oC) :: (D, LCg.lst []) :: news) → (∀ b o, s₂.heap.get? b = some o → h.get? b = some o) →
    codeAny (model prog w) A (.compStart e 0 it (.ref D) (compEnvC scope cl C env)) (CompOut h₀ L m C s₂ (Q (.ref D))) { s₂ with heap := h, toks := tk }
theorem comp_in {elt target iter : Expr} {ifs : List Expr} {rest : List Comprehension} {scope : Scope} {cl : List (Str × Addr)} {pos : Pos} {Q : Value → Shared → Prop}
    (hclos : closureFor scope env = pure cl) (hcell : ∀ y ∈ scope.names, y.2 ≠ .cell) (hkind : scope.kind = .function) (hnames : ∀ y ∈ scope.names, y.2 = .local → scope.names.lookup y.1 = some .local)
    (h : wpAny (model prog w) A (eval iter env) (fun xv s₁ => wpAny (model prog w) A (pyIter xv) (fun it s₂ => InAt prog w A h₀ L env (.ListComp elt (⟨target, iter, ifs, 0⟩ :: rest) scope pos) scope cl Q it s₂) E s₁) E s)
    (hs : ∀ x, foldedSetIterable iter env x = pure x := by intro _; rfl) :
    wpAny (model prog w) A (eval (.ListComp elt (⟨target, iter, ifs, 0⟩ :: rest) scope pos) env) Q E s := by
  rw [eval_ListComp]
  refine wpAny_comprehension_free (use := none) rfl hs hclos hkind hnames (wpAny_mono h (fun xv s₁ h₁ => wpAny_mono h₁ (fun it s₂ H => ?_) fun _ _ e => e) fun _ _ e => e)
  obtain ⟨m, news, F, N, go⟩ := H
  refine wpAny_newObj_type (wpAny_newFunctionEnv hcell (by intro y hy; simp at hy) (fun h₁ hns₁ hsb₁ => ?_) hkind)
  dsimp only at hns₁ hsb₁ ⊢
  obtain ⟨oC, heC, hoC⟩ := LCg.ns_obj hns₁
  have old : ∀ b o, s₂.heap.get? b = some o → h₁.get? b = some o := fun b o e => hsb₁.extBut b o (by
    rw [Heap.size_push]; exact Nat.ne_of_lt (Nat.lt_succ_of_lt (Heap.lt_size e))) (Heap.get?_push_of_some _ (Heap.get?_push_of_some _ e))
  have hD : h₁.get? s₂.heap.objs.size = some (LCg.lst []) := hsb₁.extBut _ _ (by rw [Heap.size_push]; exact Nat.ne_of_lt (Nat.lt_succ_self _)) (Heap.get?_push_of_some _ (Heap.get?_push_size _ rfl))
  have hnew : ∀ b, s₂.heap.objs.size ≤ b → h₀.get? b = none := fun b hb => by
    cases e : h₀.get? b with
    | none => rfl
    | some o' => exact absurd (Heap.lt_size (F.keep b o' e)) (Nat.not_lt.mpr hb)
  have hL := F.ns.lt
  refine codeAny_mono (go s₂.heap.objs.size _ oC h₁ _ (Nat.le_refl _) (by rw [Heap.size_push]; exact Nat.lt_succ_self _) hoC (F.keeps old) (fun p hp => ?_) old) fun r s' hr => comp_out hr
  rcases List.mem_cons.mp hp with rfl | hp
  · refine ⟨heC, ?_, hnew _ ?_⟩
    · show _ ≠ L; rw [Heap.size_push]; exact Nat.ne_of_gt (Nat.lt_succ_of_lt hL)
    · show s₂.heap.objs.size ≤ _; rw [Heap.size_push]; exact Nat.le_succ _
  · rcases List.mem_cons.mp hp with rfl | hp
    · exact ⟨hD, Nat.ne_of_gt hL, hnew _ (Nat.le_refl _)⟩
    · exact ⟨old _ _ (N p hp).1, (N p hp).2⟩
def InAtC (prog : Program) (w : World) (A : Around) (h₀ : Heap) (L : Addr) (env : Env) (x : Str) (e : Expr) (scope : Scope) (cl : List (Str × Addr)) (Q : Value → Shared → Prop) (it : Value) (s₂ : Shared) : Prop :=
  ∃ m news, Fr h₀ L s₂.heap m ∧ News h₀ L s₂.heap news ∧ ∀ (D C ck : Addr) oC ok h tk, @LE.le Nat _ s₂.heap.objs.size D → @LT.lt Nat _ D C → @LT.lt Nat _ C ck → LCg.NsObj oC (fun _ => none) → ok.data = .cell none → Fr h₀ L h m → News h₀ L h ((ck, ok) :: (C, oC) :: (D, LCg.lst []) :: news) → (∀ b o, s₂.heap.get? b = some o → h.get? b = some o) →
    codeAny (model prog w) A (.compStart e 0 it (.ref D) (compEnvC scope ((x, ck) :: cl) C env)) (CompOut h₀ L m C s₂ (Q (.ref D))) { s₂ with heap := h, toks := tk }
/-- a comprehension whose block keeps one name in a cell -/
theorem comp_inC {elt target iter : Expr} {ifs : List Expr} {rest : List Comprehension} {scope : Scope} {cl : List (Str × Addr)} {pos : Pos} {x : Str} {Q : Value → Shared → Prop}
    (hclos : closureFor scope env = pure cl) (hcells : ∀ n, cellsFrom n scope.names cl = (x, n) :: cl) (hpush : ∀ h, pushCells h scope.names = h.push { cls := .type "cell", data := .cell none }) (hkind : scope.kind = .function) (hnames : ∀ y ∈ scope.names, y.2 = .local → scope.names.lookup y.1 = some .local)
    (h : wpAny (model prog w) A (eval iter env) (fun xv s₁ => wpAny (model prog w) A (pyIter xv) (fun it s₂ => InAtC prog w A h₀ L env x (.ListComp elt (⟨target, iter, ifs, 0⟩ :: rest) scope pos) scope cl Q it s₂) E s₁) E s)
    (hs : ∀ x, foldedSetIterable iter env x = pure x := by intro _; rfl) :
    wpAny (model prog w) A (eval (.ListComp elt (⟨target, iter, ifs, 0⟩ :: rest) scope pos) env) Q E s := by
  rw [eval_ListComp]
  refine wpAny_comprehension_free (use := none) rfl hs hclos hkind hnames (wpAny_mono h (fun xv s₁ h₁ => wpAny_mono h₁ (fun it s₂ H => ?_) fun _ _ e => e) fun _ _ e => e)
  obtain ⟨m, news, F, N, go⟩ := H
  refine wpAny_newObj_type ?_
  simp only [newFunctionEnv, Option.isSome_some, if_true]
  refine wpAny_bind (wpAny_alloc ?_)
  refine wpAny_bind (wpAny_layCells _ (fun name kind cells => by cases kind == NameKind.cell <;> simp) _ _ _ _ ?_)
  rw [hcells, hpush]
  refine wpAny_bind (wpAny_pure (wpAny_pure ?_))
  have hnew : ∀ b, s₂.heap.objs.size ≤ b → h₀.get? b = none := fun b hb => by
    cases e : h₀.get? b with
    | none => rfl
    | some o' => exact absurd (Heap.lt_size (F.keep b o' e)) (Nat.not_lt.mpr hb)
  have hL := F.ns.lt
  generalize hH2 : s₂.heap.push { cls := .type "list", dict := none, data := .seq ([] : List Value).toArray } = H2
  have z2 : H2.objs.size = s₂.heap.objs.size + 1 := by rw [← hH2, Heap.size_push]
  generalize hH3 : H2.push { cls := .type "dict", data := .dict #[] } = H3
  have z3 : H3.objs.size = s₂.heap.objs.size + 1 + 1 := by rw [← hH3, Heap.size_push, z2]
  have up2 : ∀ b o, s₂.heap.get? b = some o → H2.get? b = some o := fun b o e => hH2 ▸ Heap.get?_push_of_some _ e
  have up3 : ∀ b o, H2.get? b = some o → H3.get? b = some o := fun b o e => hH3 ▸ Heap.get?_push_of_some _ e
  have hD : H2.get? s₂.heap.objs.size = some (LCg.lst []) := hH2 ▸ Heap.get?_push_size _ rfl
  have hC : H3.get? H2.objs.size = some { cls := .type "dict", data := .dict #[] } := hH3 ▸ Heap.get?_push_size _ rfl
  refine codeAny_mono (go s₂.heap.objs.size H2.objs.size H3.objs.size { cls := .type "dict", data := .dict #[] } { cls := .type "cell", data := .cell none } _ _ (Nat.le_refl _) (by rw [z2]; exact Nat.lt_succ_self _) (by rw [z2, z3]; exact Nat.lt_succ_self _)
    ⟨#[], 0, rfl, fun e he => by simp at he, fun _ => rfl⟩ rfl (F.keeps fun b o e => Heap.get?_push_of_some _ (up3 _ _ (up2 _ _ e))) (fun p hp => ?_) (fun b o e => Heap.get?_push_of_some _ (up3 _ _ (up2 _ _ e)))) fun r s' hr => comp_out hr
  rcases List.mem_cons.mp hp with rfl | hp
  · refine ⟨Heap.get?_push_size _ rfl, ?_, hnew _ ?_⟩
    · show H3.objs.size ≠ L; rw [z3]; exact Nat.ne_of_gt (Nat.lt_succ_of_lt (Nat.lt_succ_of_lt hL))
    · show s₂.heap.objs.size ≤ H3.objs.size; rw [z3]; exact Nat.le_add_right _ 2
  · rcases List.mem_cons.mp hp with rfl | hp
    · refine ⟨Heap.get?_push_of_some _ hC, ?_, hnew _ ?_⟩
      · show H2.objs.size ≠ L; rw [z2]; exact Nat.ne_of_gt (Nat.lt_succ_of_lt hL)
      · show s₂.heap.objs.size ≤ H2.objs.size; rw [z2]; exact Nat.le_succ _
    · rcases List.mem_cons.mp hp with rfl | hp
      · exact ⟨Heap.get?_push_of_some _ (up3 _ _ hD), Nat.ne_of_gt hL, hnew _ (Nat.le_refl _)⟩
      · exact ⟨Heap.get?_push_of_some _ (up3 _ _ (up2 _ _ (N p hp).1)), (N p hp).2⟩
/-- one clause, its element a value told by its place -/
theorem one_core {elt iter : Expr} {scope : Scope} {pos px : Pos} {x : Str} {I c₁ D : Addr} {o₀ : Obj} {fp : List Addr} {n : Nat} {Pv : Nat → Value → Prop} {St : Nat → Heap → Prop} {Base : Obj → Prop} {Slot : Value → Obj → Prop} {led : List (Addr × Obj)} (R' : Nat → Value → Prop)
    (W : Walks prog w A I fp [I] n Pv St) (hsz : n ≤ sizeLine) (hSB : ∀ v o, Slot v o → Base o) (hasg : Sets prog w A x px env c₁ Base Slot)
    (hLf : L ∉ fp) (hI : h₀.get? I = none) (hcf : c₁ ∉ fp) (hDf : D ∉ fp) (hlive : ∀ i h, St i h → ∃ o, h.get? I = some o) (hoth : ∀ b ∈ fp, b ≠ I → ∃ o, (b, o) ∈ led) (hDc : D ≠ c₁) (hled : ∀ p ∈ led, p.1 ≠ I ∧ p.1 ≠ c₁ ∧ p.1 ≠ D)
    (hst : St 0 s.heap) (F : Fr h₀ L s.heap m) (N : News h₀ L s.heap ((c₁, o₀) :: (D, LCg.lst []) :: led)) (hB : Base o₀)
    (turn : ∀ i v o₁ own h tk (E' : Value → Shared → Prop), i < n → Pv i v → Slot v o₁ → Fr h₀ L h m → News h₀ L h ((c₁, o₁) :: (led ++ own)) → wpAny (model prog w) A (eval elt env) (PairEnd h₀ L m ((c₁, o₁) :: (led ++ own)) (R' i) s) E' { s with heap := h, toks := tk })
    (done : ∀ ys o₁ h tk, ys.length = n → (∀ i y, ys[i]? = some y → R' i y) → Base o₁ → Fr h₀ L h m → News h₀ L h ((c₁, o₁) :: (D, LCg.lst ys) :: led) → R (.ok .next) { s with heap := h, toks := tk }) :
    codeAny (model prog w) A (.compStart (.ListComp elt [⟨.Name x px, iter, [], 0⟩] scope pos) 0 (.ref I) (.ref D) env) R s := by
  have hDI : D ≠ I := fun e => hDf (e ▸ W.sub _ (.head _))
  have hc₀ := N _ (.head _)
  have hD₀ := N _ (.tail _ (.head _))
  have loop : codeAny (model prog w) A (.compLoop (.ListComp elt [⟨.Name x px, iter, [], 0⟩] scope pos) 0 (.ref I) (.ref D) env) R s := by
    refine my_compC (σ := List Value) (px := px) (body := lastBody elt (.ref D) env (.compLoop (.ListComp elt [⟨.Name x px, iter, [], 0⟩] scope pos) 0 (.ref I) (.ref D) env)) (p := iter.pos) W (fun ys => (D, LCg.lst ys) :: led) (fun i ys => ys.length = i ∧ ∀ j y, ys[j]? = some y → R' j y) [] hasg rfl hLf hI hcf hc₀.2.2 hc₀.2.1 hlive (fun b hb hne => ?_) (fun p hp => ?_) hst F N hB ⟨rfl, fun j y e => by simp at e⟩ (fun i ys v it o₁ h tk E' hi hv hP hS hne F' N' => ?_) (fun ys o₁ h tk hP hB' hne F' N' => done ys o₁ h tk hP.1 hP.2 hB' F' N')
    · obtain ⟨o, ho⟩ := hoth b hb hne
      exact ⟨o, fun c => .tail _ ho⟩
    · rcases List.mem_cons.mp hp with rfl | hp
      · exact ⟨hDI, hDc⟩
      · exact ⟨(hled p hp).1, (hled p hp).2.1⟩
    · refine last_body (wpAny_mono (turn i v o₁ [(I, it), (D, LCg.lst ys)] h tk E' hi hv hS F' fun p hp => ?_) (fun y s₄ h₄ => ?_) fun _ _ e => e)
      · rcases List.mem_cons.mp hp with rfl | hp
        · exact N' _ (.tail _ (.head _))
        · rcases List.mem_append.mp hp with hp | hp
          · exact N' _ (.tail _ (.tail _ (.tail _ hp)))
          · rcases List.mem_cons.mp hp with rfl | hp
            · exact N' _ (.head _)
            · rw [List.mem_singleton.mp hp]
              exact N' _ (.tail _ (.tail _ (.head _)))
      · obtain ⟨h₅, tk₅, rfl, hy, F₅, N₅⟩ := h₄
        have mI : (I, it) ∈ (c₁, o₁) :: (led ++ [(I, it), (D, LCg.lst ys)]) := .tail _ (List.mem_append.mpr (.inr (.head _)))
        have mD : (D, LCg.lst ys) ∈ (c₁, o₁) :: (led ++ [(I, it), (D, LCg.lst ys)]) := .tail _ (List.mem_append.mpr (.inr (.tail _ (.head _))))
        refine append_at (hsz := by show ys.toArray.size ≤ sizeLine; rw [List.size_toArray, hP.1]; exact Nat.le_trans (Nat.le_of_lt hi) hsz) (N₅ _ mD).1 fun h₆ hs₆ hD₆ => ?_
        have keep : ∀ p ∈ (c₁, o₁) :: (led ++ [(I, it), (D, LCg.lst ys)]), p.1 ≠ D → h₆.get? p.1 = some p.2 ∧ p.1 ≠ L ∧ h₀.get? p.1 = none := fun p hp hn => ⟨hs₆.extBut _ _ hn (N₅ p hp).1, (N₅ p hp).2⟩
        refine ⟨ys ++ [y], h₆, tk₅, o₁, (I, it) :: (c₁, o₁) :: (D, LCg.lst (ys ++ [y])) :: led, rfl, hSB _ _ hS, F₅.change hs₆ hD₀.2.1 hD₀.2.2, fun p hp => ?_, .head _, .tail _ (.head _), fun p hp => .tail _ (.tail _ hp), fun p hp => ?_, by rw [List.length_append, List.length_singleton, hP.1], fun j z hz => ?_⟩
        · rcases List.mem_cons.mp hp with rfl | hp
          · exact keep _ mI (Ne.symm hDI)
          · rcases List.mem_cons.mp hp with rfl | hp
            · exact keep _ (.head _) (Ne.symm hDc)
            · rcases List.mem_cons.mp hp with rfl | hp
              · exact ⟨hD₆.trans (congrArg some (LCg.lst_snoc ys y)), hD₀.2⟩
              · exact keep _ (.tail _ (List.mem_append.mpr (.inl hp))) (hled p hp).2.2
        · rcases List.mem_cons.mp hp with rfl | hp
          · exact ⟨hDI, hDc⟩
          · exact ⟨(hled p hp).1, (hled p hp).2.1⟩
        · by_cases hj : j < ys.length
          · rw [List.getElem?_append_left hj] at hz
            exact hP.2 j z hz
          · rw [List.getElem?_append_right (by omega)] at hz
            have h0 : j - ys.length = 0 := by
              have := (List.getElem?_eq_some_iff.mp hz).1
              simp at this
              omega
            rw [h0] at hz
            have e1 : j = i := by have := hP.1; omega
            have e2 : z = y := (Option.some.inj hz).symm
            rw [e1, e2]
            exact hy
  exact comp_start (d := 0) rfl loop fun E' => W.self 0 _ _ _ hst loop
/-- a list over a range by ones, its name a cell of the block's -/
theorem range_cell {elt iter : Expr} {scope : Scope} {pos px : Pos} {x : Str} {cl : List (Str × Addr)} {Q : Value → Shared → Prop} {r : Addr} {a b : Int} {t u v : Tok} {news : List (Addr × Obj)} (n : Nat) (R' : Nat → Value → Prop)
    (hh : A.handled = none) (hr : IsRange s.heap r a b 1 t u v) (hsm : Builtin.Range.small a b 1 = true) (hn : Builtin.Range.rangeSize a b 1 = (n : Int)) (hsz : n ≤ sizeLine) (F : Fr h₀ L s.heap m) (N : News h₀ L s.heap news)
    (hk : scope.kind = .function) (hx : ∀ ck C, (compEnvC scope ((x, ck) :: cl) C env).kindOf x = some .cell)
    (turn : ∀ i t C oC ck ok own h tk (E' : Value → Shared → Prop), i < n → ok.data = .cell (some (.int (a + (i : Int)) t)) → Fr h₀ L h m → News h₀ L h ((ck, ok) :: (C, oC) :: (news ++ own)) →
      wpAny (model prog w) A (eval elt (compEnvC scope ((x, ck) :: cl) C env)) (PairEnd h₀ L m ((ck, ok) :: (C, oC) :: (news ++ own)) (R' i) s) E' { s with heap := h, toks := tk })
    (done : ∀ ys D h tk, ys.length = n → (∀ i y, ys[i]? = some y → R' i y) → (∀ p ∈ news, p.1 < D) → Fr h₀ L h m → News h₀ L h ((D, LCg.lst ys) :: news) → Q (.ref D) { s with heap := h, toks := tk }) :
    wpAny (model prog w) A (pyIter (.ref r)) (fun it s₂ => InAtC prog w A h₀ L env x (.ListComp elt [⟨.Name x px, iter, [], 0⟩] scope pos) scope cl Q it s₂) E s := by
  refine wpAny_pyIter_range hr hsm ?_
  have hI₀ := next_is_new F
  have hnews : ∀ p ∈ news, p.1 < s.heap.objs.size := fun p hp => Heap.lt_size (N p hp).1
  have hL := F.ns.lt
  refine ⟨m, news, F.push _, fun p hp => ⟨Heap.get?_push_of_some _ (N p hp).1, (N p hp).2⟩, fun D C ck oC ok h tk hD hDC hCk hoC hok F' N' old => ?_⟩
  have hID : @LT.lt Nat _ s.heap.objs.size D := Nat.lt_of_lt_of_le (by show _ < (s.heap.push _).objs.size; rw [Heap.size_push]; exact Nat.lt_succ_self _) hD
  have hCD : @Ne Nat D ck := Nat.ne_of_lt (Nat.lt_trans hDC hCk)
  have W : Walks prog w A s.heap.objs.size [s.heap.objs.size] [s.heap.objs.size] n (fun i v => i < n ∧ ∃ t, v = .int (a + i * 1) t)
      (fun i h => IsRangeIter h s.heap.objs.size (a + (i : Nat) * 1) ((n : Int) - (i : Nat)) 1) := (Walks.range hh _ a 1 n).bound
  refine one_core (led := (C, oC) :: news) R' W hsz (Base := fun o => ∃ v, o.data = .cell v) (Slot := fun v o => o.data = .cell (some v)) (fun v o hd => ⟨_, hd⟩) (sets_cell hk (hx ck C) (by simp [compEnvC])) (fun q => Nat.ne_of_lt hL (List.mem_singleton.mp q)) hI₀ (fun q => Nat.ne_of_gt (Nat.lt_trans hID (Nat.lt_trans hDC hCk)) (List.mem_singleton.mp q)) (fun q => Nat.ne_of_gt hID (List.mem_singleton.mp q)) (fun i h hs => ⟨_, hs⟩)
    (fun b hb hne => absurd (List.mem_singleton.mp hb) hne) hCD (fun p hp => ?_) (old _ _ (by show (s.heap.push _).get? _ = _; rw [Heap.get?_push_size _ rfl, hn]; simp)) F' (fun p hp => ?_) ⟨_, hok⟩ (fun i v o₁ own h tk E' hi hv hS F' N' => ?_) (fun ys o₁ h tk hl hR hB F' N' => ?_)
  · rcases List.mem_cons.mp hp with rfl | hp
    · exact ⟨Nat.ne_of_gt (Nat.lt_trans hID hDC), Nat.ne_of_lt hCk, Nat.ne_of_gt hDC⟩
    · have q := hnews p hp
      exact ⟨Nat.ne_of_lt q, Nat.ne_of_lt (Nat.lt_trans q (Nat.lt_trans hID (Nat.lt_trans hDC hCk))), Nat.ne_of_lt (Nat.lt_trans q hID)⟩
  · rcases List.mem_cons.mp hp with rfl | hp
    · exact N' _ (.head _)
    · rcases List.mem_cons.mp hp with rfl | hp
      · exact N' _ (.tail _ (.tail _ (.head _)))
      · rcases List.mem_cons.mp hp with rfl | hp
        · exact N' _ (.tail _ (.head _))
        · exact N' _ (.tail _ (.tail _ (.tail _ hp)))
  · obtain ⟨_, t, rfl⟩ := hv
    rw [Int.mul_one] at hS
    exact turn i t C oC ck o₁ own h tk E' hi hS F' N'
  · obtain ⟨m', hm'⟩ := (show ∃ m', LCg.NsObj oC m' from ⟨_, hoC⟩)
    refine ⟨rfl, oC, m', h, tk, (D, LCg.lst ys) :: news, rfl, hm', F', fun p hp => ?_, fun p hp => ?_, fun h'' F'' N'' => done ys D h'' tk hl hR (fun p hp => Nat.lt_trans (hnews p hp) hID) F'' N''⟩
    · rcases List.mem_cons.mp hp with rfl | hp
      · exact N' _ (.tail _ (.tail _ (.head _)))
      · rcases List.mem_cons.mp hp with rfl | hp
        · exact N' _ (.tail _ (.head _))
        · exact N' _ (.tail _ (.tail _ (.tail _ hp)))
    · rcases List.mem_cons.mp hp with rfl | hp
      · exact Nat.ne_of_lt hDC
      · exact Nat.ne_of_lt (Nat.lt_trans (hnews p hp) (Nat.lt_trans hID hDC))
/-- a list over a range by ones, its name a local of the block's -/
theorem range_local {elt iter : Expr} {scope : Scope} {pos px : Pos} {x : Str} {cl : List (Str × Addr)} {Q : Value → Shared → Prop} {r : Addr} {a b : Int} {t u v : Tok} {news : List (Addr × Obj)} (n : Nat) (R' : Nat → Value → Prop)
    (hh : A.handled = none) (hr : IsRange s.heap r a b 1 t u v) (hsm : Builtin.Range.small a b 1 = true) (hn : Builtin.Range.rangeSize a b 1 = (n : Int)) (hsz : n ≤ sizeLine) (F : Fr h₀ L s.heap m) (N : News h₀ L s.heap news)
    (hk : scope.kind = .function) (hx : scope.names.lookup x = some .local)
    (turn : ∀ i t C oC m' own h tk (E' : Value → Shared → Prop), i < n → LCg.NsObj oC m' → m' x = some (.int (a + (i : Int)) t) → Fr h₀ L h m → News h₀ L h ((C, oC) :: (news ++ own)) →
      wpAny (model prog w) A (eval elt (compEnvC scope cl C env)) (PairEnd h₀ L m ((C, oC) :: (news ++ own)) (R' i) s) E' { s with heap := h, toks := tk })
    (done : ∀ ys D h tk, ys.length = n → (∀ i y, ys[i]? = some y → R' i y) → (∀ p ∈ news, p.1 < D) → Fr h₀ L h m → News h₀ L h ((D, LCg.lst ys) :: news) → Q (.ref D) { s with heap := h, toks := tk }) :
    wpAny (model prog w) A (pyIter (.ref r)) (fun it s₂ => InAt prog w A h₀ L env (.ListComp elt [⟨.Name x px, iter, [], 0⟩] scope pos) scope cl Q it s₂) E s := by
  refine wpAny_pyIter_range hr hsm ?_
  have hI₀ := next_is_new F
  have hnews : ∀ p ∈ news, p.1 < s.heap.objs.size := fun p hp => Heap.lt_size (N p hp).1
  have hL := F.ns.lt
  refine ⟨m, news, F.push _, fun p hp => ⟨Heap.get?_push_of_some _ (N p hp).1, (N p hp).2⟩, fun D C oC h tk hD hDC hoC F' N' old => ?_⟩
  have hID : @LT.lt Nat _ s.heap.objs.size D := Nat.lt_of_lt_of_le (by show _ < (s.heap.push _).objs.size; rw [Heap.size_push]; exact Nat.lt_succ_self _) hD
  have W : Walks prog w A s.heap.objs.size [s.heap.objs.size] [s.heap.objs.size] n (fun i v => i < n ∧ ∃ t, v = .int (a + i * 1) t)
      (fun i h => IsRangeIter h s.heap.objs.size (a + (i : Nat) * 1) ((n : Int) - (i : Nat)) 1) := (Walks.range hh _ a 1 n).bound
  refine one_core (c₁ := C) (led := news) R' W hsz (fun v o hd => by obtain ⟨m', h1, h2, _⟩ := hd; exact ⟨m', h1, h2⟩) (sets_local [] (lookup_relabel_local hx) (by simp [compEnvC, relabel, hk]) (fun _ h => nomatch h)) (fun q => Nat.ne_of_lt hL (List.mem_singleton.mp q)) hI₀ (fun q => Nat.ne_of_gt (Nat.lt_trans hID hDC) (List.mem_singleton.mp q)) (fun q => Nat.ne_of_gt hID (List.mem_singleton.mp q)) (fun i h hs => ⟨_, hs⟩)
    (fun b hb hne => absurd (List.mem_singleton.mp hb) hne) (Nat.ne_of_lt hDC) (fun p hp => ?_) (old _ _ (by show (s.heap.push _).get? _ = _; rw [Heap.get?_push_size _ rfl, hn]; simp)) F' N' ⟨_, hoC, fun _ h => nomatch h⟩ (fun i v o₁ own h tk E' hi hv hS F' N' => ?_) (fun ys o₁ h tk hl hR hB F' N' => ?_)
  · have q := hnews p hp
    exact ⟨Nat.ne_of_lt q, Nat.ne_of_lt (Nat.lt_trans q (Nat.lt_trans hID hDC)), Nat.ne_of_lt (Nat.lt_trans q hID)⟩
  · obtain ⟨_, t, rfl⟩ := hv
    obtain ⟨m', h1, _, h2⟩ := hS
    rw [Int.mul_one] at h2
    exact turn i t C o₁ m' own h tk E' hi h1 h2 F' N'
  · obtain ⟨m', hm', _⟩ := hB
    refine ⟨rfl, o₁, m', h, tk, (D, LCg.lst ys) :: news, rfl, hm', F', N', fun p hp => ?_, fun h'' F'' N'' => done ys D h'' tk hl hR (fun p hp => Nat.lt_trans (hnews p hp) hID) F'' N''⟩
    rcases List.mem_cons.mp hp with rfl | hp
    · exact Nat.ne_of_lt hDC
    · exact Nat.ne_of_lt (Nat.lt_trans (hnews p hp) (Nat.lt_trans hID hDC))
end
end Mine
namespace Mine
open PySem PySem.W PyProof.Rows PySem.Calls PySem.Spec
theorem strs_snoc {vs : List Value} {ys : List Str} {x : Str} {t : Tok} (h : StrsAre vs ys) : StrsAre (vs ++ [.str x t]) (ys ++ [x]) := by
  induction h with
  | nil => exact .cons _ _ .nil
  | cons y t' _ ih => exact .cons y t' ih
section
variable {prog : Program} {w : World} {A : Around} {E : Value → Shared → Prop} {s : Shared} {env : Env} {h₀ : Heap} {L : Addr} {m : Str → Option Value} {R : Result → Shared → Prop}
theorem flat_succ {α : Type} {f : Nat → List α} (i : Nat) : (List.range (i + 1)).flatMap f = (List.range i).flatMap f ++ f i := by
  rw [List.range_succ, List.flatMap_append]
  simp
theorem take_flat {α β : Type} {f : α → List β} {l : List α} {i : Nat} {a : α} (h : l[i]? = some a) : (l.take (i + 1)).flatMap f = (l.take i).flatMap f ++ f a := by
  simp [List.take_add_one, h]
theorem take_map {α β : Type} {f : α → β} {l : List α} {i : Nat} {a : α} (h : l[i]? = some a) : (l.take (i + 1)).map f = (l.take i).map f ++ [f a] := by
  simp [List.take_add_one, h]
/-- a turn's end, the block's frame and the list told -/
def LEnd (h₀ : Heap) (L : Addr) (m : Str → Option Value) (C D : Addr) (led : List (Addr × Obj)) (ps : List (Str × Value)) (P : List Value → Prop) (s s₂ : Shared) : Prop :=
  ∃ ys h' tk o₁, s₂ = { s with heap := h', toks := tk } ∧ P ys ∧ (∃ m', LCg.NsObj o₁ m' ∧ ∀ p ∈ ps, m' p.1 = some p.2) ∧ Fr h₀ L h' m ∧ News h₀ L h' ((C, o₁) :: (D, LCg.lst ys) :: led)
theorem lvl_gen {elt : Expr} {gens : List Comprehension} {scope : Scope} {pos px p : Pos} {d : Nat} {x : Str} {body : Sem Fin} {I C D : Addr} {o₀ : Obj} {ys₀ : List Value} {fp : List Addr} {n : Nat} {Pv : Nat → Value → Prop} {St : Nat → Heap → Prop} {led : List (Addr × Obj)} (ps : List (Str × Value)) (P : Nat → List Value → Prop)
    (W : Walks prog w A I fp [I] n Pv St) (hC : env.locals = C) (hk : env.kindOf x = some .local) (hpk : (env.scope.kind == .class || (env.scope.kind == .module && env.locals != env.globals)) = false) (hx : ∀ q ∈ ps, q.1 ≠ x)
    (heq : compTurn (.ListComp elt gens scope pos) d (.ref I) (.ref D) env = (standAt p >>= fun _ => pyNext (.ref I) >>= fun r => match r with
      | none => pure (.done .next)
      | some v => letOwnedTupleGo (.Name x px) (.ref I) v >>= fun _ => assign (.Name x px) env v >>= fun _ => body))
    (hLf : L ∉ fp) (hI : h₀.get? I = none) (hcf : C ∉ fp) (hDI : D ≠ I) (hlive : ∀ i h, St i h → ∃ o, h.get? I = some o) (hoth : ∀ b ∈ fp, b ≠ I → ∃ o, (b, o) ∈ led) (hDc : D ≠ C) (hled : ∀ p ∈ led, p.1 ≠ I ∧ p.1 ≠ C)
    (hst : St 0 s.heap) (F : Fr h₀ L s.heap m) (N : News h₀ L s.heap ((C, o₀) :: (D, LCg.lst ys₀) :: led)) (hB : ∃ m', LCg.NsObj o₀ m' ∧ ∀ p ∈ ps, m' p.1 = some p.2) (hp : P 0 ys₀)
    (turn : ∀ i ys v it o₁ m' h tk (E' : Value → Shared → Prop), i < n → Pv i v → P i ys → LCg.NsObj o₁ m' → (∀ p ∈ ps, m' p.1 = some p.2) → m' x = some v → Fr h₀ L h m → News h₀ L h ((C, o₁) :: (D, LCg.lst ys) :: (I, it) :: led) →
      wpAny (model prog w) A body (fun fin s₂ => fin = .again (.compLoop (.ListComp elt gens scope pos) d (.ref I) (.ref D) env) ∧ LEnd h₀ L m C D ((I, it) :: led) ps (P (i + 1)) s s₂) E' { s with heap := h, toks := tk })
    (done : ∀ ys o₁ h tk, P n ys → (∃ m', LCg.NsObj o₁ m' ∧ ∀ p ∈ ps, m' p.1 = some p.2) → Fr h₀ L h m → News h₀ L h ((C, o₁) :: (D, LCg.lst ys) :: led) → R (.ok .next) { s with heap := h, toks := tk }) :
    codeAny (model prog w) A (.compLoop (.ListComp elt gens scope pos) d (.ref I) (.ref D) env) R s := by
  subst hC
  have hC₀ := N _ (.head _)
  refine my_compC (σ := List Value) (px := px) (body := body) (p := p) W (fun ys => (D, LCg.lst ys) :: led) P ys₀ (sets_local ps hk hpk hx) heq hLf hI hcf hC₀.2.2 hC₀.2.1 hlive (fun b hb hne => ?_) (fun p hp => ?_) hst F N hB hp
    (fun i ys v it o₁ h tk E' hi hv hP hS hne F' N' => ?_) (fun ys o₁ h tk hP hB' hne F' N' => done ys o₁ h tk hP hB' F' N')
  · obtain ⟨o, ho⟩ := hoth b hb hne
    exact ⟨o, fun c => .tail _ ho⟩
  · rcases List.mem_cons.mp hp with rfl | hp
    · exact ⟨hDI, hDc⟩
    · exact hled p hp
  · obtain ⟨m', hm', hps, hv0⟩ := hS
    refine wpAny_mono (turn i ys v it o₁ m' h tk E' hi hv hP hm' hps hv0 F' fun p hp => ?_) (fun fin s₄ h₄ => ?_) fun _ _ e => e
    · rcases List.mem_cons.mp hp with rfl | hp
      · exact N' _ (.tail _ (.head _))
      · rcases List.mem_cons.mp hp with rfl | hp
        · exact N' _ (.tail _ (.tail _ (.head _)))
        · rcases List.mem_cons.mp hp with rfl | hp
          · exact N' _ (.head _)
          · exact N' _ (.tail _ (.tail _ (.tail _ hp)))
    · obtain ⟨rfl, ys', h', tk', o', rfl, hP', hB', F'', N''⟩ := h₄
      refine ⟨rfl, ys', h', tk', o', _, rfl, hB', F'', N'', .tail _ (.tail _ (.head _)), .head _, fun p hp => ?_, fun p hp => ?_, hP'⟩
      · rcases List.mem_cons.mp hp with rfl | hp
        · exact .tail _ (.head _)
        · exact .tail _ (.tail _ (.tail _ hp))
      · rcases List.mem_cons.mp hp with rfl | hp
        · exact ⟨hDI, hDc⟩
        · exact hled p hp
/-- a level over a list of the ledger -/
theorem lvl_list {elt iter : Expr} {gens : List Comprehension} {scope : Scope} {pos px p : Pos} {d : Nat} {x : Str} {body : Addr → Sem Fin} {l C D : Addr} {vs : List Value} {k : Nat} {o₀ : Obj} {ys₀ : List Value} {led : List (Addr × Obj)} (ps : List (Str × Value)) (P : Nat → List Value → Prop)
    (hh : A.handled = none) (hC : env.locals = C) (hk : env.kindOf x = some .local) (hpk : (env.scope.kind == .class || (env.scope.kind == .module && env.locals != env.globals)) = false) (hx : ∀ q ∈ ps, q.1 ≠ x)
    (hg : gens[d]? = some ⟨.Name x px, iter, [], 0⟩)
    (heq : ∀ I, compTurn (.ListComp elt gens scope pos) d (.ref I) (.ref D) env = (standAt p >>= fun _ => pyNext (.ref I) >>= fun r => match r with
      | none => pure (.done .next)
      | some v => letOwnedTupleGo (.Name x px) (.ref I) v >>= fun _ => assign (.Name x px) env v >>= fun _ => body I))
    (hl : (l, listOf vs.toArray k) ∈ led) (hDc : D ≠ C) (hled : ∀ p ∈ led, p.1 ≠ C)
    (F : Fr h₀ L s.heap m) (N : News h₀ L s.heap ((C, o₀) :: (D, LCg.lst ys₀) :: led)) (hB : ∃ m', LCg.NsObj o₀ m' ∧ ∀ p ∈ ps, m' p.1 = some p.2) (hp : P 0 ys₀)
    (turn : ∀ I i ys v it o₁ m' h tk (E' : Value → Shared → Prop), I ≠ C → I ≠ D → vs[i]? = some v → P i ys → LCg.NsObj o₁ m' → (∀ p ∈ ps, m' p.1 = some p.2) → m' x = some v → Fr h₀ L h m → News h₀ L h ((C, o₁) :: (D, LCg.lst ys) :: (I, it) :: led) →
      wpAny (model prog w) A (body I) (fun fin s₂ => fin = .again (.compLoop (.ListComp elt gens scope pos) d (.ref I) (.ref D) env) ∧ LEnd h₀ L m C D ((I, it) :: led) ps (P (i + 1)) s s₂) E' { s with heap := h, toks := tk })
    (done : ∀ ys o₁ h tk, P vs.length ys → (∃ m', LCg.NsObj o₁ m' ∧ ∀ p ∈ ps, m' p.1 = some p.2) → Fr h₀ L h m → News h₀ L h ((C, o₁) :: (D, LCg.lst ys) :: led) → R (.ok .next) { s with heap := h, toks := tk }) :
    wpAny (model prog w) A (pyIter (.ref l)) (fun it s₂ => codeAny (model prog w) A (.compStart (.ListComp elt gens scope pos) d it (.ref D) env) R s₂) E s := by
  have hol := (N _ (.tail _ (.tail _ hl))).1
  have hls : s.heap.IsList l vs.toArray := ⟨_, hol, rfl, k, rfl⟩
  have hne : l ≠ s.heap.objs.size := Nat.ne_of_lt (Heap.lt_size hol)
  have W := Walks.list (prog := prog) (w := w) hh s.heap.objs.size l hne vs.toArray
  rw [show vs.toArray.size = vs.length from by simp] at W
  have big : ∀ p ∈ (C, o₀) :: (D, LCg.lst ys₀) :: led, p.1 < s.heap.objs.size := fun p hp => Heap.lt_size (N p hp).1
  have hC₀ := N _ (.head _)
  refine wpAny_pyIter_list hls ?_
  have hst : (s.heap.push { cls := .type "list_iterator", data := .fields #[.ref l, .int 0 0] }).IsListIter s.heap.objs.size l 0 ∧ (s.heap.push { cls := .type "list_iterator", data := .fields #[.ref l, .int 0 0] }).IsList l vs.toArray :=
    ⟨⟨_, Heap.get?_push_size _ rfl, rfl, rfl⟩, hls.at fun o e => Heap.get?_push_of_some _ e⟩
  have loop : codeAny (model prog w) A (.compLoop (.ListComp elt gens scope pos) d (.ref s.heap.objs.size) (.ref D) env) R { s with heap := s.heap.push { cls := .type "list_iterator", data := .fields #[.ref l, .int 0 0] } } := by
    refine lvl_gen ps P W hC hk hpk hx (heq _) (fun q => ?_) (next_is_new F) (fun q => ?_) (Nat.ne_of_lt (big _ (.tail _ (.head _)))) (fun i h hs => ⟨_, hs.1.choose_spec.1⟩) (fun b hb hne => ?_) hDc (fun p hp => ⟨Nat.ne_of_lt (big _ (.tail _ (.tail _ hp))), hled p hp⟩) hst (F.push _)
      (fun p hp => ⟨Heap.get?_push_of_some _ (N p hp).1, (N p hp).2⟩) hB hp (fun i ys v it o₁ m' h tk E' hi hv hP hm hps hv0 F' N' => turn _ i ys v it o₁ m' h tk E' (Nat.ne_of_gt (big _ (.head _))) (Nat.ne_of_gt (big _ (.tail _ (.head _)))) (by simpa using hv) hP hm hps hv0 F' N') done
    · rcases List.mem_cons.mp q with e | q
      · exact absurd F.ns.lt (e ▸ Nat.lt_irrefl _)
      · exact (N _ (.tail _ (.tail _ hl))).2.1 (List.mem_singleton.mp q).symm
    · rcases List.mem_cons.mp q with e | q
      · exact absurd (big _ (.head _)) (e ▸ Nat.lt_irrefl _)
      · exact hled _ hl (List.mem_singleton.mp q).symm
    · rcases List.mem_cons.mp hb with e | hb
      · exact absurd e hne
      · rw [List.mem_singleton.mp hb]; exact ⟨_, hl⟩
  exact comp_start hg loop fun E' => W.self 0 _ _ _ hst loop
theorem flat_len {α β : Type} (l : List α) (g : α → List β) (k : Nat) (h : ∀ a, (g a).length = k) : (l.flatMap g).length = l.length * k := by
  induction l with
  | nil => simp
  | cons a l ih => rw [List.flatMap_cons, List.length_append, ih, h, List.length_cons, Nat.add_mul, Nat.one_mul, Nat.add_comm]
theorem item_str {vs : List Value} {S : List Str} (h : StrsAre vs S) {i : Nat} {v : Value} (hv : vs[i]? = some v) : ∃ a t, v = .str a t ∧ S[i]? = some a := h.item i v hv
/-- the pairs of texts of one place, told so far -/
def pairsT (SA SB : List Str) (f : Str → Str → Str) : List Str := SA.flatMap fun a => SB.map (f a)
/-- three clauses, the second and the third over lists of texts of the ledger that the first one's place tells -/
theorem three_core {elt i0 i1 i2 : Expr} {scope : Scope} {pos p0 p1 p2 : Pos} {x0 x1 x2 : Str} {I C D : Addr} {o₀ : Obj} {fp : List Addr} {n : Nat} {Pv : Nat → Value → Prop} {St : Nat → Heap → Prop} {led : List (Addr × Obj)}
    (aa bb : Nat → Addr) (us ws : Nat → List Value) (ka kb : Nat → Nat) (SA SB : Nat → List Str) (f : Str → Str → Str)
    (W : Walks prog w A I fp [I] n Pv St) (hh : A.handled = none) (hC : env.locals = C)
    (hk0 : env.kindOf x0 = some .local) (hk1 : env.kindOf x1 = some .local) (hk2 : env.kindOf x2 = some .local) (hpk : (env.scope.kind == .class || (env.scope.kind == .module && env.locals != env.globals)) = false) (h01 : x0 ≠ x1) (h02 : x0 ≠ x2) (h12 : x1 ≠ x2)
    (hs1 : ∀ x, foldedSetIterable i1 env x = pure x) (hs2 : ∀ x, foldedSetIterable i2 env x = pure x)
    (hLf : L ∉ fp) (hI : h₀.get? I = none) (hcf : C ∉ fp) (hDI : D ≠ I) (hlive : ∀ i h, St i h → ∃ o, h.get? I = some o) (hoth : ∀ b ∈ fp, b ≠ I → ∃ o, (b, o) ∈ led) (hDc : D ≠ C) (hIC : I ≠ C) (hled : ∀ p ∈ led, p.1 ≠ I ∧ p.1 ≠ C ∧ p.1 ≠ D)
    (hma : ∀ i < n, (aa i, listOf (us i).toArray (ka i)) ∈ led ∧ StrsAre (us i) (SA i)) (hmb : ∀ i < n, (bb i, listOf (ws i).toArray (kb i)) ∈ led ∧ StrsAre (ws i) (SB i))
    (hsz : ∀ i < n, ((List.range i).flatMap fun i => pairsT (SA i) (SB i) f).length + (SA i).length * (SB i).length ≤ sizeLine)
    (hst : St 0 s.heap) (F : Fr h₀ L s.heap m) (N : News h₀ L s.heap ((C, o₀) :: (D, LCg.lst []) :: led)) (hB : ∃ m', LCg.NsObj o₀ m')
    (e1 : ∀ i v oC m' own h tk (E' : Value → Shared → Prop), i < n → Pv i v → LCg.NsObj oC m' → m' x0 = some v → Fr h₀ L h m → News h₀ L h ((C, oC) :: (led ++ own)) → wpAny (model prog w) A (eval i1 env) (PairEnd h₀ L m ((C, oC) :: (led ++ own)) (· = .ref (aa i)) s) E' { s with heap := h, toks := tk })
    (e2 : ∀ i v oC m' own h tk (E' : Value → Shared → Prop), i < n → Pv i v → LCg.NsObj oC m' → m' x0 = some v → Fr h₀ L h m → News h₀ L h ((C, oC) :: (led ++ own)) → wpAny (model prog w) A (eval i2 env) (PairEnd h₀ L m ((C, oC) :: (led ++ own)) (· = .ref (bb i)) s) E' { s with heap := h, toks := tk })
    (e3 : ∀ i a ta b tb oC m' own h tk (E' : Value → Shared → Prop), i < n → a ∈ SA i → b ∈ SB i → LCg.NsObj oC m' → m' x1 = some (.str a ta) → m' x2 = some (.str b tb) → Fr h₀ L h m → News h₀ L h ((C, oC) :: (led ++ own)) →
      wpAny (model prog w) A (eval elt env) (PairEnd h₀ L m ((C, oC) :: (led ++ own)) (fun y => ∃ t, y = .str (f a b) t) s) E' { s with heap := h, toks := tk })
    (done : ∀ ys o₁ h tk, StrsAre ys ((List.range n).flatMap fun i => pairsT (SA i) (SB i) f) → (∃ m', LCg.NsObj o₁ m') → Fr h₀ L h m → News h₀ L h ((C, o₁) :: (D, LCg.lst ys) :: led) → R (.ok .next) { s with heap := h, toks := tk }) :
    codeAny (model prog w) A (.compStart (.ListComp elt [⟨.Name x0 p0, i0, [], 0⟩, ⟨.Name x1 p1, i1, [], 0⟩, ⟨.Name x2 p2, i2, [], 0⟩] scope pos) 0 (.ref I) (.ref D) env) R s := by
  let e : Expr := .ListComp elt [⟨.Name x0 p0, i0, [], 0⟩, ⟨.Name x1 p1, i1, [], 0⟩, ⟨.Name x2 p2, i2, [], 0⟩] scope pos
  have perm : ∀ {h : Heap} {oC : Obj} {ys : List Value} {own : List (Addr × Obj)}, News h₀ L h ((C, oC) :: (D, LCg.lst ys) :: (own ++ led)) → News h₀ L h ((C, oC) :: (led ++ ((D, LCg.lst ys) :: own))) := fun N p hp => by
    rcases List.mem_cons.mp hp with rfl | hp
    · exact N _ (.head _)
    · rcases List.mem_append.mp hp with hp | hp
      · exact N _ (.tail _ (.tail _ (List.mem_append.mpr (.inr hp))))
      · rcases List.mem_cons.mp hp with rfl | hp
        · exact N _ (.tail _ (.head _))
        · exact N _ (.tail _ (.tail _ (List.mem_append.mpr (.inl hp))))
  have back : ∀ {h : Heap} {oC : Obj} {ys : List Value} {own : List (Addr × Obj)}, News h₀ L h ((C, oC) :: (led ++ ((D, LCg.lst ys) :: own))) → News h₀ L h ((C, oC) :: (D, LCg.lst ys) :: (own ++ led)) := fun N p hp => by
    rcases List.mem_cons.mp hp with rfl | hp
    · exact N _ (.head _)
    · rcases List.mem_cons.mp hp with rfl | hp
      · exact N _ (.tail _ (List.mem_append.mpr (.inr (.head _))))
      · rcases List.mem_append.mp hp with hp | hp
        · exact N _ (.tail _ (List.mem_append.mpr (.inr (.tail _ hp))))
        · exact N _ (.tail _ (List.mem_append.mpr (.inl hp)))
  have loop : codeAny (model prog w) A (.compLoop e 0 (.ref I) (.ref D) env) R s := by
    refine lvl_gen (px := p0) (p := i0.pos) (body := nextBody e 0 i1 (.ref D) env (.compLoop e 0 (.ref I) (.ref D) env)) [] (fun i ys => StrsAre ys ((List.range i).flatMap fun i => pairsT (SA i) (SB i) f)) W hC hk0 hpk (fun _ h => nomatch h) rfl hLf hI hcf hDI hlive hoth hDc (fun p hp => ⟨(hled p hp).1, (hled p hp).2.1⟩) hst F N (by obtain ⟨m', h⟩ := hB; exact ⟨m', h, fun _ h => nomatch h⟩) .nil
      (fun i ys v it o₁ m' h tk E' hi hv hP hm' _ hv0 F' N' => ?_) (fun ys o₁ h tk hP hB' F' N' => done ys o₁ h tk hP (by obtain ⟨m', h, _⟩ := hB'; exact ⟨m', h⟩) F' N')
    refine next_body (wpAny_mono (e1 i v o₁ m' _ h tk E' hi hv hm' hv0 F' (perm (own := [(I, it)]) N')) (fun y s₄ h₄ => ?_) fun _ _ e => e) hs1
    obtain ⟨h₄, tk₄, rfl, rfl, F₄, N₄⟩ := h₄
    have N₄ := back N₄
    refine lvl_list (s := { s with heap := h₄, toks := tk₄ }) (px := p1) (p := i1.pos) (body := fun I' => nextBody e 1 i2 (.ref D) env (.compLoop e 1 (.ref I') (.ref D) env)) (led := (I, it) :: led) [(x0, v)] (fun j ys => StrsAre ys (((List.range i).flatMap fun i => pairsT (SA i) (SB i) f) ++ ((SA i).take j).flatMap fun a => (SB i).map (f a))) hh hC hk1 hpk (fun q hq => by rw [List.mem_singleton.mp hq]; exact h01) rfl (fun _ => rfl) (.tail _ (hma i hi).1) hDc (fun p hp => ?_) F₄ N₄ ⟨m', hm', fun q hq => by rw [List.mem_singleton.mp hq]; exact hv0⟩ (by simpa using hP)
      (fun I1 j ys1 v1 it1 o1 m1 h1 tk1 E1 hIC1 hID1 hv1 hP1 hm1 hps1 hx1 F1 N1 => ?_) (fun ys1 o1 h1 tk1 hP1 hB1 F1 N1 => ?_)
    · rcases List.mem_cons.mp hp with rfl | hp
      · exact hIC
      · exact (hled p hp).2.1
    · obtain ⟨a, ta, rfl, ha⟩ := item_str (hma i hi).2 hv1
      have hv01 : m1 x0 = some v := hps1 _ (.head _)
      refine next_body (wpAny_mono (e2 i v o1 m1 _ h1 tk1 E1 hi hv hm1 hv01 F1 (perm (own := [(I1, it1), (I, it)]) N1)) (fun y s₅ h₅ => ?_) fun _ _ e => e) hs2
      obtain ⟨h₅, tk₅, rfl, rfl, F₅, N₅⟩ := h₅
      have N₅ := back N₅
      refine lvl_list (s := { s with heap := h₅, toks := tk₅ }) (px := p2) (p := i2.pos) (body := fun I' => lastBody elt (.ref D) env (.compLoop e 2 (.ref I') (.ref D) env)) (led := (I1, it1) :: (I, it) :: led) [(x1, .str a ta), (x0, v)] (fun k ys => StrsAre ys ((((List.range i).flatMap fun i => pairsT (SA i) (SB i) f) ++ ((SA i).take j).flatMap fun a => (SB i).map (f a)) ++ ((SB i).take k).map (f a))) hh hC hk2 hpk (fun q hq => ?_) rfl (fun _ => rfl) (.tail _ (.tail _ (hmb i hi).1)) hDc (fun p hp => ?_) F₅ N₅ ⟨m1, hm1, fun q hq => ?_⟩ (by simpa using hP1)
        (fun I2 k ys2 v2 it2 o2 m2 h2 tk2 E2 hIC2 hID2 hv2 hP2 hm2 hps2 hx2 F2 N2 => ?_) (fun ys2 o2 h2 tk2 hP2 hB2 F2 N2 => ?_)
      · rcases List.mem_cons.mp hq with rfl | hq
        · exact h12
        · rw [List.mem_singleton.mp hq]; exact h02
      · rcases List.mem_cons.mp hp with rfl | hp
        · exact hIC1
        · rcases List.mem_cons.mp hp with rfl | hp
          · exact hIC
          · exact (hled p hp).2.1
      · rcases List.mem_cons.mp hq with rfl | hq
        · exact hx1
        · rw [List.mem_singleton.mp hq]; exact hv01
      · obtain ⟨b, tb, rfl, hb⟩ := item_str (hmb i hi).2 hv2
        have ham : a ∈ SA i := List.mem_of_getElem? ha
        have hbm : b ∈ SB i := List.mem_of_getElem? hb
        refine last_body (wpAny_mono (e3 i a ta b tb o2 m2 _ h2 tk2 E2 hi ham hbm hm2 (hps2 _ (.head _)) hx2 F2 (perm (own := [(I2, it2), (I1, it1), (I, it)]) N2)) (fun y s₆ h₆ => ?_) fun _ _ e => e)
        obtain ⟨h₆, tk₆, rfl, ⟨ty, rfl⟩, F₆, N₆⟩ := h₆
        have N₆ := back N₆
        have hDD := N₆ _ (.tail _ (.head _))
        refine append_at (hsz := ?_) hDD.1 fun h₇ hs₇ hD₇ => ?_
        · refine ⟨ys2 ++ [.str (f a b) ty], h₇, tk₆, o2, rfl, ?_, ⟨m2, hm2, hps2⟩, F₆.change hs₇ hDD.2.1 hDD.2.2, fun p hp => ?_⟩
          · rw [take_map hb, ← List.append_assoc]
            exact strs_snoc hP2
          · rcases List.mem_cons.mp hp with rfl | hp
            · exact ⟨hs₇.extBut _ _ (Ne.symm hDc) (N₆ _ (.head _)).1, (N₆ _ (.head _)).2⟩
            · rcases List.mem_cons.mp hp with rfl | hp
              · exact ⟨hD₇.trans (congrArg some (LCg.lst_snoc ys2 _)), hDD.2⟩
              · refine ⟨hs₇.extBut _ _ ?_ (N₆ p (.tail _ (.tail _ hp))).1, (N₆ p (.tail _ (.tail _ hp))).2⟩
                rcases List.mem_cons.mp hp with rfl | hp
                · exact hID2
                · rcases List.mem_cons.mp hp with rfl | hp
                  · exact hID1
                  · rcases List.mem_cons.mp hp with rfl | hp
                    · exact Ne.symm hDI
                    · exact (hled p hp).2.2
        · show ys2.toArray.size ≤ sizeLine
          rw [List.size_toArray, hP2.len_eq]
          refine Nat.le_trans ?_ (hsz i hi)
          rw [List.length_append, List.length_append, Nat.add_assoc]
          refine Nat.add_le_add_left ?_ _
          have hj : j < (SA i).length := (List.getElem?_eq_some_iff.mp ha).1
          have l1 : (((SB i).take k).map (f a)).length ≤ (SB i).length := by simp [Nat.min_le_right]
          have l2 : (((SA i).take j).flatMap fun a => (SB i).map (f a)).length = j * (SB i).length := by
            rw [flat_len _ _ (SB i).length (fun a => by simp), List.length_take, Nat.min_eq_left (Nat.le_of_lt hj)]
          have l3 : (j + 1) * (SB i).length ≤ (SA i).length * (SB i).length := Nat.mul_le_mul_right _ hj
          rw [Nat.add_mul, Nat.one_mul] at l3
          omega
      · obtain ⟨m', q1, q2⟩ := hB2
        refine ⟨rfl, ys2, h2, tk2, o2, rfl, ?_, ⟨m', q1, fun q hq => q2 q (.tail _ hq)⟩, F2, N2⟩
        rw [take_flat ha, ← List.append_assoc]
        rw [(hmb i hi).2.len_eq, List.take_length] at hP2
        exact hP2
    · obtain ⟨m', q1, q2⟩ := hB1
      refine ⟨rfl, ys1, h1, tk1, o1, rfl, ?_, ⟨m', q1, fun _ h => nomatch h⟩, F1, N1⟩
      rw [(hma i hi).2.len_eq, List.take_length] at hP1
      rw [flat_succ]
      exact hP1
  exact comp_start (d := 0) rfl loop fun E' => W.self 0 _ _ _ hst loop
theorem my_item {value slice : Expr} {l : Addr} {vs : List Value} {n : Nat} {news : List (Addr × Obj)} {k : Int} {u : Tok} {v : Value} {Q : Value → Shared → Prop} (N : News h₀ L s.heap news) (hm : (l, listOf vs.toArray n) ∈ news) (h0 : 0 ≤ k) (hhi : k < 2 ^ 63) (hx : vs[k.toNat]? = some v) (h : Q v s)
    (hs : subscripted slice false (.ref l) (.int k u) = operate [.ref l, .int k u] (getItem (.ref l) (.int k u))) :
    wpAny (model prog w) A (subscriptTail value slice (.ref l) (.int k u)) Q E s :=
  have hl : s.heap.IsList l vs.toArray := ⟨_, (N _ hm).1, rfl, n, rfl⟩
  tail_any hl.typeIs slot_list_getitem.lookup (wpAny_getItem_list hl h0 hhi (by simpa using hx) h) hs
theorem three_range {elt i0 i1 i2 : Expr} {scope : Scope} {pos p0 p1 p2 : Pos} {x0 x1 x2 : Str} {cl : List (Str × Addr)} {Q : Value → Shared → Prop} {r : Addr} {a b : Int} {t u v : Tok} {news : List (Addr × Obj)} (n : Nat)
    (aa bb : Nat → Addr) (us ws : Nat → List Value) (ka kb : Nat → Nat) (SA SB : Nat → List Str) (f : Str → Str → Str)
    (hh : A.handled = none) (hr : IsRange s.heap r a b 1 t u v) (hsm : Builtin.Range.small a b 1 = true) (hn : Builtin.Range.rangeSize a b 1 = (n : Int)) (F : Fr h₀ L s.heap m) (N : News h₀ L s.heap news) (hk : scope.kind = .function)
    (hx0 : scope.names.lookup x0 = some .local) (hx1 : scope.names.lookup x1 = some .local) (hx2 : scope.names.lookup x2 = some .local) (h01 : x0 ≠ x1) (h02 : x0 ≠ x2) (h12 : x1 ≠ x2)
    (hs1 : ∀ C x, foldedSetIterable i1 (compEnvC scope cl C env) x = pure x) (hs2 : ∀ C x, foldedSetIterable i2 (compEnvC scope cl C env) x = pure x)
    (hma : ∀ i < n, (aa i, listOf (us i).toArray (ka i)) ∈ news ∧ StrsAre (us i) (SA i)) (hmb : ∀ i < n, (bb i, listOf (ws i).toArray (kb i)) ∈ news ∧ StrsAre (ws i) (SB i))
    (hsz : ∀ i < n, ((List.range i).flatMap fun i => pairsT (SA i) (SB i) f).length + (SA i).length * (SB i).length ≤ sizeLine)
    (e1 : ∀ C i t oC m' own h tk (E' : Value → Shared → Prop), i < n → LCg.NsObj oC m' → m' x0 = some (.int (a + (i : Int)) t) → Fr h₀ L h m → News h₀ L h ((C, oC) :: (news ++ own)) → wpAny (model prog w) A (eval i1 (compEnvC scope cl C env)) (PairEnd h₀ L m ((C, oC) :: (news ++ own)) (· = .ref (aa i)) s) E' { s with heap := h, toks := tk })
    (e2 : ∀ C i t oC m' own h tk (E' : Value → Shared → Prop), i < n → LCg.NsObj oC m' → m' x0 = some (.int (a + (i : Int)) t) → Fr h₀ L h m → News h₀ L h ((C, oC) :: (news ++ own)) → wpAny (model prog w) A (eval i2 (compEnvC scope cl C env)) (PairEnd h₀ L m ((C, oC) :: (news ++ own)) (· = .ref (bb i)) s) E' { s with heap := h, toks := tk })
    (e3 : ∀ C i a ta b tb oC m' own h tk (E' : Value → Shared → Prop), i < n → a ∈ SA i → b ∈ SB i → LCg.NsObj oC m' → m' x1 = some (.str a ta) → m' x2 = some (.str b tb) → Fr h₀ L h m → News h₀ L h ((C, oC) :: (news ++ own)) →
      wpAny (model prog w) A (eval elt (compEnvC scope cl C env)) (PairEnd h₀ L m ((C, oC) :: (news ++ own)) (fun y => ∃ t, y = .str (f a b) t) s) E' { s with heap := h, toks := tk })
    (done : ∀ ys D h tk, StrsAre ys ((List.range n).flatMap fun i => pairsT (SA i) (SB i) f) → (∀ p ∈ news, p.1 < D) → Fr h₀ L h m → News h₀ L h ((D, LCg.lst ys) :: news) → Q (.ref D) { s with heap := h, toks := tk }) :
    wpAny (model prog w) A (pyIter (.ref r)) (fun it s₂ => InAt prog w A h₀ L env (.ListComp elt [⟨.Name x0 p0, i0, [], 0⟩, ⟨.Name x1 p1, i1, [], 0⟩, ⟨.Name x2 p2, i2, [], 0⟩] scope pos) scope cl Q it s₂) E s := by
  refine wpAny_pyIter_range hr hsm ?_
  have hI₀ := next_is_new F
  have hnews : ∀ p ∈ news, p.1 < s.heap.objs.size := fun p hp => Heap.lt_size (N p hp).1
  have hL := F.ns.lt
  refine ⟨m, news, F.push _, fun p hp => ⟨Heap.get?_push_of_some _ (N p hp).1, (N p hp).2⟩, fun D C oC h tk hD hDC hoC F' N' old => ?_⟩
  have hID : @LT.lt Nat _ s.heap.objs.size D := Nat.lt_of_lt_of_le (by show _ < (s.heap.push _).objs.size; rw [Heap.size_push]; exact Nat.lt_succ_self _) hD
  have W : Walks prog w A s.heap.objs.size [s.heap.objs.size] [s.heap.objs.size] n (fun i v => i < n ∧ ∃ t, v = .int (a + i * 1) t)
      (fun i h => IsRangeIter h s.heap.objs.size (a + (i : Nat) * 1) ((n : Int) - (i : Nat)) 1) := (Walks.range hh _ a 1 n).bound
  refine three_core aa bb us ws ka kb SA SB f W hh rfl (lookup_relabel_local hx0) (lookup_relabel_local hx1) (lookup_relabel_local hx2) (by simp [compEnvC, relabel, hk]) h01 h02 h12 (hs1 C) (hs2 C) (fun q => Nat.ne_of_lt hL (List.mem_singleton.mp q)) hI₀ (fun q => Nat.ne_of_gt (Nat.lt_trans hID hDC) (List.mem_singleton.mp q)) (Nat.ne_of_gt hID) (fun i h hs => ⟨_, hs⟩)
    (fun b hb hne => absurd (List.mem_singleton.mp hb) hne) (Nat.ne_of_lt hDC) (Nat.ne_of_lt (Nat.lt_trans hID hDC)) (fun p hp => ?_) hma hmb hsz (old _ _ (by show (s.heap.push _).get? _ = _; rw [Heap.get?_push_size _ rfl, hn]; simp)) F' N' ⟨_, hoC⟩ (fun i v oC m' own h tk E' hi hv hC h0 F' N' => ?_) (fun i v oC m' own h tk E' hi hv hC h0 F' N' => ?_) (fun i a ta b tb oC m' own h tk E' => e3 C i a ta b tb oC m' own h tk E') (fun ys o₁ h tk hS hB F' N' => ?_)
  · have q := hnews p hp
    exact ⟨Nat.ne_of_lt q, Nat.ne_of_lt (Nat.lt_trans q (Nat.lt_trans hID hDC)), Nat.ne_of_lt (Nat.lt_trans q hID)⟩
  · obtain ⟨_, t, rfl⟩ := hv
    rw [Int.mul_one] at h0
    exact e1 C i t oC m' own h tk E' hi hC h0 F' N'
  · obtain ⟨_, t, rfl⟩ := hv
    rw [Int.mul_one] at h0
    exact e2 C i t oC m' own h tk E' hi hC h0 F' N'
  · obtain ⟨m', hm'⟩ := hB
    refine ⟨rfl, o₁, m', h, tk, (D, LCg.lst ys) :: news, rfl, hm', F', N', fun p hp => ?_, fun h'' F'' N'' => done ys D h'' tk hS (fun p hp => Nat.lt_trans (hnews p hp) hID) F'' N''⟩
    rcases List.mem_cons.mp hp with rfl | hp
    · exact Nat.ne_of_lt hDC
    · exact Nat.ne_of_lt (Nat.lt_trans (hnews p hp) (Nat.lt_trans hID hDC))
theorem append_news {T : Addr} {us : List Value} {k : Nat} {x : Value} {led : List (Addr × Obj)} {Q : Value → Shared → Prop} (F : Fr h₀ L s.heap m) (N : News h₀ L s.heap ((T, listOf us.toArray k) :: led)) (hoff : ∀ p ∈ led, p.1 ≠ T) (hsz : us.length ≤ sizeLine)
    (h : ∀ h', Fr h₀ L h' m → News h₀ L h' ((T, listOf (us ++ [x]).toArray (k + 1)) :: led) → Q .none { s with heap := h' }) : wpAny (model prog w) A (call (.builtin "list.append") [.ref T, x]) Q E s := by
  have hT := N _ (.head _)
  refine append_at (hsz := ?_) hT.1 fun h' hs hd => h h' (F.change hs hT.2.1 hT.2.2) fun p hp => ?_
  · rcases List.mem_cons.mp hp with rfl | hp
    · exact ⟨by rw [hd, List.push_toArray], hT.2⟩
    · exact ⟨hs.extBut _ _ (hoff p hp) (N p (.tail _ hp)).1, (N p (.tail _ hp)).2⟩
  · show us.toArray.size ≤ sizeLine
    rw [List.size_toArray]
    exact hsz
end
end Mine
namespace Mine
open PySem PySem.W PyProof.Rows PySem.Calls PySem.Spec
section
variable {prog : Program} {w : World} {A : Around} {E : Value → Shared → Prop} {s : Shared} {env : Env} {h₀ : Heap} {target : Expr} {body : List Stmt} {Q : Flow → Shared → Prop}
/-- said of a state behind a step: the tokens have only grown -/
def TokImp (n : Nat) (s : Shared) (P : Prop) : Prop := n ≤ s.toks → P
theorem tok_imp {n : Nat} {s : Shared} {P : Prop} (h : n ≤ s.toks → P) : TokImp n s P := h
theorem tok_of {M : Model} {α : Type} {t : Sem α} {Q : α → Shared → Prop} {E : Value → Shared → Prop} {n : Nat} (hn : n ≤ s.toks) (h : wpAny M A t (fun a s' => TokImp n s' (Q a s')) E s) : wpAny M A t Q E s :=
  wpAny_with_toks hn (wpAny_mono h (fun _ _ x => x) fun _ _ x _ => x)
theorem tok_up {M : Model} {α : Type} {t : Sem α} {Q : α → Shared → Prop} {E : Value → Shared → Prop} {n : Nat} (hn : n ≤ s.toks) (h : wpAny M A t (fun a s' => n ≤ s'.toks → Q a s') E s) : wpAny M A t Q E s :=
  wpAny_with_toks hn (wpAny_mono h (fun _ _ x => x) fun _ _ x _ => x)
/-- the bound of tokens that a turn keeps -/
def TokN (_n : Nat) : Prop := True
theorem tok_n {n : Nat} : TokN n := trivial
theorem execs_N {M : Model} {st : Stmt} {rest : List Stmt} {Q : Flow → Shared → Prop} {n : Nat} (_h : TokN n) (hn : n ≤ s.toks)
    (h : wpAny M A (exec st env) (fun f s' => TokImp n s' (match f with | .next => wpAny M A (execs rest env) Q E s' | f => Q f s')) E s) : wpAny M A (execs (st :: rest) env) Q E s :=
  wpAny_execs_cons (tok_of hn h)
theorem tok_ofN {M : Model} {α : Type} {t : Sem α} {Q : α → Shared → Prop} {E : Value → Shared → Prop} {n : Nat} (_h : TokN n) (hn : n ≤ s.toks) (h : wpAny M A t (fun a s' => TokImp n s' (Q a s')) E s) : wpAny M A t Q E s := tok_of hn h
theorem execs_T {M : Model} {st : Stmt} {rest : List Stmt} {Q : Flow → Shared → Prop} {n : Nat} (hn : n ≤ s.toks)
    (h : wpAny M A (exec st env) (fun f s' => TokImp n s' (match f with | .next => wpAny M A (execs rest env) Q E s' | f => Q f s')) E s) : wpAny M A (execs (st :: rest) env) Q E s :=
  wpAny_execs_cons (tok_of hn h)
theorem postC_toks {σ : Type} {L I : Addr} {it : Obj} {Led : σ → List (Addr × Obj)} {ps : σ → List (Str × Value)} {stored : List Str} {m₀ : Str → Option Value} {P : σ → Prop} {s₁ s₂ : Shared} {f : Flow} {n : Nat}
    (h : PostC h₀ L I it Led ps stored m₀ (fun c _ => P c) s₁ Q f s₂) (ht : n ≤ s₂.toks) : PostC h₀ L I it Led ps stored m₀ (fun c t => P c ∧ n ≤ t) s₁ Q f s₂ := by
  have fin : EndC h₀ L I it Led ps stored m₀ (fun c _ => P c) s₁ s₂ → EndC h₀ L I it Led ps stored m₀ (fun c t => P c ∧ n ≤ t) s₁ s₂ := by
    rintro ⟨c, h', tk, m', news', rfl, F, N, hI, hn, ho, hk, hr, hp⟩
    exact ⟨c, h', tk, m', news', rfl, F, N, hI, hn, ho, hk, hr, hp, ht⟩
  cases f with
  | ret v => exact h
  | brk => exact h
  | next => exact fin h
  | cont => exact fin h
/-- my_seqC, the tokens' growth told -/
theorem my_seqT {σ : Type} {l : Addr} {vs : List Value} {o : Obj} {m₀ : Str → Option Value} (Led : σ → List (Addr × Obj)) (ps : σ → List (Str × Value)) (stored : List Str) (P : Nat → σ → Prop) (c₀ : σ)
    (hh : A.handled = none) (hcls : o.cls = .type "list" ∨ o.cls = .type "tuple") (hdat : ∃ n, o.data = .seq vs.toArray n) (hl : ∀ c : σ, (l, o) ∈ Led c) (F : Fr h₀ env.locals s.heap m₀) (N : News h₀ env.locals s.heap (Led c₀)) (hk : ∀ p ∈ ps c₀, m₀ p.1 = some p.2) (hp : P 0 c₀)
    (turn : ∀ I i (c : σ) v it (u : Str → Option Value) h tk, s.toks ≤ tk → (∀ p ∈ Led c₀, p.1 < I) → i < vs.length → vs[i]? = some v → P i c → (∀ p ∈ Led c, p.1 ≠ I) → Fr h₀ env.locals h (kstB (fun z => if stored.contains z then u z else m₀ z) (ps c)) → News h₀ env.locals h ((I, it) :: Led c) →
      wpAny (model prog w) A (assign target env v) (fun _ s₂ => wpAny (model prog w) A (execs body env) (PostC h₀ env.locals I it Led ps stored m₀ (fun c _ => P (i + 1) c) { s with heap := h, toks := tk } Q) E s₂) E { s with heap := h, toks := tk })
    (done : ∀ (c : σ) (u : Str → Option Value) h tk, s.toks ≤ tk → P vs.length c → Fr h₀ env.locals h (kstB (fun z => if stored.contains z then u z else m₀ z) (ps c)) → News h₀ env.locals h (Led c) → Q .next { s with heap := h, toks := tk })
    (hE : PassesOwn (model prog w) A env E := by passes_own) (ht : ∀ I v, letOwnedTupleGo target (.ref I) v = pure () := by intro _ _; rfl) :
    wpAny (model prog w) A (pyIter (.ref l)) (fun it s₂ => codeAny (model prog w) A (.forLoop target it body [] env) (fun r s' => match r with | .ok f => Q f s' | .error e => cameBackBy (model prog w) A env E e s') s₂) E s := by
  refine my_seqC Led ps stored (fun i c t => P i c ∧ s.toks ≤ t) c₀ (fun i c t t' hle h => ⟨h.1, Nat.le_trans h.2 hle⟩) hh hcls hdat hl F N hk ⟨hp, Nat.le_refl _⟩ (fun I i c v it u h tk hlt hi hv hP hI F' N' => ?_) (fun c u h tk hP F' N' => done c u h tk hP.2 hP.1 F' N') hE ht
  refine tok_up hP.2 (wpAny_mono (turn I i c v it u h tk hP.2 hlt hi hv hP.1 hI F' N') (fun _ s₂ h₂ hn => tok_up hn (wpAny_mono h₂ (fun f s₃ h₃ hn' => postC_toks h₃ hn') fun _ _ e => e)) fun _ _ e => e)
theorem my_get {L : Addr} {l : Addr} {vs : List Value} {n : Nat} {news : List (Addr × Obj)} {k : Int} {u : Tok} {v : Value} {Q : Value → Shared → Prop} (N : News h₀ L s.heap news) (hm : (l, listOf vs.toArray n) ∈ news) (h0 : 0 ≤ k) (hhi : k < 2 ^ 63) (hx : vs[k.toNat]? = some v) (h : Q v s) :
    wpAny (model prog w) A (getItem (.ref l) (.int k u)) Q E s :=
  have hl : s.heap.IsList l vs.toArray := ⟨_, (N _ hm).1, rfl, n, rfl⟩
  wpAny_getItem_list hl h0 hhi (by simpa using hx) h
theorem my_set {L : Addr} {m : Str → Option Value} {D : Addr} {vs : List Value} {n : Nat} {led : List (Addr × Obj)} {k : Int} {t : Tok} {v : Value} {Q : Unit → Shared → Prop} (F : Fr h₀ L s.heap m) (N : News h₀ L s.heap ((D, listOf vs.toArray n) :: led)) (hoff : ∀ p ∈ led, p.1 ≠ D) (h0 : 0 ≤ k) (hfit : k < 2 ^ 63) (hn : k.toNat < vs.length)
    (h : ∀ h', Fr h₀ L h' m → News h₀ L h' ((D, listOf (vs.set k.toNat v).toArray n) :: led) → Q () { s with heap := h' }) :
    wpAny (model prog w) A (setItem (.ref D) (.int k t) v) Q E s := by
  have hD := N _ (.head _)
  refine ki_setAt hD.1 h0 hfit (by rw [List.size_toArray]; omega) ?_
  have hs : Heap.SameBut D s.heap (s.heap.update D (Obj.mapSeq (·.setIfInBounds k.toNat v))) := Heap.SameBut.update ..
  refine h _ (F.change hs hD.2.1 hD.2.2) fun p hp => ?_
  rcases List.mem_cons.mp hp with rfl | hp
  · refine ⟨?_, hD.2⟩
    have e := Heap.get?_update_self (Obj.mapSeq (·.setIfInBounds k.toNat v)) hD.1 rfl
    rw [e]
    show some (Obj.mapSeq (·.setIfInBounds k.toNat v) (W.listOf vs.toArray n)) = some (W.listOf (vs.set k.toNat v).toArray n)
    simp [Obj.mapSeq, W.listOf]
  · exact ⟨hs.extBut _ _ (hoff p hp) (N p (.tail _ hp)).1, (N p (.tail _ hp)).2⟩
end
end Mine
namespace Mine
open PySem PySem.W PyProof.Rows PySem.Calls PySem.Spec
section
variable {prog : Program} {w : World} {A : Around} {E : Value → Shared → Prop} {s : Shared} {env : Env} {h₀ : Heap} {body : List Stmt} {Q : Flow → Shared → Prop}
/-- a turn's end of a loop over enumerate(list) -/
def EndE {σ : Type} (h₀ : Heap) (L I : Addr) (o1 o2 : Obj) (Led : σ → List (Addr × Obj)) (ps : σ → List (Str × Value)) (stored : List Str) (m₀ : Str → Option Value) (P : σ → Prop) (s₁ s₂ : Shared) : Prop :=
  ∃ (c : σ) (h' : Heap) (tk : Nat) (m' : Str → Option Value) (news' : List (Addr × Obj)), s₂ = { s₁ with heap := h', toks := tk } ∧ Fr h₀ L h' m' ∧ News h₀ L h' news' ∧ (I + 1, o2) ∈ news' ∧ (I, o1) ∈ news' ∧ (∀ p ∈ Led c, p ∈ news') ∧ (∀ p ∈ Led c, p.1 < I) ∧
    (∀ p ∈ ps c, m' p.1 = some p.2) ∧ (∀ z, (∀ p ∈ ps c, z ≠ p.1) → stored.contains z = false → m' z = m₀ z) ∧ P c
def PostE {σ : Type} (h₀ : Heap) (L I : Addr) (o1 o2 : Obj) (Led : σ → List (Addr × Obj)) (ps : σ → List (Str × Value)) (stored : List Str) (m₀ : Str → Option Value) (P : σ → Prop) (s₁ : Shared) (Q : Flow → Shared → Prop) (f : Flow) (s₂ : Shared) : Prop :=
  match f with
  | .ret v => Q (.ret v) s₂
  | .brk => Q .next s₂
  | _ => EndE h₀ L I o1 o2 Led ps stored m₀ P s₁ s₂
theorem endE {σ : Type} {L I : Addr} {o1 o2 : Obj} {Led : σ → List (Addr × Obj)} {ps : σ → List (Str × Value)} {stored : List Str} {m₀ m' : Str → Option Value} {P : σ → Prop} {s₁ : Shared} {h' : Heap} {tk : Nat} {news' : List (Addr × Obj)} (c : σ)
    (F : Fr h₀ L h' m') (N : News h₀ L h' news') (h2 : (I + 1, o2) ∈ news') (h1 : (I, o1) ∈ news') (hn : ∀ p ∈ Led c, p ∈ news') (ho : ∀ p ∈ Led c, p.1 < I) (hk : ∀ p ∈ ps c, m' p.1 = some p.2) (hr : ∀ z, (∀ p ∈ ps c, z ≠ p.1) → stored.contains z = false → m' z = m₀ z) (hp : P c) :
    PostE h₀ L I o1 o2 Led ps stored m₀ P s₁ Q .next { s₁ with heap := h', toks := tk } := ⟨c, h', tk, m', news', rfl, F, N, h2, h1, hn, ho, hk, hr, hp⟩
theorem enum_rest {σ : Type} {elts : List Expr} {k : Nat} {pos : Pos} {l I : Addr} {lo : Obj} {vs : List Value} {m₀ : Str → Option Value} (Led : σ → List (Addr × Obj)) (ps : σ → List (Str × Value)) (stored : List Str) (P : Nat → σ → Prop) (hl : ∀ c, (l, lo) ∈ Led c)
    (turn : ∀ i (c : σ) v t T o1 o2 (u : Str → Option Value) h tk, vs[i]? = some v → P i c → (∀ p ∈ Led c, p.1 < I) → IsTup h T #[.int (i : Int) t, v] → Fr h₀ env.locals h (kstB (fun z => if stored.contains z then u z else m₀ z) (ps c)) → News h₀ env.locals h ((I + 1, o2) :: (I, o1) :: Led c) →
      wpAny (model prog w) A (assign (.Tuple elts k pos) env (.ref T)) (fun _ s₂ => wpAny (model prog w) A (execs body env) (PostE h₀ env.locals I o1 o2 Led ps stored m₀ (P (i + 1)) { s with heap := h, toks := tk } Q) E s₂) E { s with heap := h, toks := tk })
    (done : ∀ (c : σ) (u : Str → Option Value) h tk, P vs.length c → Fr h₀ env.locals h (kstB (fun z => if stored.contains z then u z else m₀ z) (ps c)) → News h₀ env.locals h (Led c) → Q .next { s with heap := h, toks := tk }) :
    ∀ (r : List Value) (i : Nat) (c : σ) (m' : Str → Option Value) (news' : List (Addr × Obj)), vs.drop i = r → i ≤ vs.length → P i c → (∀ p ∈ Led c, p.1 < I) → (∀ p ∈ ps c, m' p.1 = some p.2) → (∀ z, (∀ p ∈ ps c, z ≠ p.1) → stored.contains z = false → m' z = m₀ z) → (∀ p ∈ Led c, p ∈ news') →
      ItemsRest prog w A E h₀ env (.Tuple elts k pos) body Q s [(I + 1, "enumerate"), (I, "list_iterator")] [(l, lo)] (enumItems i r) m' news' := by
  intro r
  induction r with
  | nil =>
    intro i c m' news' hr hi hP hI h1 h2 hs
    have e : i = vs.length := by
      have := congrArg List.length hr
      simp at this
      omega
    subst e
    exact ItemsRest.zero fun h tk F N => done c m' h tk hP (ksw_fr h1 h2 F) (news_sub N hs)
  | cons v r ih =>
    intro i c m' news' hr hi hP hI h1 h2 hs
    have hlt : i < vs.length := by
      have := congrArg List.length hr
      simp at this
      omega
    have hv : vs[i]? = some v := by
      have := congrArg List.head? hr
      rw [List.head?_drop] at this
      exact this
    have hr' : vs.drop (i + 1) = r := by
      rw [← List.drop_drop, hr]
      rfl
    refine ItemsRest.pair fun T t h tk ht F => ?_
    refine AllObj.cons fun o2 _ => AllObj.cons fun o1 _ => AllObj.nil fun N => ?_
    refine wpAny_mono (turn i c v t T o1 o2 m' h tk hv hP hI ht (ksw_fr h1 h2 F) fun p hp => N p ?_) (fun _ s₂ hw => wpAny_mono hw (fun f s₃ h₃ => ?_) fun _ _ e => e) fun _ _ e => e
    · rcases List.mem_cons.mp hp with rfl | hp
      · exact .head _
      · rcases List.mem_cons.mp hp with rfl | hp
        · exact .tail _ (.head _)
        · exact .tail _ (.tail _ (hs p hp))
    · have fin : EndE h₀ env.locals I o1 o2 Led ps stored m₀ (P (i + 1)) { s with heap := h, toks := tk } s₃ → UnrEndW h₀ env.locals { s with heap := h, toks := tk } [(I + 1, o2), (I, o1)] (fun m' n' => SubL [(l, lo)] n' ∧ ItemsRest prog w A E h₀ env (.Tuple elts k pos) body Q s [(I + 1, "enumerate"), (I, "list_iterator")] [(l, lo)] (enumItems (i + 1) r) m' n') s₃ := by
        rintro ⟨c', h₄, tk₄, m₄, news₄, rfl, F₄, N₄, q2, q1, hn₄, ho₄, hk₄, hr₄, hp₄⟩
        refine ⟨h₄, tk₄, m₄, Led c', rfl, F₄, fun p hp => N₄ p ?_, fun p hp q hq => ?_, ⟨hl c', trivial⟩, ih (i + 1) c' m₄ (Led c') hr' hlt hp₄ ho₄ hk₄ hr₄ fun p hp => hp⟩
        · rcases List.mem_cons.mp hp with rfl | hp
          · exact q2
          · rcases List.mem_cons.mp hp with rfl | hp
            · exact q1
            · exact hn₄ p hp
        · have h5 := ho₄ p hp
          rcases List.mem_cons.mp hq with rfl | hq
          · exact Nat.ne_of_lt (Nat.lt_succ_of_lt h5)
          · rw [List.mem_singleton.mp hq]
            exact Nat.ne_of_lt h5
      cases f with
      | ret v => exact h₃
      | brk => exact h₃
      | next => exact fin h₃
      | cont => exact fin h₃
theorem my_enum {σ : Type} {elts : List Expr} {k n : Nat} {pos : Pos} {l : Addr} {vs : List Value} {m₀ : Str → Option Value} (Led : σ → List (Addr × Obj)) (ps : σ → List (Str × Value)) (stored : List Str) (P : Nat → σ → Prop) (c₀ : σ)
    (hh : A.handled = none) (hl : ∀ c, (l, listOf vs.toArray n) ∈ Led c) (F : Fr h₀ env.locals s.heap m₀) (N : News h₀ env.locals s.heap (Led c₀)) (hk : ∀ p ∈ ps c₀, m₀ p.1 = some p.2) (hp : P 0 c₀)
    (turn : ∀ I i (c : σ) v t T o1 o2 (u : Str → Option Value) h tk, (∀ p ∈ Led c₀, p.1 < I) → vs[i]? = some v → P i c → (∀ p ∈ Led c, p.1 < I) → IsTup h T #[.int (i : Int) t, v] → Fr h₀ env.locals h (kstB (fun z => if stored.contains z then u z else m₀ z) (ps c)) → News h₀ env.locals h ((I + 1, o2) :: (I, o1) :: Led c) →
      wpAny (model prog w) A (assign (.Tuple elts k pos) env (.ref T)) (fun _ s₂ => wpAny (model prog w) A (execs body env) (PostE h₀ env.locals I o1 o2 Led ps stored m₀ (P (i + 1)) { s with heap := h, toks := tk } Q) E s₂) E { s with heap := h, toks := tk })
    (done : ∀ (c : σ) (u : Str → Option Value) h tk, P vs.length c → Fr h₀ env.locals h (kstB (fun z => if stored.contains z then u z else m₀ z) (ps c)) → News h₀ env.locals h (Led c) → Q .next { s with heap := h, toks := tk }) :
    wpAny (model prog w) A (call (.type "enumerate") [.ref l]) (fun xv s₁ => wpAny (model prog w) A (pyIter xv) (fun it s₂ => TurnsAt prog w A h₀ env (.Tuple elts k pos) body Q E it s₂) E s₁) E s :=
  ktu_enum hh F N (hl c₀) rfl rfl rfl fun I hI => enum_rest Led ps stored P hl (fun i c v t T o1 o2 u h tk => turn I i c v t T o1 o2 u h tk hI) done vs 0 c₀ m₀ (Led c₀) rfl (Nat.zero_le _) hp hI hk (fun _ _ _ => rfl) fun _ hp => hp
theorem list_local {elt iter : Expr} {scope : Scope} {pos px : Pos} {x : Str} {cl : List (Str × Addr)} {Q : Value → Shared → Prop} {L : Addr} {m : Str → Option Value} {l : Addr} {vs : List Value} {k : Nat} {news : List (Addr × Obj)} (R' : Nat → Value → Prop)
    (hh : A.handled = none) (hm : (l, listOf vs.toArray k) ∈ news) (hsz : vs.length ≤ sizeLine) (F : Fr h₀ L s.heap m) (N : News h₀ L s.heap news)
    (hk : scope.kind = .function) (hx : scope.names.lookup x = some .local)
    (turn : ∀ i v C oC m' own h tk (E' : Value → Shared → Prop), vs[i]? = some v → LCg.NsObj oC m' → m' x = some v → Fr h₀ L h m → News h₀ L h ((C, oC) :: (news ++ own)) →
      wpAny (model prog w) A (eval elt (compEnvC scope cl C env)) (PairEnd h₀ L m ((C, oC) :: (news ++ own)) (R' i) s) E' { s with heap := h, toks := tk })
    (done : ∀ ys D h tk, ys.length = vs.length → (∀ i y, ys[i]? = some y → R' i y) → (∀ p ∈ news, p.1 < D) → Fr h₀ L h m → News h₀ L h ((D, LCg.lst ys) :: news) → Q (.ref D) { s with heap := h, toks := tk }) :
    wpAny (model prog w) A (pyIter (.ref l)) (fun it s₂ => InAt prog w A h₀ L env (.ListComp elt [⟨.Name x px, iter, [], 0⟩] scope pos) scope cl Q it s₂) E s := by
  have al := N _ hm
  have hls : s.heap.IsList l vs.toArray := ⟨_, al.1, rfl, k, rfl⟩
  have hll : l < s.heap.objs.size := Heap.lt_size al.1
  have hne : l ≠ s.heap.objs.size := Nat.ne_of_lt hll
  refine wpAny_pyIter_list hls ?_
  have hI₀ := next_is_new F
  have hnews : ∀ p ∈ news, p.1 < s.heap.objs.size := fun p hp => Heap.lt_size (N p hp).1
  have hL := F.ns.lt
  refine ⟨m, news, F.push _, fun p hp => ⟨Heap.get?_push_of_some _ (N p hp).1, (N p hp).2⟩, fun D C oC h tk hD hDC hoC F' N' old => ?_⟩
  have hID : @LT.lt Nat _ s.heap.objs.size D := Nat.lt_of_lt_of_le (by show _ < (s.heap.push _).objs.size; rw [Heap.size_push]; exact Nat.lt_succ_self _) hD
  have W := Walks.list (prog := prog) (w := w) hh s.heap.objs.size l hne vs.toArray
  rw [List.size_toArray] at W
  refine one_core (c₁ := C) (led := news) R' W hsz (fun v o hd => by obtain ⟨m', h1, h2, _⟩ := hd; exact ⟨m', h1, h2⟩) (sets_local [] (lookup_relabel_local hx) (by simp [compEnvC, relabel, hk]) (fun _ h => nomatch h)) (fun q => ?_) hI₀ (fun q => ?_) (fun q => ?_) (fun i h hs => ⟨_, hs.1.choose_spec.1⟩)
    (fun b hb hne => ?_) (Nat.ne_of_lt hDC) (fun p hp => ?_) ⟨?_, hls.at fun o e => old _ _ (Heap.get?_push_of_some _ e)⟩ F' N' ⟨_, hoC, fun _ h => nomatch h⟩ (fun i v o₁ own h tk E' hi hv hS F' N' => ?_) (fun ys o₁ h tk hl hR hB F' N' => ?_)
  · rcases List.mem_cons.mp q with e | q
    · exact Nat.ne_of_lt hL e
    · exact al.2.1 (List.mem_singleton.mp q).symm
  · rcases List.mem_cons.mp q with e | q
    · exact Nat.ne_of_gt (Nat.lt_trans hID hDC) e
    · exact Nat.ne_of_gt (Nat.lt_trans hll (Nat.lt_trans hID hDC)) (List.mem_singleton.mp q)
  · rcases List.mem_cons.mp q with e | q
    · exact Nat.ne_of_gt hID e
    · exact Nat.ne_of_gt (Nat.lt_trans hll hID) (List.mem_singleton.mp q)
  · rcases List.mem_cons.mp hb with e | hb
    · exact absurd e hne
    · rw [List.mem_singleton.mp hb]; exact ⟨_, hm⟩
  · have q := hnews p hp
    exact ⟨Nat.ne_of_lt q, Nat.ne_of_lt (Nat.lt_trans q (Nat.lt_trans hID hDC)), Nat.ne_of_lt (Nat.lt_trans q hID)⟩
  · exact ⟨_, old _ _ (Heap.get?_push_size _ rfl), rfl, rfl⟩
  · obtain ⟨m', h1, _, h2⟩ := hS
    exact turn i v C o₁ m' own h tk E' (by simpa using hv) h1 h2 F' N'
  · obtain ⟨m', hm', _⟩ := hB
    refine ⟨rfl, o₁, m', h, tk, (D, LCg.lst ys) :: news, rfl, hm', F', N', fun p hp => ?_, fun h'' F'' N'' => done ys D h'' tk hl hR (fun p hp => Nat.lt_trans (hnews p hp) hID) F'' N''⟩
    rcases List.mem_cons.mp hp with rfl | hp
    · exact Nat.ne_of_lt hDC
    · exact Nat.ne_of_lt (Nat.lt_trans (hnews p hp) (Nat.lt_trans hID hDC))
end
end Mine
namespace Mine
open PySem PySem.W PyProof.Rows PySem.Calls PySem.Spec
section
variable {prog : Program} {w : World} {A : Around} {E : Value → Shared → Prop} {s : Shared} {env : Env} {h₀ : Heap} {L : Addr} {m : Str → Option Value}
/-- the end of a comprehension's loops where the name is stored before the block goes -/
def CompOutU (h₀ : Heap) (L : Addr) (m : Str → Option Value) (C : Addr) (y : Str) (acc : Value) (s : Shared) (Q : Shared → Prop) (r : Result) (s' : Shared) : Prop :=
  r = .ok .next ∧ ∃ oC m' h' tk' news', s' = { s with heap := h', toks := tk' } ∧ LCg.NsObj oC m' ∧ Fr h₀ L h' m ∧ News h₀ L h' ((C, oC) :: news') ∧ (∀ p ∈ news', p.1 ≠ C) ∧ ∀ h'' tk'', Fr h₀ L h'' (fun z => if z = y then some acc else m z) → News h₀ L h'' news' → Q { s with heap := h'', toks := tk'' }
theorem comp_outU {acc : Value} {C : Addr} {y : Str} {py : Pos} {Q : Shared → Prop} {r : Result} {s' : Shared} (hL : env.locals = L) (hy : env.kindOf y = some .local) (hp : (env.scope.kind == .class || (env.scope.kind == .module && env.locals != env.globals)) = false)
    (h : CompOutU h₀ L m C y acc s Q r s') : compPost (model prog w) A E (some (assign (.Name y py) env)) (fun _ s' => Q s') acc C r s' := by
  subst hL
  obtain ⟨rfl, oC, m', h', tk', news', rfl, hC, F, N, ho, hq⟩ := h
  have nC := N _ (.head _)
  show wpAny _ A (assign (.Name y py) env acc) _ _ _
  refine wpAny_assign_Name (wpAny_storeName_local hy F.ns (fun h₂ hn₂ hs₂ => ?_) hp)
  have hL₀ : h₀.get? env.locals = none := Heap.get?_none_of_le F.above
  have F₂ : Fr h₀ env.locals h₂ (fun z => if z = y then some acc else m z) := ⟨hn₂, fun b o e => hs₂.extBut b o (fun q => by have q' : b = env.locals := q; rw [q', hL₀] at e; cases e) (F.keep b o e), F.above⟩
  refine ⟨m', (hC.ns nC.1).sameBut hs₂ nC.2.1, fun h'' hs'' => hq h'' _ (F₂.change hs'' nC.2.1 nC.2.2) fun p hp => ?_⟩
  have z := N p (.tail _ hp)
  have z2 : h₂.get? p.1 = some p.2 := hs₂.extBut _ _ z.2.1 z.1
  exact ⟨hs''.extBut _ _ (ho p hp) z2, z.2⟩
def InAtU (prog : Program) (w : World) (A : Around) (h₀ : Heap) (L : Addr) (env : Env) (y : Str) (e : Expr) (scope : Scope) (cl : List (Str × Addr)) (Q : Shared → Prop) (it : Value) (s₂ : Shared) : Prop :=
  ∃ m news, Fr h₀ L s₂.heap m ∧ News h₀ L s₂.heap news ∧ ∀ (D C : Addr) oC h tk, @LE.le Nat _ s₂.heap.objs.size D → @LT.lt Nat _ D C → LCg.NsObj oC (fun _ => none) → Fr h₀ L h m → News h₀ L h ((C, oC) :: (D, LCg.lst []) :: news) → (∀ b o, s₂.heap.get? b = some o → h.get? b = some o) →
    codeAny (model prog w) A (.compStart e 0 it (.ref D) (compEnvC scope cl C env)) (CompOutU h₀ L m C y (.ref D) s₂ Q) { s₂ with heap := h, toks := tk }
/-- y = [elt for ..], y a plain name of the frame -/
theorem assign_in {elt target iter : Expr} {ifs : List Expr} {rest : List Comprehension} {scope : Scope} {cl : List (Str × Addr)} {pos spos py : Pos} {y : Str} {Q : Flow → Shared → Prop}
    (F₀ : Fr h₀ L s.heap m) (hLe : env.locals = L) (hsw : swapsWith (.ListComp elt (⟨target, iter, ifs, 0⟩ :: rest) scope pos) (some (.Name y py)) spos.line env = pure true)
    (hclos : closureFor scope env = pure cl) (hcell : ∀ y ∈ scope.names, y.2 ≠ .cell) (hkind : scope.kind = .function) (hnames : ∀ y ∈ scope.names, y.2 = .local → scope.names.lookup y.1 = some .local)
    (hy : env.kindOf y = some .local) (hp : (env.scope.kind == .class || (env.scope.kind == .module && env.locals != env.globals)) = false)
    (h : wpAny (model prog w) A (eval iter env) (fun xv s₁ => wpAny (model prog w) A (pyIter xv) (fun it s₂ => InAtU prog w A h₀ L env y (.ListComp elt (⟨target, iter, ifs, 0⟩ :: rest) scope pos) scope cl (fun s' => Q .next s') it s₂) E s₁) E s)
    (hs : ∀ x, foldedSetIterable iter env x = pure x := by intro _; rfl) :
    wpAny (model prog w) A (exec (.Assign [.Name y py] (.ListComp elt (⟨target, iter, ifs, 0⟩ :: rest) scope pos) spos) env) Q E s := by
  rw [exec_Assign_Name_used _ _ _ _ hsw]
  refine wpAny_bind (wpAny_standAt (wpAny_bind ?_))
  show wpAny _ A (do let _ ← comprehension (.ListComp elt (⟨target, iter, ifs, 0⟩ :: rest) scope pos) scope env _ (newList []) false (eval iter env) (some (assign (.Name y py) env))) _ _ s
  refine wpAny_bind (wpAny_mono (wpAny_comprehension_free (use := some (assign (.Name y py) env)) (Q := fun _ s' => Q .next s') rfl hs hclos hkind hnames
    (wpAny_mono h (fun xv s₁ h₁ => wpAny_mono h₁ (fun it s₂ H => ?_) fun _ _ e => e) fun _ _ e => e)) (fun _ s' hq => wpAny_pure (wpAny_pure hq)) fun _ _ e => e)
  obtain ⟨m, news, F, N, go⟩ := H
  refine wpAny_newObj_type (wpAny_newFunctionEnv hcell (by intro y hy; simp at hy) (fun h₁ hns₁ hsb₁ => ?_) hkind)
  dsimp only at hns₁ hsb₁ ⊢
  obtain ⟨oC, heC, hoC⟩ := LCg.ns_obj hns₁
  have old : ∀ b o, s₂.heap.get? b = some o → h₁.get? b = some o := fun b o e => hsb₁.extBut b o (by
    rw [Heap.size_push]; exact Nat.ne_of_lt (Nat.lt_succ_of_lt (Heap.lt_size e))) (Heap.get?_push_of_some _ (Heap.get?_push_of_some _ e))
  have hD : h₁.get? s₂.heap.objs.size = some (LCg.lst []) := hsb₁.extBut _ _ (by rw [Heap.size_push]; exact Nat.ne_of_lt (Nat.lt_succ_self _)) (Heap.get?_push_of_some _ (Heap.get?_push_size _ rfl))
  have hnew : ∀ b, s₂.heap.objs.size ≤ b → h₀.get? b = none := fun b hb => by
    cases e : h₀.get? b with
    | none => rfl
    | some o' => exact absurd (Heap.lt_size (F.keep b o' e)) (Nat.not_lt.mpr hb)
  have hL := F.ns.lt
  refine codeAny_mono (go s₂.heap.objs.size _ oC h₁ _ (Nat.le_refl _) (by rw [Heap.size_push]; exact Nat.lt_succ_self _) hoC (F.keeps old) (fun p hp => ?_) old) fun r s' hr => comp_outU hLe hy hp hr
  rcases List.mem_cons.mp hp with rfl | hp
  · refine ⟨heC, ?_, hnew _ ?_⟩
    · show _ ≠ L; rw [Heap.size_push]; exact Nat.ne_of_gt (Nat.lt_succ_of_lt hL)
    · show s₂.heap.objs.size ≤ _; rw [Heap.size_push]; exact Nat.le_succ _
  · rcases List.mem_cons.mp hp with rfl | hp
    · exact ⟨hD, Nat.ne_of_gt hL, hnew _ (Nat.le_refl _)⟩
    · exact ⟨old _ _ (N p hp).1, (N p hp).2⟩
theorem list_localU {elt iter : Expr} {scope : Scope} {pos px : Pos} {x y : Str} {cl : List (Str × Addr)} {Q : Shared → Prop} {l : Addr} {vs : List Value} {k : Nat} {news : List (Addr × Obj)} (R' : Nat → Value → Prop)
    (hh : A.handled = none) (hm : (l, listOf vs.toArray k) ∈ news) (hsz : vs.length ≤ sizeLine) (F : Fr h₀ L s.heap m) (N : News h₀ L s.heap news)
    (hk : scope.kind = .function) (hx : scope.names.lookup x = some .local)
    (turn : ∀ i v C oC m' own h tk (E' : Value → Shared → Prop), vs[i]? = some v → LCg.NsObj oC m' → m' x = some v → Fr h₀ L h m → News h₀ L h ((C, oC) :: (news ++ own)) →
      wpAny (model prog w) A (eval elt (compEnvC scope cl C env)) (PairEnd h₀ L m ((C, oC) :: (news ++ own)) (R' i) s) E' { s with heap := h, toks := tk })
    (done : ∀ ys D h tk, ys.length = vs.length → (∀ i y, ys[i]? = some y → R' i y) → (∀ p ∈ news, p.1 < D) → Fr h₀ L h (fun z => if z = y then some (.ref D) else m z) → News h₀ L h ((D, LCg.lst ys) :: news) → Q { s with heap := h, toks := tk }) :
    wpAny (model prog w) A (pyIter (.ref l)) (fun it s₂ => InAtU prog w A h₀ L env y (.ListComp elt [⟨.Name x px, iter, [], 0⟩] scope pos) scope cl Q it s₂) E s := by
  have al := N _ hm
  have hls : s.heap.IsList l vs.toArray := ⟨_, al.1, rfl, k, rfl⟩
  have hll : l < s.heap.objs.size := Heap.lt_size al.1
  have hne : l ≠ s.heap.objs.size := Nat.ne_of_lt hll
  refine wpAny_pyIter_list hls ?_
  have hI₀ := next_is_new F
  have hnews : ∀ p ∈ news, p.1 < s.heap.objs.size := fun p hp => Heap.lt_size (N p hp).1
  have hL := F.ns.lt
  refine ⟨m, news, F.push _, fun p hp => ⟨Heap.get?_push_of_some _ (N p hp).1, (N p hp).2⟩, fun D C oC h tk hD hDC hoC F' N' old => ?_⟩
  have hID : @LT.lt Nat _ s.heap.objs.size D := Nat.lt_of_lt_of_le (by show _ < (s.heap.push _).objs.size; rw [Heap.size_push]; exact Nat.lt_succ_self _) hD
  have W := Walks.list (prog := prog) (w := w) hh s.heap.objs.size l hne vs.toArray
  rw [List.size_toArray] at W
  refine one_core (c₁ := C) (led := news) R' W hsz (fun v o hd => by obtain ⟨m', h1, h2, _⟩ := hd; exact ⟨m', h1, h2⟩) (sets_local [] (lookup_relabel_local hx) (by simp [compEnvC, relabel, hk]) (fun _ h => nomatch h)) (fun q => ?_) hI₀ (fun q => ?_) (fun q => ?_) (fun i h hs => ⟨_, hs.1.choose_spec.1⟩)
    (fun b hb hne => ?_) (Nat.ne_of_lt hDC) (fun p hp => ?_) ⟨?_, hls.at fun o e => old _ _ (Heap.get?_push_of_some _ e)⟩ F' N' ⟨_, hoC, fun _ h => nomatch h⟩ (fun i v o₁ own h tk E' hi hv hS F' N' => ?_) (fun ys o₁ h tk hl hR hB F' N' => ?_)
  · rcases List.mem_cons.mp q with e | q
    · exact Nat.ne_of_lt hL e
    · exact al.2.1 (List.mem_singleton.mp q).symm
  · rcases List.mem_cons.mp q with e | q
    · exact Nat.ne_of_gt (Nat.lt_trans hID hDC) e
    · exact Nat.ne_of_gt (Nat.lt_trans hll (Nat.lt_trans hID hDC)) (List.mem_singleton.mp q)
  · rcases List.mem_cons.mp q with e | q
    · exact Nat.ne_of_gt hID e
    · exact Nat.ne_of_gt (Nat.lt_trans hll hID) (List.mem_singleton.mp q)
  · rcases List.mem_cons.mp hb with e | hb
    · exact absurd e hne
    · rw [List.mem_singleton.mp hb]; exact ⟨_, hm⟩
  · have q := hnews p hp
    exact ⟨Nat.ne_of_lt q, Nat.ne_of_lt (Nat.lt_trans q (Nat.lt_trans hID hDC)), Nat.ne_of_lt (Nat.lt_trans q hID)⟩
  · exact ⟨_, old _ _ (Heap.get?_push_size _ rfl), rfl, rfl⟩
  · obtain ⟨m', h1, _, h2⟩ := hS
    exact turn i v C o₁ m' own h tk E' (by simpa using hv) h1 h2 F' N'
  · obtain ⟨m', hm', _⟩ := hB
    refine ⟨rfl, o₁, m', h, tk, (D, LCg.lst ys) :: news, rfl, hm', F', N', fun p hp => ?_, fun h'' tk'' F'' N'' => done ys D h'' tk'' hl hR (fun p hp => Nat.lt_trans (hnews p hp) hID) F'' N''⟩
    rcases List.mem_cons.mp hp with rfl | hp
    · exact Nat.ne_of_lt hDC
    · exact Nat.ne_of_lt (Nat.lt_trans (hnews p hp) (Nat.lt_trans hID hDC))
end
end Mine
namespace Mine
open PySem PySem.W PyProof.Rows PySem.Calls PySem.Spec
def apN (n : Nat) : List UInt8 := if n = 0 then [] else if n < 16 then [UInt8.ofNat (65 + n)] else [UInt8.ofNat (65 + n / 16), UInt8.ofNat (65 + n % 16)]
def apB (n : Int) : Array UInt8 := (apN n.toNat).toArray
def apI (n : Int) : List Int := W.KBw.bInts (apB n)
structure IsAp (n : Int) (l : List Int) : Prop where
  eq : l = apI n
abbrev AP16 : Array UInt8 := #[65, 66, 67, 68, 69, 70, 71, 72, 73, 74, 75, 76, 77, 78, 79, 80]
theorem ap_all : ∀ n < 256, n = 0 ∨ (apB ((n : Nat) : Int) = apB ((n : Int).fdiv 16) ++ W.KBy.picked AP16 (some ((n : Int).fmod 16)) (some ((n : Int).fmod 16 + 1))) := by decide +kernel
theorem ap_turn {x n : Int} {val : Array UInt8} (hn : n ≠ 0) (h0 : 0 ≤ n) (h1 : n < 256) (e : apB x = apB n ++ val) :
    apB x = apB (n.fdiv 16) ++ (W.KBy.picked AP16 (some (n.fmod 16)) (some (n.fmod 16 + 1)) ++ val) := by
  obtain ⟨k, rfl⟩ := Int.eq_ofNat_of_zero_le h0
  rcases ap_all k (by omega) with h | h
  · exact absurd (by omega) hn
  · rw [e, h, Array.append_assoc]
theorem ap_lo {n : Int} (h0 : 0 ≤ n) : 0 ≤ n.fdiv 16 := by rw [Int.fdiv_eq_ediv_of_nonneg _ (by omega)]; omega
theorem ap_hi {n : Int} (h0 : 0 ≤ n) (h1 : n < 256) : n.fdiv 16 < 256 := by rw [Int.fdiv_eq_ediv_of_nonneg _ (by omega)]; omega
theorem ap_less {n : Int} (h0 : 0 ≤ n) (hn : n ≠ 0) : (n.fdiv 16).toNat < n.toNat := by rw [Int.fdiv_eq_ediv_of_nonneg _ (by omega)]; omega
theorem ap_end {x : Int} {val : Array UInt8} {n : Int} (hn : n = 0) (hx : 0 ≤ x) (e : apB (if x < 0 then -x else x) = apB n ++ val) : val = apB x := by
  subst hn
  rw [if_neg (by omega)] at e
  rw [e]
  simp [apB, apN]
theorem ap_abs {x : Int} (h : 0 ≤ x) : 0 ≤ (if x < 0 then -x else x) := by split <;> omega
theorem ap_abs2 {x : Int} (h : 0 ≤ x) (h2 : x ≤ 255) : (if x < 0 then -x else x) < 256 := by split <;> omega
theorem ap_size {x n : Int} {lo hi : Option Int} {val : Array UInt8} (e : apB x = apB n ++ val) : (W.KBy.picked AP16 lo hi).size + val.size ≤ 16777216 := by
  have h1 : (apB x).size ≤ 2 := by
    simp only [apB, apN, List.size_toArray]
    split <;> (try split) <;> simp
  have h2 : (apB x).size = (apB n).size + val.size := by rw [e, Array.size_append]
  have h3 := W.KBc.size_picked_le AP16 lo hi
  have h4 : AP16.size = 16 := rfl
  omega
local macro_rules | `(tactic| walk_at "binaryOp Add bytes bytes") => `(tactic| (k_here; (with_reducible show wpAny _ _ (binaryOp Operator.Add (Value.bytes _ _) (Value.bytes _ _)) _ _ _); (refine W.KBy.add_bytes (ap_size (by assumption)) ?_); intro _ _))
local macro_rules | `(tactic| walk_at "subscriptTail") => `(tactic| (k_here; (with_reducible show wpAny _ _ (subscriptTail _ (Expr.Slice _ _ none _) (Value.bytes _ _) (Value.ref _)) _ _ _); (with_reducible rename Fr _ _ _ _ => F'); (with_reducible rename News _ _ _ _ => N'); (refine W.KBc.slice_K (ks := [65, 66, 67, 68, 69, 70, 71, 72, 73, 74, 75, 76, 77, 78, 79, 80]) (s := ⟨_, _, _, _, _⟩) F' N' (by decide) (by constructor) (by constructor) (by decide) ?_); intro _ _ _ _ _ kbcK; clear kbcK))
set_option maxRecDepth 100000 in
set_option maxHeartbeats 8000000 in
theorem c_ap : ∀ (w : World) (mean : ExcName → Option Value) (mg mb : Str → Option Value) (dp un : Nat) (gd : Option (List Code)) (cn : Str) (cs : Scope) (a : Addr) (ccd : Value) (cl : List (Str × Addr)) (outer : List Env) (A₀ : Around) (base h₀ : Heap) (L : Addr) (m : Str → Option Value) (news : List (Addr × Obj)) (s : Shared) (Q E : Value → Shared → Prop)
   (x : Int) (t : Tok),
    ∀ (kB : Below A₀ base outer h₀) (kF : Fr h₀ L s.heap m) (kX : (hd.heap_39 w.params).In h₀) (kN : News h₀ L s.heap news) (kT : Top hd.view_39 LW mean mg mb h₀) (kK : cs.kind = .function) (kD : dp + 1 < recursionLimit) (kU : un + 80 < cLine),
    0 ≤ x → x ≤ 255 →
    (∀ b ks t h' tk', W.KBw.bInts b = ks → IsAp x ks → Fr h₀ L h' m → News h₀ L h' news → Q (.bytes b t) { s with heap := h', toks := tk' }) →
    wpAny (model PP.row.prog w) (ktrTop dp un gd cn cs L a ccd cl outer) (call (.ref 94) [.int x t]) Q E s := by
  k_fill
  intro w mean mg mb dp un gd cn cs a ccd cl outer A₀ base h₀ L m news s Q E x t B F X N T hk hd hu h1 h2 hret
  have hMk : KstMark := kstMark
  refine wpAny_call ?_
  k_dflt ktr_enter
  k_with "exec While Name cons nil" => k_while_given ["num!"] (fun x _ num val => 0 ≤ num ∧ num < 256 ∧ apB x = apB num ++ val) (fun x _ num val => num.toNat) "num" "val"
  k_with "state" => first | exact ⟨ap_abs (by assumption), ap_abs2 (by assumption) (by assumption), by simp⟩ | exact ⟨ap_lo (by assumption), ap_hi (by assumption) (by assumption), ap_turn (by assumption) (by assumption) (by assumption) (by assumption)⟩
  k_with "measure" => exact ap_less (by assumption) (by assumption)
  k_steps
  have e := ap_end (by assumption) h1 (by assumption)
  subst e
  exact hret _ _ _ _ _ rfl ⟨rfl⟩ (by assumption) (by assumption)
end Mine
namespace Mine
open PySem PySem.W PyProof.Rows PySem.Calls PySem.Spec
set_option maxRecDepth 100000 in
set_option maxHeartbeats 8000000 in
theorem c_add : ∀ (w : World) (mean : ExcName → Option Value) (mg mb : Str → Option Value) (dp un : Nat) (gd : Option (List Code)) (cn : Str) (cs : Scope) (a : Addr) (ccd : Value) (cl : List (Str × Addr)) (outer : List Env) (A₀ : Around) (base h₀ : Heap) (L : Addr) (m : Str → Option Value) (news : List (Addr × Obj)) (s : Shared) (Q E : Value → Shared → Prop)
   (x y : Int) (t u : Tok),
    ∀ (kB : Below A₀ base outer h₀) (kF : Fr h₀ L s.heap m) (kX : (hd.heap_39 w.params).In h₀) (kN : News h₀ L s.heap news) (kT : Top hd.view_39 LW mean mg mb h₀) (kK : cs.kind = .function) (kD : dp + 1 < recursionLimit) (kU : un + 80 < cLine),
    
    (∀ (t : Tok) h' tk', Fr h₀ L h' m → News h₀ L h' news → Q (.int (x + y) t) { s with heap := h', toks := tk' }) →
    wpAny (model PP.row.prog w) (ktrTop dp un gd cn cs L a ccd cl outer) (call (.ref 101) [.int x t, .int y u]) Q E s := by
  k_fill
  intro w mean mg mb dp un gd cn cs a ccd cl outer A₀ base h₀ L m news s Q E x y t u B F X N T hk hd hu  hret
  have hMk : KstMark := kstMark
  refine wpAny_call ?_
  k_dflt ktr_enter
  k_steps
  exact hret _ _ _ (by assumption) (by assumption)

set_option maxRecDepth 100000 in
set_option maxHeartbeats 8000000 in
theorem c_and : ∀ (w : World) (mean : ExcName → Option Value) (mg mb : Str → Option Value) (dp un : Nat) (gd : Option (List Code)) (cn : Str) (cs : Scope) (a : Addr) (ccd : Value) (cl : List (Str × Addr)) (outer : List Env) (A₀ : Around) (base h₀ : Heap) (L : Addr) (m : Str → Option Value) (news : List (Addr × Obj)) (s : Shared) (Q E : Value → Shared → Prop)
   (x y : Int) (t u : Tok),
    ∀ (kB : Below A₀ base outer h₀) (kF : Fr h₀ L s.heap m) (kX : (hd.heap_39 w.params).In h₀) (kN : News h₀ L s.heap news) (kT : Top hd.view_39 LW mean mg mb h₀) (kK : cs.kind = .function) (kD : dp + 1 < recursionLimit) (kU : un + 80 < cLine),
    
    (∀ (t : Tok) h' tk', Fr h₀ L h' m → News h₀ L h' news → Q (.int (Builtin.bitAnd x y) t) { s with heap := h', toks := tk' }) →
    wpAny (model PP.row.prog w) (ktrTop dp un gd cn cs L a ccd cl outer) (call (.ref 108) [.int x t, .int y u]) Q E s := by
  k_fill
  intro w mean mg mb dp un gd cn cs a ccd cl outer A₀ base h₀ L m news s Q E x y t u B F X N T hk hd hu  hret
  have hMk : KstMark := kstMark
  refine wpAny_call ?_
  k_dflt ktr_enter
  k_steps
  exact hret _ _ _ (by assumption) (by assumption)

set_option maxRecDepth 100000 in
set_option maxHeartbeats 8000000 in
theorem c_mul : ∀ (w : World) (mean : ExcName → Option Value) (mg mb : Str → Option Value) (dp un : Nat) (gd : Option (List Code)) (cn : Str) (cs : Scope) (a : Addr) (ccd : Value) (cl : List (Str × Addr)) (outer : List Env) (A₀ : Around) (base h₀ : Heap) (L : Addr) (m : Str → Option Value) (news : List (Addr × Obj)) (s : Shared) (Q E : Value → Shared → Prop)
   (x y : Int) (t u : Tok),
    ∀ (kB : Below A₀ base outer h₀) (kF : Fr h₀ L s.heap m) (kX : (hd.heap_39 w.params).In h₀) (kN : News h₀ L s.heap news) (kT : Top hd.view_39 LW mean mg mb h₀) (kK : cs.kind = .function) (kD : dp + 1 < recursionLimit) (kU : un + 80 < cLine),
    IntMulOk x y →
    (∀ (t : Tok) h' tk', Fr h₀ L h' m → News h₀ L h' news → Q (.int (x * y) t) { s with heap := h', toks := tk' }) →
    wpAny (model PP.row.prog w) (ktrTop dp un gd cn cs L a ccd cl outer) (call (.ref 115) [.int x t, .int y u]) Q E s := by
  k_fill
  intro w mean mg mb dp un gd cn cs a ccd cl outer A₀ base h₀ L m news s Q E x y t u B F X N T hk hd hu hm hret
  have hMk : KstMark := kstMark
  refine wpAny_call ?_
  k_dflt ktr_enter
  k_steps
  exact hret _ _ _ (by assumption) (by assumption)

set_option maxRecDepth 100000 in
set_option maxHeartbeats 8000000 in
theorem c_rsh : ∀ (w : World) (mean : ExcName → Option Value) (mg mb : Str → Option Value) (dp un : Nat) (gd : Option (List Code)) (cn : Str) (cs : Scope) (a : Addr) (ccd : Value) (cl : List (Str × Addr)) (outer : List Env) (A₀ : Around) (base h₀ : Heap) (L : Addr) (m : Str → Option Value) (news : List (Addr × Obj)) (s : Shared) (Q E : Value → Shared → Prop)
   (x y : Int) (t u : Tok),
    ∀ (kB : Below A₀ base outer h₀) (kF : Fr h₀ L s.heap m) (kX : (hd.heap_39 w.params).In h₀) (kN : News h₀ L s.heap news) (kT : Top hd.view_39 LW mean mg mb h₀) (kK : cs.kind = .function) (kD : dp + 1 < recursionLimit) (kU : un + 80 < cLine),
    0 ≤ y → y ≤ 3 →
    (∀ (t : Tok) h' tk', Fr h₀ L h' m → News h₀ L h' news → Q (.int (x.fdiv (2 ^ y.toNat)) t) { s with heap := h', toks := tk' }) →
    wpAny (model PP.row.prog w) (ktrTop dp un gd cn cs L a ccd cl outer) (call (.ref 122) [.int x t, .int y u]) Q E s := by
  k_fill
  intro w mean mg mb dp un gd cn cs a ccd cl outer A₀ base h₀ L m news s Q E x y t u B F X N T hk hd hu h1 h2 hret
  have hMk : KstMark := kstMark
  refine wpAny_call ?_
  k_dflt ktr_enter
  k_steps
  exact hret _ _ _ (by assumption) (by assumption)

set_option maxRecDepth 100000 in
set_option maxHeartbeats 8000000 in
theorem c_pow : ∀ (w : World) (mean : ExcName → Option Value) (mg mb : Str → Option Value) (dp un : Nat) (gd : Option (List Code)) (cn : Str) (cs : Scope) (a : Addr) (ccd : Value) (cl : List (Str × Addr)) (outer : List Env) (A₀ : Around) (base h₀ : Heap) (L : Addr) (m : Str → Option Value) (news : List (Addr × Obj)) (s : Shared) (Q E : Value → Shared → Prop)
   (x y : Int) (t u : Tok),
    ∀ (kB : Below A₀ base outer h₀) (kF : Fr h₀ L s.heap m) (kX : (hd.heap_39 w.params).In h₀) (kN : News h₀ L s.heap news) (kT : Top hd.view_39 LW mean mg mb h₀) (kK : cs.kind = .function) (kD : dp + 1 < recursionLimit) (kU : un + 80 < cLine),
    -13 ≤ x → x ≤ 13 → 0 ≤ y → y ≤ 8 →
    (∀ (t : Tok) h' tk', Fr h₀ L h' m → News h₀ L h' news → Q (.int (x ^ y.toNat) t) { s with heap := h', toks := tk' }) →
    wpAny (model PP.row.prog w) (ktrTop dp un gd cn cs L a ccd cl outer) (call (.ref 136) [.int x t, .int y u]) Q E s := by
  k_fill
  intro w mean mg mb dp un gd cn cs a ccd cl outer A₀ base h₀ L m news s Q E x y t u B F X N T hk hd hu h1 h2 h3 h4 hret
  have hMk : KstMark := kstMark
  refine wpAny_call ?_
  k_dflt ktr_enter
  k_steps
  exact hret _ _ _ (by assumption) (by assumption)

set_option maxRecDepth 100000 in
set_option maxHeartbeats 8000000 in
theorem c_nt : ∀ (w : World) (mean : ExcName → Option Value) (mg mb : Str → Option Value) (dp un : Nat) (gd : Option (List Code)) (cn : Str) (cs : Scope) (a : Addr) (ccd : Value) (cl : List (Str × Addr)) (outer : List Env) (A₀ : Around) (base h₀ : Heap) (L : Addr) (m : Str → Option Value) (news : List (Addr × Obj)) (s : Shared) (Q E : Value → Shared → Prop)
   (x : Int) (t : Tok),
    ∀ (kB : Below A₀ base outer h₀) (kF : Fr h₀ L s.heap m) (kX : (hd.heap_39 w.params).In h₀) (kN : News h₀ L s.heap news) (kT : Top hd.view_39 LW mean mg mb h₀) (kK : cs.kind = .function) (kD : dp + 1 < recursionLimit) (kU : un + 80 < cLine),
    
    (∀ (t : Tok) h' tk', Fr h₀ L h' m → News h₀ L h' news → Q (.bool (decide (256 ≤ x))) { s with heap := h', toks := tk' }) →
    wpAny (model PP.row.prog w) (ktrTop dp un gd cn cs L a ccd cl outer) (call (.ref 146) [.int x t]) Q E s := by
  k_fill
  intro w mean mg mb dp un gd cn cs a ccd cl outer A₀ base h₀ L m news s Q E x t B F X N T hk hd hu  hret
  have hMk : KstMark := kstMark
  refine wpAny_call ?_
  k_dflt ktr_enter
  k_steps
  exact hret 0 _ _ (by assumption) (by assumption)

set_option maxRecDepth 100000 in
set_option maxHeartbeats 8000000 in
theorem c_eof : ∀ (w : World) (mean : ExcName → Option Value) (mg mb : Str → Option Value) (dp un : Nat) (gd : Option (List Code)) (cn : Str) (cs : Scope) (a : Addr) (ccd : Value) (cl : List (Str × Addr)) (outer : List Env) (A₀ : Around) (base h₀ : Heap) (L : Addr) (m : Str → Option Value) (news : List (Addr × Obj)) (s : Shared) (Q E : Value → Shared → Prop)
   (x : Int) (t : Tok),
    ∀ (kB : Below A₀ base outer h₀) (kF : Fr h₀ L s.heap m) (kX : (hd.heap_39 w.params).In h₀) (kN : News h₀ L s.heap news) (kT : Top hd.view_39 LW mean mg mb h₀) (kK : cs.kind = .function) (kD : dp + 1 < recursionLimit) (kU : un + 80 < cLine),
    
    (∀ (t : Tok) h' tk', Fr h₀ L h' m → News h₀ L h' news → Q (.bool (x == 0)) { s with heap := h', toks := tk' }) →
    wpAny (model PP.row.prog w) (ktrTop dp un gd cn cs L a ccd cl outer) (call (.ref 153) [.int x t]) Q E s := by
  k_fill
  intro w mean mg mb dp un gd cn cs a ccd cl outer A₀ base h₀ L m news s Q E x t B F X N T hk hd hu  hret
  have hMk : KstMark := kstMark
  refine wpAny_call ?_
  k_dflt ktr_enter
  k_steps
  exact hret 0 _ _ (by assumption) (by assumption)

def cntP (b : Int) (l : List Int) : Int := l.foldl (fun n c => if c = b then n + 1 else n) 0
theorem cntP_succ (b : Int) (l : List Int) (i : Nat) (c : Int) (h : l[i]? = some c) : cntP b (l.take (i + 1)) = if c = b then cntP b (l.take i) + 1 else cntP b (l.take i) := by simp [cntP, List.take_add_one, h]
def TokOff (y : Int) (u : Tok) (vs : List Value) : Prop := ∀ n t, Value.int n t ∈ vs → t ≠ 0 ∧ (n = y ∨ t ≠ u)
theorem is_small {M : Model} {A : Around} {E : Value → Shared → Prop} {s : Shared} {n y : Int} {t u : Tok} {Q : Value → Shared → Prop} (h0 : t ≠ 0) (hu : u ≠ 0) (ht : n = y ∨ t ≠ u) (hy : smallInt y = true) (h : Q (.bool (decide (n = y))) s) :
    wpAny M A (compareOp .Is (.int n t) (.int y u)) Q E s := by
  show wpAny M A (isSame (.int n t) (.int y u) >>= fun b => pure (Value.bool b)) Q E s
  refine wpAny_bind ?_
  show wpAny M A (if (n == y && smallInt n) = true then isSame.cachedInt t u else isSame.created (n == y) t u) _ E s
  have hz : (t == 0 || u == 0) = false := by simp [h0, hu]
  by_cases e : n = y
  · subst e
    rw [if_pos (by simp [hy])]
    unfold isSame.cachedInt
    rw [hz]
    simp only [Bool.false_eq_true, if_false]
    refine wpAny_bind (wpAny_rule (wpAny_pure (wpAny_pure ?_)))
    simpa using h
  · have hne : t ≠ u := ht.elim (fun q => absurd q e) id
    have e1 : (n == y) = false := by simpa using e
    rw [if_neg (by simp [e1])]
    unfold isSame.created
    rw [hz, e1]
    have e2 : (t == u) = false := by simpa using hne
    rw [e2]
    simp only [Bool.false_eq_true, if_false, Bool.not_false, if_true]
    refine wpAny_pure (wpAny_pure ?_)
    simpa [e] using h
theorem ints_at {vs : List Value} {ns : List Int} (h : IntsAre vs ns) {i : Nat} {v : Value} (hv : vs[i]? = some v) : ∃ n t, v = .int n t ∧ ns[i]? = some n ∧ Value.int n t ∈ vs := by
  have hi : i < ns.length := by
    have := (List.getElem?_eq_some_iff.mp hv).1
    rw [h.length] at this
    exact this
  obtain ⟨t, ht⟩ := h.get i ns[i] (by simp [hi])
  rw [ht] at hv
  exact ⟨ns[i], t, (Option.some.inj hv).symm, by simp [hi], List.mem_of_getElem? ht⟩
local macro_rules | `(tactic| walk_at "exec For Name Name cons nil") => `(tactic| (k_here; (rename Fr _ _ _ _ => lF'); (with_unfolding_all refine' For_invVF lF' ?k1 ?k2 ?_; (case k1 => exact rfl); (case k2 => exact rfl); k_whole)))
local macro_rules | `(tactic| walk_at "pyIter ref") => `(tactic| refine pause ?_)
local macro_rules | `(tactic| walk_at "compareOp Is int int") => `(tactic| (refine is_small ?a ?b ?c ?d ?_; (case a => assumption); (case b => assumption); (case c => assumption); (case d => assumption)))
set_option maxRecDepth 100000 in
set_option maxHeartbeats 8000000 in
theorem c_cnt : ∀ (w : World) (mean : ExcName → Option Value) (mg mb : Str → Option Value) (dp un : Nat) (gd : Option (List Code)) (cn : Str) (cs : Scope) (a : Addr) (ccd : Value) (cl : List (Str × Addr)) (outer : List Env) (A₀ : Around) (base h₀ : Heap) (L : Addr) (m : Str → Option Value) (news : List (Addr × Obj)) (s : Shared) (Q E : Value → Shared → Prop)
   (l : Addr) (vs : List Value) (ns : List Int) (nn : Nat) (y : Int) (u : Tok),
    ∀ (kB : Below A₀ base outer h₀) (kF : Fr h₀ L s.heap m) (kX : (hd.heap_39 w.params).In h₀) (kN : News h₀ L s.heap news) (kT : Top hd.view_39 LW mean mg mb h₀) (kK : cs.kind = .function) (kD : dp + 1 < recursionLimit) (kU : un + 80 < cLine),
    (l, listOf vs.toArray nn) ∈ news → IntsAre vs ns → TokOff y u vs → u ≠ 0 → smallInt y = true →
    (∀ (t : Tok) h' tk', Fr h₀ L h' m → News h₀ L h' news → Q (.int (cntP y ns) t) { s with heap := h', toks := tk' }) →
    wpAny (model PP.row.prog w) (ktrTop dp un gd cn cs L a ccd cl outer) (call (.ref 129) [.ref l, .int y u]) Q E s := by
  k_fill
  intro w mean mg mb dp un gd cn cs a ccd cl outer A₀ base h₀ L m news s Q E l vs ns nn y u B F X N T hk hd hu h1 h2 hto hu0 hsm hret
  have hMk : KstMark := kstMark
  refine wpAny_call ?_
  k_dflt ktr_enter
  k_steps
  refine resume ?_
  rename Fr _ _ _ _ => F2
  rename News _ _ _ _ => N2
  refine my_seq (σ := Int × Tok) (fun c => news) (fun c => [(Str.ofString "count", .int c.1 c.2)]) (fun _ => True) [] (fun q c => c.1 = cntP y (ns.take q.length)) (0, _) rfl (.inl rfl) ⟨nn, rfl⟩ (fun _ => h1) F2 N2 trivial (fun p h => by rw [List.mem_singleton.mp h]; rfl) rfl ?turn ?done
  case turn =>
    intro c q kk v u2 hp9 tk2 own2 hkk hv hoff2 _ hp2 F3 N3
    obtain ⟨cn, ct⟩ := c
    obtain ⟨n, t, rfl, hn, hmem⟩ := ints_at h2 hv
    have ht0 := (hto n t hmem).1
    have htu := (hto n t hmem).2
    clear F2 N2
    (try dsimp only [kstB] at *)
    k_steps
    all_goals (refine kst_end (_, _) (by assumption) (by assumption) (fun p h => List.mem_append.mpr (.inl h)) (fun p h => List.mem_append.mpr (.inr h)) rfl trivial (by kst_all) (by kst_same) ?_)
    all_goals (have e9 := cntP_succ y ns q.length n hn; simp only [List.length_append, List.length_cons, List.length_nil, Nat.zero_add]; rw [e9, ← hp2])
    all_goals (first | exact (if_pos (by assumption)).symm | exact (if_neg (by assumption)).symm)
  case done =>
    intro c q u2 hp9 tk2 hlen2 _ hp2 F3 N3
    obtain ⟨cn, ct⟩ := c
    clear F2 N2
    (try dsimp only [kstB] at *)
    k_steps
    have e : cn = cntP y ns := by rw [hp2, hlen2, h2.length, List.take_length]
    subst e
    exact hret _ _ _ (by assumption) (by assumption)

end Mine
namespace Mine
open PySem PySem.W PyProof.Rows PySem.Calls PySem.Spec
local macro_rules | `(tactic| walk_at "pyIter ref") => `(tactic| refine pause ?_)
local macro_rules | `(tactic| walk_at "pyIter str") => `(tactic| refine pause ?_)
local macro_rules | `(tactic| walk_at "pyIter bytes") => `(tactic| refine pause ?_)
local macro_rules | `(tactic| walk_at "InvEndN") => `(tactic| refine pause ?_)
local macro_rules | `(tactic| walk_at "KswEnd") => `(tactic| refine pause ?_)
local macro_rules | `(tactic| walk_at "exec While Compare cons nil") => `(tactic| refine pause ?_)
local macro_rules | `(tactic| walk_at "exec While BoolOp cons nil") => `(tactic| refine pause ?_)
local macro_rules | `(tactic| walk_at "exec While Name cons nil") => `(tactic| refine pause ?_)
local macro_rules | `(tactic| walk_at "ka") => `(tactic| (first | assumption | omega))
local macro_rules | `(tactic| walk_at "k8") => `(tactic| ((iterate 5 (next => k_asm)); (next => first | exact rfl | assumption); (next => ktr_room); (next => ktr_units)))
local macro_rules | `(tactic| walk_at "k9") => `(tactic| (intros; (try dsimp only); (try k_fold)))
local macro_rules | `(tactic| walk_at "k7") => `(tactic| (intros; (rename (∀ p ∈ _, _) => a9); (have a8 := allLt_in a9); (simp only [AllLt, and_true] at a8); clear a9; (try dsimp only); (try k_fold)))
local macro_rules | `(tactic| walk_at "kc0") => `(tactic| (k_here; (rename Fr _ _ _ _ => lF'); (with_unfolding_all refine' For_invVF lF' ?k1 ?k2 ?_; (case k1 => exact rfl); (case k2 => exact rfl); k_whole)))
local macro_rules | `(tactic| walk_at "kc1") => `(tactic| (k_here; (refine wpAny_AugAssign_SubscriptAny ?_ (fun _ _ _ => rfl))))
local macro_rules | `(tactic| walk_at "kc2") => `(tactic| (k_here; (with_reducible show wpAny _ _ (setItem (Value.ref _) (Value.int _ _) (Value.int _ _)) _ _ _); k_dflt (refine' ksa_set ?k1 ?k2 ?k3 ?k4 ?k5 ?k6 ?k7 ?_; (case k1 => k_asm); (case k2 => k_asm); (case k3 => k_upd); (case k4 => with_reducible assumption); (case k5 => ksa_idx); (case k6 => ksa_idx); (case k7 => ksa_idx); k_whole); intro h' F' N' hi' hl' hs'; (try k_sweep)))
local macro_rules | `(tactic| walk_at "kc3") => `(tactic| (k_here; (with_reducible show wpAny _ _ (compareOp CmpOp.NotEq (Value.ref _) (Value.ref _)) _ _ _); (with_unfolding_all refine' ne_intsK ?k1 ?k2 ?k3 ?k4 ?k5 ?_; (case k1 => is_list); (case k2 => l_intsC); (case k3 => is_list); (case k4 => l_intsC); (case k5 => ktr_units); k_whole); (try simp only [filter_tt])))
local macro_rules | `(tactic| walk_at "kc4") => `(tactic| (k_here; (with_unfolding_all refine wpAny_For ?_); k_whole))
local macro_rules | `(tactic| walk_at "kc5") => `(tactic| (k_here; (with_reducible show wpAny _ _ (eval (PySem.Expr.Name _ _) (compEnvC _ _ _ _)) _ _ _); k_dflt (refine' lcf_cell ?zN ?zc ?zm ?zd ?_ ?za ?zb; (case za => rfl); (case zb => rfl); (case zN => k_asm); (case zc => rfl); (case zm => k_mem); (case zd => k_asm); k_whole)))
local macro_rules | `(tactic| walk_at "kc6") => `(tactic| (k_here; (with_reducible show wpAny _ _ (subscriptTail _ _ (Value.ref _) (Value.int _ _)) _ _ _); k_dflt (refine' ksa_sub ?k1 ?k2 ?k3 ?k4 ?k5 ?k6 ?_ ?k7; (case k1 => k_asm); (case k2 => k_mem); (case k3 => with_reducible assumption); (case k4 => walk_at "ka"); (case k5 => walk_at "ka"); (case k6 => walk_at "ka"); (case k7 => with_unfolding_all rfl); k_whole); intro _))
section
local macro_rules | `(tactic| walk_at "exec For Name Call cons nil") => `(tactic| walk_at "kc0")
local macro_rules | `(tactic| walk_at "exec AugAssign Subscript") => `(tactic| walk_at "kc1")
local macro_rules | `(tactic| walk_at "setItem ref int") => `(tactic| walk_at "kc2")
def timesRow (as bs : List Int) (i : Nat) (made : List Int) (j : Nat) : List Int := made.set (i + j + 1) (made.getD (i + j + 1) 0 + as.getD i 0 * bs.getD j 0)
def timesIn (as bs : List Int) (made : List Int) (i : Nat) (m : Nat) : List Int := (List.range m).foldl (timesRow as bs i) made
def timesOut (as bs : List Int) (m : Nat) : List Int := (List.range m).foldl (fun made i => timesIn as bs made i (as.length - 1 - i)) (List.replicate as.length 0)
def timesP (as bs : List Int) : List Int := timesOut as bs as.length
theorem timesIn_len (as bs : List Int) (made : List Int) (i m : Nat) : (timesIn as bs made i m).length = made.length := by
  induction m with
  | zero => rfl
  | succ m ih => unfold timesIn at *; rw [List.range_succ, List.foldl_append]; simp [timesRow, ih]
theorem timesIn_succ (as bs : List Int) (made : List Int) (i m : Nat) : timesIn as bs made i (m + 1) = timesRow as bs i (timesIn as bs made i m) m := by
  unfold timesIn
  rw [List.range_succ, List.foldl_append]
  rfl
theorem timesOut_succ (as bs : List Int) (m : Nat) : timesOut as bs (m + 1) = timesIn as bs (timesOut as bs m) m (as.length - 1 - m) := by
  unfold timesOut
  rw [List.range_succ, List.foldl_append]
  rfl
theorem timesOut_len (as bs : List Int) (m : Nat) : (timesOut as bs m).length = as.length := by
  induction m with
  | zero => simp [timesOut]
  | succ m ih => rw [timesOut_succ, timesIn_len, ih]
theorem getD_mem {l : List Int} {i : Nat} (h : i < l.length) : l.getD i 0 ∈ l := by
  simp [List.getD_eq_getElem?_getD, h]
theorem timesIn_step {as bs made cur : List Int} {i j : Int} {q : List Int} {k : Int} (hi : 0 ≤ i) (hj : 0 ≤ j) (hp : cur = timesIn as bs made i.toNat q.length) (hk : j = 0 + (q.length : Int)) :
    cur.set (i + j + 1).toNat (cur.getD (i + j + 1).toNat 0 + as.getD i.toNat 0 * bs.getD j.toNat 0) = timesIn as bs made i.toNat (q ++ [k]).length := by
  have e1 : (i + j + 1).toNat = i.toNat + q.length + 1 := by omega
  have e2 : j.toNat = q.length := by omega
  rw [List.length_append, List.length_cons, List.length_nil, timesIn_succ, ← hp, e1, e2]
  rfl
theorem timesOut_step {as bs made cur : List Int} {i : Int} {pre : List Int} {n : Nat} {k : Int} (hi : i = 0 + (pre.length : Int)) (hp : made = timesOut as bs pre.length) (hq : cur = timesIn as bs made i.toNat n) (hn : n = as.length - 1 - pre.length := by simp [rangeKs_length]; omega) :
    cur = timesOut as bs (pre ++ [k]).length := by
  have e : i.toNat = pre.length := by omega
  rw [List.length_append, List.length_cons, List.length_nil, timesOut_succ, ← hp, ← hn, ← e]
  exact hq
theorem rep_flat {as bs : List Int} (n : Int) (h : n = (as.length : Int) := by rfl) : (List.replicate n.toNat [(0 : Int)]).flatten = timesOut as bs ([] : List Int).length := by
  subst h
  simp [timesOut]
set_option maxRecDepth 100000 in
set_option maxHeartbeats 8000000 in
theorem c_times : ∀ (w : World) (mean : ExcName → Option Value) (mg mb : Str → Option Value) (dp un : Nat) (gd : Option (List Code)) (cn : Str) (cs : Scope) (a : Addr) (ccd : Value) (cl : List (Str × Addr)) (outer : List Env) (A₀ : Around) (base h₀ : Heap) (L : Addr) (m : Str → Option Value) (news : List (Addr × Obj)) (s : Shared) (Q E : Value → Shared → Prop)
   (l1 l2 : Addr) (vs1 vs2 : List Value) (as bs : List Int) (n1 n2 : Nat),
    ∀ (kB : Below A₀ base outer h₀) (kF : Fr h₀ L s.heap m) (kX : (hd.heap_39 w.params).In h₀) (kN : News h₀ L s.heap news) (kT : Top hd.view_39 LW mean mg mb h₀) (kK : cs.kind = .function) (kD : dp + 1 < recursionLimit) (kU : un + 80 < cLine),
    (l1, listOf vs1.toArray n1) ∈ news → (l2, listOf vs2.toArray n2) ∈ news → IntsAre vs1 as → IntsAre vs2 bs → as.length = bs.length → as.length ≤ 8 → (∀ a ∈ as, ∀ b ∈ bs, IntMulOk a b) →
    (∀ q vs k ns h' tk', IntsAre vs ns → ns = timesP as bs → (∀ p ∈ news, p.1 < q) → Fr h₀ L h' m → News h₀ L h' ((q, listOf vs.toArray k) :: news) → Q (.ref q) { s with heap := h', toks := tk' }) →
    wpAny (model PP.row.prog w) (ktrTop dp un gd cn cs L a ccd cl outer) (call (.ref 196) [.ref l1, .ref l2]) Q E s := by
  k_fill
  intro w mean mg mb dp un gd cn cs a ccd cl outer A₀ base h₀ L m news s Q E l1 l2 vs1 vs2 as bs n1 n2 B F X N T hk hd hu m1 m2 i1 i2 hlen hle hmul hret
  have hMk : KstMark := kstMark
  have hl1 : vs1.length = as.length := i1.length
  have hl2 : vs2.length = bs.length := i2.length
  replace N := news_cons m1 N (news_cons m2 N N)
  refine wpAny_call ?_
  k_dflt ktr_enter
  k_steps
  refine resume ?_
  rename Fr _ _ _ _ => F2
  rename News _ _ _ _ => N2
  rename IsRange _ _ _ _ _ _ _ _ => R2
  rename IntsAre (List.replicate _ _).flatten _ => i3
  refine kst_range (σ := List Int × List Value × Nat) (fun c => (_, listOf c.2.1.toArray c.2.2) :: _) (fun _ => []) (fun c => IntsAre c.2.1 c.1) [Str.ofString "j"] (fun pre c => c.1 = timesOut as bs pre.length) (_, _, _) rfl R2 (small_one (by omega) (by omega) (by omega) (by omega)) (rangeSize_nat _ _) F2 N2 i3 (fun _ h => nomatch h) (rep_flat _) ?turn ?done
  case turn =>
    intro c pre i ti u h tk own hi hlt hoff hf hp F1 N1
    obtain ⟨made, us, kk⟩ := c
    clear F2 N2
    (try dsimp only [kstB] at *)
    (try simp only [List.map_cons, List.map_nil, List.map_append] at hoff)
    (try simp only [List.cons_append, List.nil_append, List.append_assoc] at N1)
    have hml : made.length = as.length := by rw [hp]; exact timesOut_len _ _ _
    have hul : us.length = as.length := by rw [hf.length]; exact hml
    have hi0 : 0 ≤ i := by omega
    have hin : i < (as.length : Int) := by omega
    k_steps
    refine resume ?_
    rename Fr _ _ _ _ => F2
    rename News _ _ _ _ => N2
    rename IsRange _ _ _ _ _ _ _ _ => R2
    refine kst_range (σ := List Int × List Value × Nat) (fun c => (_, listOf c.2.1.toArray c.2.2) :: _) (fun _ => []) (fun c => IntsAre c.2.1 c.1) [] (fun q c => c.1 = timesIn as bs made i.toNat q.length) (made, us, kk) rfl R2 (small_one (by omega) (by omega) (by omega) (by omega)) (rangeSize_nat _ _) F2 N2 hf (fun _ h => nomatch h) rfl ?turn2 ?done2
    case turn2 =>
      intro c2 q j tj u2 h2 tk2 own2 hj hlt2 hoff2 hf2 hp2 F3 N3
      obtain ⟨cur, us2, k2⟩ := c2
      clear F2 N2
      (try dsimp only [kstB] at *)
      (try simp only [List.map_cons, List.map_nil, List.map_append] at hoff2)
      (try simp only [List.cons_append, List.nil_append, List.append_assoc] at N3)
      have hml2 : cur.length = as.length := by rw [hp2, timesIn_len]; exact hml
      have hul2 : us2.length = as.length := by rw [hf2.length]; exact hml2
      have hj0 : 0 ≤ j := by omega
      have hjn : i + j + 1 < (as.length : Int) := by omega
      have hmm : IntMulOk (as.getD i.toNat 0) (bs.getD j.toNat 0) := hmul _ (getD_mem (by omega)) _ (getD_mem (by omega))
      k_steps
      refine resume ?_
      (rename News _ _ _ _ => nE); (try simp only [List.push_toArray] at nE); refine (kst_end (_, _, _) (by assumption) nE (by first | kst_in | kst_inAny) (by first | (intro p hp; kst_mem) | kst_anyIn) (by rfl) (by first | assumption | l_ints) (by kst_all) (by kst_same) (timesIn_step hi0 hj0 hp2 hj))
    case done2 =>
      intro c2 u2 h2 tk2 hf2 hp2 F3 N3
      obtain ⟨cur, us2, k2⟩ := c2
      clear F2 N2
      (try dsimp only [kstB] at *)
      (try simp only [List.cons_append, List.nil_append, List.append_assoc] at N3)
      k_steps
      refine resume ?_
      (rename News _ _ _ _ => nE); (try simp only [List.push_toArray] at nE); refine (kst_end (_, _, _) (by assumption) nE (by first | kst_in | kst_inAny) (by first | (intro p hp; kst_mem) | kst_anyIn) (by rfl) hf2 (by kst_all) (by kst_same) (timesOut_step hi hp hp2))
  case done =>
    intro c u h tk hf hp F1 N1
    obtain ⟨made, us, kk⟩ := c
    clear F2 N2
    (try dsimp only [kstB] at *)
    k_steps
    rename _ ∧ _ ∧ _ ∧ AllLt _ _ => l4
    rename News h₀ L _ _ => kN
    exact hret _ _ _ _ _ _ hf (by rw [hp, rangeKs_length]; simp [timesP]) (allLt_out l4.2.2.2) (by assumption) (news_sub kN sub4)

end
section
def Bnd (e : Nat) (l : List Int) : Prop := ∀ x ∈ l, x.natAbs ≤ 2 ^ e
def unitL (n : Nat) : List Int := 1 :: List.replicate (n - 1) 0
def restP (rs : List Int) (k : Nat) (rest power : List Int) : List Int := (rest.zip power).map fun p => p.1 - rs.getD k 0 * p.2
def invIn (rs told : List Int) (j : Nat) : List Int × List Int := (List.range j).foldl (fun c j => (timesP c.1 told, restP rs (j + 1) c.2 (timesP c.1 told))) (told, unitL rs.length)
def invOut (rs : List Int) (i : Nat) : List Int := (List.range i).foldl (fun told _ => (invIn rs told (rs.length - 1)).2) (unitL rs.length)
def invP (rs : List Int) : List Int := invOut rs (rs.length - 1)
theorem timesP_len (as bs : List Int) : (timesP as bs).length = as.length := timesOut_len _ _ _
theorem restP_len (rs : List Int) (k : Nat) (rest power : List Int) : (restP rs k rest power).length = min rest.length power.length := by simp [restP]
theorem invIn_succ (rs told : List Int) (j : Nat) : invIn rs told (j + 1) = (timesP (invIn rs told j).1 told, restP rs (j + 1) (invIn rs told j).2 (timesP (invIn rs told j).1 told)) := by
  unfold invIn
  rw [List.range_succ, List.foldl_append]
  rfl
theorem invOut_succ (rs : List Int) (i : Nat) : invOut rs (i + 1) = (invIn rs (invOut rs i) (rs.length - 1)).2 := by
  unfold invOut
  rw [List.range_succ, List.foldl_append]
  rfl
theorem unitL_len {n : Nat} (h : 1 ≤ n) : (unitL n).length = n := by simp [unitL]; omega
theorem invIn_len {rs told : List Int} (h : 1 ≤ rs.length) (ht : told.length = rs.length) : ∀ j, (invIn rs told j).1.length = rs.length ∧ (invIn rs told j).2.length = rs.length
  | 0 => ⟨ht, unitL_len h⟩
  | j + 1 => by
    have ih := invIn_len h ht j
    rw [invIn_succ]
    refine ⟨by rw [timesP_len]; exact ih.1, ?_⟩
    simp only [restP_len, timesP_len, ih.1, ih.2, Nat.min_self]
theorem invOut_len {rs : List Int} (h : 1 ≤ rs.length) : ∀ i, (invOut rs i).length = rs.length
  | 0 => unitL_len h
  | i + 1 => by rw [invOut_succ]; exact (invIn_len h (invOut_len h i) _).2
theorem getD_le {l : List Int} {M : Nat} (h : ∀ x ∈ l, x.natAbs ≤ M) (i : Nat) : (l.getD i 0).natAbs ≤ M := by
  by_cases hi : i < l.length
  · exact h _ (getD_mem hi)
  · rw [List.getD_eq_getElem?_getD, List.getElem?_eq_none (by omega)]
    simp
theorem mul_le {a b : Int} {x y : Nat} (ha : a.natAbs ≤ 2 ^ x) (hb : b.natAbs ≤ 2 ^ y) : (a * b).natAbs ≤ 2 ^ (x + y) := by
  rw [Int.natAbs_mul, Nat.pow_add]
  exact Nat.mul_le_mul ha hb
theorem timesIn_bnd {as bs made : List Int} {a b M : Nat} (ha : Bnd a as) (hb : Bnd b bs) (hM : ∀ x ∈ made, x.natAbs ≤ M) (i : Nat) : ∀ m, ∀ x ∈ timesIn as bs made i m, x.natAbs ≤ M + m * 2 ^ (a + b)
  | 0 => fun x hx => by simpa using hM x hx
  | m + 1 => fun x hx => by
    have ih := timesIn_bnd ha hb hM i m
    rw [timesIn_succ] at hx
    unfold timesRow at hx
    have e : (m + 1) * 2 ^ (a + b) = m * 2 ^ (a + b) + 2 ^ (a + b) := by rw [Nat.add_mul, Nat.one_mul]
    rw [e]
    rcases List.mem_or_eq_of_mem_set hx with h | h
    · exact Nat.le_trans (ih x h) (by rw [← Nat.add_assoc]; exact Nat.le_add_right _ _)
    · have h1 := getD_le ih (i + m + 1)
      have h2 := mul_le (getD_le ha i) (getD_le hb m)
      have h3 := Int.natAbs_add_le ((timesIn as bs made i m).getD (i + m + 1) 0) (as.getD i 0 * bs.getD m 0)
      rw [h]
      omega
theorem timesOut_bnd {as bs : List Int} {a b : Nat} (ha : Bnd a as) (hb : Bnd b bs) (hl : as.length ≤ 4) : ∀ m, ∀ x ∈ timesOut as bs m, x.natAbs ≤ m * (4 * 2 ^ (a + b))
  | 0 => fun x hx => by
    simp only [timesOut, List.range_zero, List.foldl_nil] at hx
    rw [List.eq_of_mem_replicate hx]
    simp
  | m + 1 => fun x hx => by
    rw [timesOut_succ] at hx
    have h1 := timesIn_bnd ha hb (timesOut_bnd ha hb hl m) m (as.length - 1 - m) x hx
    have h2 : (as.length - 1 - m) * 2 ^ (a + b) ≤ 4 * 2 ^ (a + b) := Nat.mul_le_mul_right _ (by omega)
    have e : (m + 1) * (4 * 2 ^ (a + b)) = m * (4 * 2 ^ (a + b)) + 4 * 2 ^ (a + b) := by rw [Nat.add_mul, Nat.one_mul]
    omega
theorem timesP_bnd {as bs : List Int} {a b : Nat} (ha : Bnd a as) (hb : Bnd b bs) (hl : as.length ≤ 4) : Bnd (a + b + 4) (timesP as bs) := fun x hx => by
  have h1 := timesOut_bnd ha hb hl as.length x hx
  have h2 : as.length * (4 * 2 ^ (a + b)) ≤ 4 * (4 * 2 ^ (a + b)) := Nat.mul_le_mul_right _ hl
  have e : 2 ^ (a + b + 4) = 2 ^ (a + b) * 16 := by rw [Nat.pow_add]
  omega
theorem bnd_mono {a b : Nat} {l : List Int} (h : Bnd a l) (hab : a ≤ b) : Bnd b l := fun x hx => Nat.le_trans (h x hx) (Nat.pow_le_pow_right (by decide) hab)
theorem restP_bnd {rs rest power : List Int} {e f : Nat} (hr : Bnd 30 rs) (h1 : Bnd e rest) (h2 : Bnd f power) (hef : 30 + f ≤ e) (k : Nat) : Bnd (e + 1) (restP rs k rest power) := fun x hx => by
  obtain ⟨⟨p, q⟩, hp, rfl⟩ := List.mem_map.mp hx
  have hm := List.of_mem_zip hp
  have a1 := h1 _ hm.1
  have a2 := mul_le (getD_le hr k) (h2 _ hm.2)
  have a3 : 2 ^ (30 + f) ≤ 2 ^ e := Nat.pow_le_pow_right (by decide) hef
  have a4 := Int.natAbs_sub_le p (rs.getD k 0 * q)
  have e2 : 2 ^ (e + 1) = 2 ^ e * 2 := by rw [Nat.pow_succ]
  show (p - rs.getD k 0 * q).natAbs ≤ 2 ^ (e + 1)
  omega
theorem unitL_bnd (n e : Nat) : Bnd e (unitL n) := fun x hx => by
  have : 1 ≤ 2 ^ e := Nat.one_le_two_pow
  rcases List.mem_cons.mp hx with rfl | hx
  · simpa using this
  · rw [List.eq_of_mem_replicate hx]; simp
theorem invIn_bnd {rs told : List Int} {t : Nat} (h1 : 1 ≤ rs.length) (hl : rs.length ≤ 4) (hr : Bnd 30 rs) (hb : Bnd t told) (ht : told.length = rs.length) : ∀ j, j ≤ 3 → Bnd (4 * t + 12) (invIn rs told j).1 ∧ Bnd ((j + 1) * t + 4 * j) (invIn rs told j).1 ∧ Bnd (4 * t + 42 + j) (invIn rs told j).2
  | 0, _ => ⟨bnd_mono hb (by omega), bnd_mono hb (by omega), unitL_bnd _ _⟩
  | j + 1, hj => by
    have ih := invIn_bnd h1 hl hr hb ht j (by omega)
    have hlen := (invIn_len h1 ht j).1
    have b1 : Bnd ((j + 2) * t + 4 * (j + 1)) (timesP (invIn rs told j).1 told) := bnd_mono (timesP_bnd ih.2.1 hb (by omega)) (by
      have : (j + 2) * t = (j + 1) * t + t := by rw [show j + 2 = (j + 1) + 1 from rfl, Nat.add_mul (j + 1) 1, Nat.one_mul]
      omega)
    have b2 : (j + 2) * t ≤ 4 * t := Nat.mul_le_mul_right _ (by omega)
    have b3 : Bnd (4 * t + 12) (timesP (invIn rs told j).1 told) := bnd_mono b1 (by omega)
    rw [invIn_succ]
    exact ⟨b3, b1, restP_bnd hr ih.2.2 b3 (by omega) _⟩
def tt : Nat → Nat
  | 0 => 0
  | i + 1 => 4 * tt i + 45
theorem invOut_bnd {rs : List Int} (h1 : 1 ≤ rs.length) (hl : rs.length ≤ 4) (hr : Bnd 30 rs) : ∀ i, Bnd (tt i) (invOut rs i)
  | 0 => unitL_bnd _ _
  | i + 1 => by
    rw [invOut_succ]
    exact bnd_mono (invIn_bnd h1 hl hr (invOut_bnd h1 hl hr i) (invOut_len h1 i) _ (by omega)).2.2 (by show _ ≤ 4 * tt i + 45; omega)
theorem bits_of {x : Int} {p : Nat} (h : x.natAbs ≤ 2 ^ p) : Builtin.Int.intBits x ≤ p + 1 := by
  unfold Builtin.Int.intBits
  split
  · exact Nat.zero_le _
  · rename_i hx
    have h0 : x.natAbs ≠ 0 := by simpa using hx
    have h2 : x.natAbs < 2 ^ (p + 1) := by rw [Nat.pow_succ]; have := Nat.one_le_two_pow (n := p); omega
    have := (Nat.log2_lt h0).mpr h2
    omega
theorem mulOk_of {x y : Int} {p q : Nat} (hx : x.natAbs ≤ 2 ^ p) (hy : y.natAbs ≤ 2 ^ q) (h : p + q ≤ 100000) : IntMulOk x y := by
  have a := bits_of hx
  have b := bits_of hy
  unfold IntMulOk
  have e : Builtin.Int.intTooBig (((Builtin.Int.intBits x : Nat) : Int) + ((Builtin.Int.intBits y : Nat) : Int)) = false := by
    unfold Builtin.Int.intTooBig
    have : bitsLine = 134217728 := rfl
    rw [this]
    exact decide_eq_false (by omega)
  rw [e]
  simp
theorem inv_mulOk {rs told power : List Int} {i j : Nat} (h1 : 1 ≤ rs.length) (hl : rs.length ≤ 4) (hr : Bnd 30 rs) (hi : i ≤ 2) (hj : j ≤ 3) (ht : told = invOut rs i) (hp : power = (invIn rs told j).1) : ∀ a ∈ power, ∀ b ∈ told, IntMulOk a b := by
  intro a ha b hb
  have b0 : Bnd (tt i) told := by rw [ht]; exact invOut_bnd h1 hl hr i
  have b1 := (invIn_bnd h1 hl hr b0 (by rw [ht]; exact invOut_len h1 i) j hj).1
  rw [← hp] at b1
  refine mulOk_of (b1 a ha) (b0 b hb) ?_
  have h2 : ∀ i ≤ 2, 4 * tt i + 12 + tt i ≤ 100000 := by decide
  exact h2 i hi
theorem inv_mulOk2 {rs told power : List Int} {i j : Nat} (h1 : 1 ≤ rs.length) (hl : rs.length ≤ 4) (hr : Bnd 30 rs) (hi : i ≤ 2) (hj : j ≤ 2) (ht : told = invOut rs i) (hp : power = (invIn rs told j).1) (a b : Nat) : IntMulOk (rs.getD a 0) ((timesP power told).getD b 0) := by
  have b0 : Bnd (tt i) told := by rw [ht]; exact invOut_bnd h1 hl hr i
  have b1 := (invIn_bnd h1 hl hr b0 (by rw [ht]; exact invOut_len h1 i) (j + 1) (by omega)).1
  rw [invIn_succ, ← hp] at b1
  refine mulOk_of (getD_le hr a) (getD_le b1 b) ?_
  have h2 : ∀ i ≤ 2, 30 + (4 * tt i + 12) ≤ 100000 := by decide
  exact h2 i hi
end
section

def numP (l : List Int) : Int := l.foldl (fun n c => 2 * n + (if c = 40 then 1 else 0)) 0
theorem numP_app (l : List Int) (c : Int) : numP (l ++ [c]) = 2 * numP l + (if c = 40 then 1 else 0) := by simp [numP]
theorem sign_open {k : Nat} : (((⟨#[k]⟩ : Str) == Str.ofString "(") = true) ↔ k = 40 := by
  rw [show Str.ofString "(" = ⟨#[40]⟩ from by decide +kernel, beq_iff_eq]
  simp
theorem num_open {pre : List Int} {n : Int} {k : Nat} (h : ((⟨#[k]⟩ : Str) == Str.ofString "(") = true) (e : n = numP pre) : 2 * n + 1 = numP (pre ++ [(k : Int)]) := by
  have := sign_open.mp h
  subst this
  rw [numP_app, e]
  simp
theorem num_close {pre : List Int} {n : Int} {k : Nat} (h : ((⟨#[k]⟩ : Str) == Str.ofString "(") = false) (e : n = numP pre) : 2 * n + 0 = numP (pre ++ [(k : Int)]) := by
  have : k ≠ 40 := fun q => by rw [sign_open.mpr q] at h; cases h
  rw [numP_app, e, if_neg (by omega)]
theorem numP_bound : ∀ (l : List Int) (n : Int) (B : Int), 0 ≤ n → n < B → 0 ≤ l.foldl (fun n c => 2 * n + (if c = 40 then 1 else 0)) n ∧ l.foldl (fun n c => 2 * n + (if c = 40 then 1 else 0)) n < 2 ^ l.length * B := by
  intro l
  induction l with
  | nil => intro n B h1 h2; simp; omega
  | cons c l ih =>
    intro n B h1 h2
    rw [List.foldl_cons, List.length_cons]
    have := ih (2 * n + (if c = 40 then 1 else 0)) (2 * B) (by split <;> omega) (by split <;> omega)
    refine ⟨this.1, ?_⟩
    have e : (2 : Int) ^ (l.length + 1) * B = 2 ^ l.length * (2 * B) := by rw [Int.pow_succ, Int.mul_assoc]
    rw [e]
    exact this.2
theorem numP_lo (l : List Int) : 0 ≤ numP l := (numP_bound l 0 1 (by decide) (by decide)).1
theorem numP_hi {l : List Int} (h : l.length ≤ 8) : numP l ≤ 255 := by
  have := (numP_bound l 0 1 (by decide) (by decide)).2
  have h2 : ∀ k < 9, (2 : Int) ^ k ≤ 256 := by decide
  have h3 := h2 l.length (by omega)
  unfold numP
  omega
def symB (letter place : Int) : Int := Builtin.bitAnd (Int.fdiv (letter - 65) (2 ^ place.toNat)) 1
def symStep (letter : Int) (syms : List Int) (place : Int) : List Int := if symB letter place = 1 ∨ syms ≠ [] then syms ++ [if symB letter place = 1 then 7 else 8] else syms
def symL (syms : List Int) (letter : Int) : List Int := [3, 2, 1, 0].foldl (symStep letter) syms
def symP (l : List Int) : List Int := l.foldl symL []
structure TokNZ (vs : List Value) : Prop where
  nz : ∀ n t, Value.int n t ∈ vs → t ≠ 0
theorem nz_nil : TokNZ [] := ⟨fun _ _ h => nomatch h⟩
theorem nz_snoc {us : List Value} {n : Int} {t : Tok} (h : TokNZ us) (ht : t ≠ 0) : TokNZ (us ++ [.int n t]) := ⟨fun n' t' hm => by
  rcases List.mem_append.mp hm with hm | hm
  · exact h.nz n' t' hm
  · cases List.mem_singleton.mp hm
    exact ht⟩
structure SymIs (x : Str) (l : List Int) : Prop where
  eq : l = symP (apI (numP (W.KStt.codes x))) ++ [0]
def sym4 (letter : Int) (syms : List Int) (i : Nat) : List Int := ([3, 2, 1, 0].take i).foldl (symStep letter) syms
theorem place_of {t3 t2 t1 t0 : Tok} {v : Value} {i : Nat} (h : ([.int 3 t3, .int 2 t2, .int 1 t1, .int 0 t0] : List Value)[i]? = some v) :
    ∃ (p : Int) (tp : Tok), v = .int p tp ∧ 0 ≤ p ∧ p ≤ 3 ∧ ([3, 2, 1, 0] : List Int)[i]? = some p := by
  match i with
  | 0 => exact ⟨3, t3, (Option.some.inj h).symm, by decide, by decide, rfl⟩
  | 1 => exact ⟨2, t2, (Option.some.inj h).symm, by decide, by decide, rfl⟩
  | 2 => exact ⟨1, t1, (Option.some.inj h).symm, by decide, by decide, rfl⟩
  | 3 => exact ⟨0, t0, (Option.some.inj h).symm, by decide, by decide, rfl⟩
  | (n + 4) => cases h
theorem sym4_succ {letter : Int} {syms : List Int} {i : Nat} {p : Int} (h : ([3, 2, 1, 0] : List Int)[i]? = some p) : sym4 letter syms (i + 1) = symStep letter (sym4 letter syms i) p := by
  simp [sym4, List.take_add_one, h]
theorem st_7 {n p : Int} {cur : List Int} (h : symB n p = 1) : cur ++ [7] = symStep n cur p := by simp [symStep, h]
theorem st_8 {n p : Int} {cur : List Int} (h : symB n p ≠ 1) (hc : decide (cur = []) = false) : cur ++ [8] = symStep n cur p := by
  have : cur ≠ [] := by simpa using hc
  simp [symStep, h, this]
theorem st_0 {n p : Int} {cur : List Int} (h : symB n p ≠ 1) (hc : decide (cur = []) = true) : cur = symStep n cur p := by
  have : cur = [] := by simpa using hc
  simp [symStep, h, this]
theorem ints_snoc {us : List Value} {ns : List Int} {n : Int} {t : Tok} (h : IntsAre us ns) : IntsAre (us ++ [.int n t]) (ns ++ [n]) := h.append (.cons _ _ .nil)
theorem symStep_len (letter : Int) (s : List Int) (p : Int) : (symStep letter s p).length ≤ s.length + 1 := by
  unfold symStep
  split <;> simp
theorem symF_len (letter : Int) (l : List Int) : ∀ s : List Int, (l.foldl (symStep letter) s).length ≤ s.length + l.length := by
  induction l with
  | nil => intro s; simp
  | cons p l ih =>
    intro s
    rw [List.foldl_cons, List.length_cons]
    have := ih (symStep letter s p)
    have := symStep_len letter s p
    omega
theorem sym4_len (letter : Int) (s : List Int) (i : Nat) : (sym4 letter s i).length ≤ s.length + 4 := by
  have := symF_len letter (([3, 2, 1, 0] : List Int).take i) s
  have h2 : (([3, 2, 1, 0] : List Int).take i).length ≤ 4 := by rw [List.length_take]; exact Nat.min_le_right _ _
  unfold sym4
  omega
theorem symP_lenF (l : List Int) : ∀ s : List Int, (l.foldl symL s).length ≤ s.length + 4 * l.length := by
  induction l with
  | nil => intro s; simp
  | cons c l ih =>
    intro s
    rw [List.foldl_cons, List.length_cons]
    have h1 := ih (symL s c)
    have h2 : (symL s c).length ≤ s.length + 4 := symF_len c [3, 2, 1, 0] s
    omega
theorem symP_len (l : List Int) : (symP l).length ≤ 4 * l.length := by
  have := symP_lenF l []
  simpa [symP] using this
theorem ap_len {x : Int} {ks : List Int} (h : IsAp x ks) : ks.length ≤ 2 := by
  rw [h.eq]
  unfold apI
  rw [W.KBw.ints_length]
  simp only [apB, apN, List.size_toArray]
  split <;> (try split) <;> simp
theorem symP_app (l : List Int) (c : Int) : symP (l ++ [c]) = symL (symP l) c := by simp [symP]
local macro_rules | `(tactic| walk_at "exec For Name Tuple cons nil") => `(tactic| walk_at "kc0")
local macro_rules | `(tactic| walk_at "exec For Name Name cons nil") => `(tactic| walk_at "kc0")
local macro_rules | `(tactic| walk_at "exec For Name Call cons nil") => `(tactic| walk_at "kc0")
local macro_rules | `(tactic| walk_at "compareOp NotEq ref ref") => `(tactic| walk_at "kc3")
local macro_rules | `(tactic| walk_at "call ref") => `(tactic| (k_here; (apply c_ap); walk_at "k8"; (iterate 2 (next => assumption)); walk_at "k9"))
local macro_rules | `(tactic| walk_at "call ref") => `(tactic| (k_here; (apply c_and); walk_at "k8"; walk_at "k9"))
local macro_rules | `(tactic| walk_at "call ref") => `(tactic| (k_here; (apply c_rsh); walk_at "k8"; (iterate 2 (next => walk_at "ka")); walk_at "k9"))
set_option maxRecDepth 100000 in
set_option maxHeartbeats 8000000 in
theorem c_sym : ∀ (w : World) (mean : ExcName → Option Value) (mg mb : Str → Option Value) (dp un : Nat) (gd : Option (List Code)) (cn : Str) (cs : Scope) (a : Addr) (ccd : Value) (cl : List (Str × Addr)) (outer : List Env) (A₀ : Around) (base h₀ : Heap) (L : Addr) (m : Str → Option Value) (news : List (Addr × Obj)) (s : Shared) (Q E : Value → Shared → Prop)
   (x : Str) (t : Tok),
    ∀ (kB : Below A₀ base outer h₀) (kF : Fr h₀ L s.heap m) (kX : (hd.heap_39 w.params).In h₀) (kN : News h₀ L s.heap news) (kT : Top hd.view_39 LW mean mg mb h₀) (kK : cs.kind = .function) (kD : dp + 3 < recursionLimit) (kU : un + 112 < cLine),
    x.length ≤ 8 →
    (∀ q vs k ns h' tk', IntsAre vs ns → SymIs x ns → TokNZ vs → (∀ p ∈ news, p.1 < q) → Fr h₀ L h' m → News h₀ L h' ((q, listOf vs.toArray k) :: news) → Q (.ref q) { s with heap := h', toks := tk' }) →
    wpAny (model PP.row.prog w) (ktrTop dp un gd cn cs L a ccd cl outer) (call (.ref 170) [.str x t]) Q E s := by
  k_fill
  intro w mean mg mb dp un gd cn cs a ccd cl outer A₀ base h₀ L m news s Q E x t B F X N T hk hd hu h1 hret
  have hMk : KstMark := kstMark
  refine wpAny_call ?_
  k_dflt ktr_enter
  k_steps
  refine resume ?_
  rename Fr _ _ _ _ => F2
  rename News _ _ _ _ => N2
  refine W.KStt.kst_text (σ := Int × Tok) (fun _ => news) (fun c => [(Str.ofString "number", .int c.1 c.2)]) (fun _ => True) [] (fun pre c => c.1 = numP pre) (0, _) rfl F2 N2 trivial (by kst_all) rfl ?turn0 ?done0
  case turn0 =>
    intro c pre post k kt u h tk own e hoff _ hp F1 N1
    obtain ⟨cn, ct⟩ := c
    clear F2 N2
    (try dsimp only [kstB] at *)
    k_steps
    · refine resume ?_; (rename News _ _ _ _ => nE); (try simp only [List.push_toArray] at nE); refine (kst_end (_, _) (by assumption) nE (by first | kst_in | kst_inAny) (by first | (intro p hp; kst_mem) | kst_anyIn) (by rfl) trivial (by kst_all) (by kst_same) (num_open (by assumption) hp))
    · refine resume ?_; (rename News _ _ _ _ => nE); (try simp only [List.push_toArray] at nE); refine (kst_end (_, _) (by assumption) nE (by first | kst_in | kst_inAny) (by first | (intro p hp; kst_mem) | kst_anyIn) (by rfl) trivial (by kst_all) (by kst_same) (num_close (by assumption) hp))
  intro c u h tk _ hp F1 N1
  obtain ⟨number, ct⟩ := c
  have hpn := hp
  clear F2 N2
  (try dsimp only [kstB] at *)
  have hlo : 0 ≤ number := by rw [hp]; exact numP_lo _
  have hhi : number ≤ 255 := by rw [hp]; exact numP_hi (by rw [W.KStt.codes_length]; exact h1)
  k_steps
  refine resume ?_
  rename Fr _ _ _ _ => F2
  rename News _ _ _ _ => N2
  rename IsAp _ _ => hap9
  rename W.KBw.bInts _ = _ => hb9
  refine W.KStb.kst_bytes (σ := List Int × List Value × Nat) (fun c => (_, listOf c.2.1.toArray c.2.2) :: news) (fun _ => []) (fun c => IntsAre c.2.1 c.1 ∧ TokNZ c.2.1) [Str.ofString "place", Str.ofString "bit"] (fun pre c => c.1 = symP pre) ([], [], 0) hb9 rfl rfl F2 N2 ⟨IntsAre.nil, nz_nil⟩ (fun _ h => nomatch h) rfl ?turn ?done
  case turn =>
    intro c pre post n t u h tk own e hlt hlo hhi hoff hf hp F1 N1
    obtain ⟨syms, us, k⟩ := c
    obtain ⟨hf, hz⟩ := hf
    clear F2 N2
    (try dsimp only [kstB] at *)
    (try simp only [List.map_cons, List.map_nil, List.map_append] at hoff)
    (try simp only [List.cons_append, List.nil_append, List.append_assoc] at N1)
    k_steps
    refine resume ?_
    rename Fr _ _ _ _ => F2
    rename News _ _ _ _ => N2
    refine my_seq (σ := List Int × List Value × Nat) (fun c => (_, { cls := .type "tuple", data := .seq #[.int 3 _, .int 2 _, .int 1 _, .int 0 _] }) :: (_, listOf c.2.1.toArray c.2.2) :: (news ++ own)) (fun _ => []) (fun c => IntsAre c.2.1 c.1 ∧ TokNZ c.2.1) [Str.ofString "bit"] (fun q c => c.1 = sym4 n syms q.length) (syms, us, k) rfl (.inr rfl) ⟨0, rfl⟩ (fun _ => .head _) F2 N2 ⟨hf, hz⟩ (fun _ h => nomatch h) rfl ?turn2 ?done2
    case turn2 =>
      intro c2 q kk v u2 h2 tk2 own2 hkk hv hoff2 hf2 hp2 F3 N3
      obtain ⟨cur, us2, k2⟩ := c2
      obtain ⟨hf2, hz2⟩ := hf2
      obtain ⟨p, tp, rfl, hp0, hp3, hget⟩ := place_of hv
      clear F2 N2
      (try dsimp only [kstB] at *)
      have hlen2 : us2.length ≤ 12 := by
        have h1 := sym4_len n syms q.length
        have h2 := symP_len pre
        have h3 := ap_len hap9
        rw [← hp] at h2
        rw [← hp2] at h1
        rw [hf2.length]
        omega
      have hw : sym4 n syms (q ++ [kk]).length = symStep n cur p := by
        rw [List.length_append, List.length_cons, List.length_nil, sym4_succ hget, ← hp2]
      (try simp only [List.map_cons, List.map_nil, List.map_append] at hoff2)
      (try simp only [List.cons_append, List.nil_append, List.append_assoc] at N3)
      k_steps
      all_goals refine resume ?_
      all_goals (try (exfalso; omega))
      · (rename News _ _ _ _ => nE); (try simp only [List.push_toArray] at nE); refine (kst_end (_, _, _) (by assumption) nE (by first | kst_in | kst_inAny) (by first | (intro p hp; kst_mem) | kst_anyIn) (by rfl) ⟨ints_snoc hf2, nz_snoc hz2 (by decide)⟩ (by kst_all) (by kst_same) (by rw [hw]; exact st_7 (by assumption)))
      · (rename News _ _ _ _ => nE); (try simp only [List.push_toArray] at nE); refine (kst_end (_, _, _) (by assumption) nE (by first | kst_in | kst_inAny) (by first | (intro p hp; kst_mem) | kst_anyIn) (by rfl) ⟨hf2, hz2⟩ (by kst_all) (by kst_same) (by rw [hw]; exact st_0 (by assumption) (by assumption)))
      · (rename News _ _ _ _ => nE); (try simp only [List.push_toArray] at nE); refine (kst_end (_, _, _) (by assumption) nE (by first | kst_in | kst_inAny) (by first | (intro p hp; kst_mem) | kst_anyIn) (by rfl) ⟨ints_snoc hf2, nz_snoc hz2 (by decide)⟩ (by kst_all) (by kst_same) (by rw [hw]; exact st_8 (by assumption) (by assumption)))
    case done2 =>
      intro c2 q u2 h2 tk2 hlen2 hf2 hp2 F3 N3
      obtain ⟨cur, us2, k2⟩ := c2
      obtain ⟨hf2, hz2⟩ := hf2
      clear F2 N2
      (try dsimp only [kstB] at *)
      (try simp only [List.cons_append, List.nil_append, List.append_assoc] at N3)
      k_steps
      refine resume ?_
      (rename News _ _ _ _ => nE); (try simp only [List.push_toArray] at nE); refine (kst_end (_, _, _) (by assumption) nE (by first | kst_in | kst_inAny) (by first | (intro p hp; kst_mem) | kst_anyIn) (by rfl) ⟨hf2, hz2⟩ (by kst_all) (by kst_same) (by rw [symP_app, ← hp, hp2, hlen2]; rfl))
  case done =>
    intro c u h tk hlen hf hp F1 N1
    obtain ⟨syms, us, k⟩ := c
    obtain ⟨hf, hz⟩ := hf
    clear F2 N2
    (try dsimp only [kstB] at *)
    have hlen2 : us.length ≤ 8 := by
      have h2 : syms.length ≤ 4 * 2 := by rw [hp]; exact Nat.le_trans (symP_len _) (Nat.mul_le_mul_left 4 (ap_len hap9))
      rw [hf.length]
      omega
    k_steps
    rename syms = symP _ => hp
    rename News _ _ _ ((_, listOf #[Value.int 0 356] 0) :: _) => Nm
    rename News _ _ _ ((_, { cls := Value.type "list", data := Data.seq (us ++ [Value.int 0 356]).toArray }) :: _) => kN
    exact hret _ _ 0 _ _ _ (hf.append (.cons 0 356 .nil)) ⟨by rw [hp, hap9.eq, hpn]⟩ (nz_snoc hz (by decide)) (fun p hp => Heap.lt_size (Nm p (.tail _ (.tail _ hp))).1) (by assumption) (news_sub kN sub3)
end
section
local macro_rules | `(tactic| walk_at "exec For Name Call cons nil") => `(tactic| walk_at "kc4")
local macro_rules | `(tactic| walk_at "exec For Name Name cons nil") => `(tactic| walk_at "kc4")
local macro_rules | `(tactic| walk_at "PostC") => `(tactic| refine pause ?_)
local macro_rules | `(tactic| walk_at "call ref") => `(tactic| (k_here; (apply c_times); walk_at "k8"; (iterate 2 (next => k_mem)); (iterate 2 (next => assumption)); (iterate 2 (next => omega)); (next => assumption); walk_at "k9"))
local macro_rules | `(tactic| walk_at "exec Assign cons ListComp") => `(tactic| (k_here; k_dflt (refine Assign_pairs (F₀ := by k_asm) (by rfl) (by with_unfolding_all rfl) (by with_unfolding_all rfl) (by decide) (by rfl) (by decide) (by rfl) (by rfl) (by decide) (by rfl) (by rfl) ?_)))
local macro_rules | `(tactic| walk_at "call type:zip") => `(tactic| refine pause ?_)
local macro_rules | `(tactic| walk_at "PairEnd") => `(tactic| refine pause ?_)
local macro_rules | `(tactic| walk_at "eval Name") => `(tactic| walk_at "kc5")
local macro_rules | `(tactic| walk_at "subscriptTail") => `(tactic| walk_at "kc6")
theorem restP_map {rs rst pw : List Int} {n k : Nat} (h1 : rst.length = n) (h2 : pw.length = n) : (List.range n).map (fun i => rst.getD i 0 - rs.getD k 0 * pw.getD i 0) = restP rs k rst pw := by
  refine List.ext_getElem (by simp [restP, h1, h2]) fun i a b => ?_
  have hi : i < n := by simpa using a
  simp [restP, h1, h2, hi, List.getD_eq_getElem?_getD]
theorem unit_start {n : Nat} {m : Int} (h : m = (n : Int) - 1) : [1] ++ (List.replicate m.toNat [(0 : Int)]).flatten = unitL n := by
  subst h
  have e : ((n : Int) - 1).toNat = n - 1 := by omega
  simp [unitL, e]
set_option maxRecDepth 100000 in
set_option maxHeartbeats 8000000 in
theorem c_inv : ∀ (w : World) (mean : ExcName → Option Value) (mg mb : Str → Option Value) (dp un : Nat) (gd : Option (List Code)) (cn : Str) (cs : Scope) (a : Addr) (ccd : Value) (cl : List (Str × Addr)) (outer : List Env) (A₀ : Around) (base h₀ : Heap) (L : Addr) (m : Str → Option Value) (news : List (Addr × Obj)) (s : Shared) (Q E : Value → Shared → Prop)
   (la : Addr) (vs : List Value) (rs : List Int) (n1 : Nat),
    ∀ (kB : Below A₀ base outer h₀) (kF : Fr h₀ L s.heap m) (kX : (hd.heap_39 w.params).In h₀) (kN : News h₀ L s.heap news) (kT : Top hd.view_39 LW mean mg mb h₀) (kK : cs.kind = .function) (kD : dp + 2 < recursionLimit) (kU : un + 96 < cLine),
    (la, listOf vs.toArray n1) ∈ news → IntsAre vs rs → 3 ≤ rs.length → rs.length ≤ 4 → Bnd 30 rs →
    (∀ q vs k ns h' tk', IntsAre vs ns → ns = invP rs → (∀ p ∈ news, p.1 < q) → Fr h₀ L h' m → News h₀ L h' ((q, listOf vs.toArray k) :: news) → Q (.ref q) { s with heap := h', toks := tk' }) →
    wpAny (model PP.row.prog w) (ktrTop dp un gd cn cs L a ccd cl outer) (call (.ref 201) [(.ref la)]) Q E s := by
  k_fill
  intro w mean mg mb dp un gd cn cs a ccd cl outer A₀ base h₀ L m news s Q E la vs rs n1 B F X N T hk hd hu m1 i1 hge hle hb hret
  have hMk : KstMark := kstMark
  have hla : vs.length = rs.length := i1.length
  replace N := news_cons m1 N N
  refine wpAny_call ?_
  k_dflt (refine' code_defC (binds := [(Str.ofString "row", .ref la)]) ?k1 ?k2 ?k3 ?k4 ?k5 ?kA ?kF ?kK ?k6 ?k7 ?k8 ?k9 ?kB ?kD ?_ ?c2 ?c3 ?c4; (case kA => exact rfl); (case kF => exact rfl); (case kK => assumption); (case k1 => k_asm); (case k2 => k_asm); (case k3 => k_asm); (case k4 => k_asm); (case k5 => k_asm); (case k6 => k_is); (case k7 => k_is); (case k8 => ktr_room); (case k9 => exact BindsTo.of_eq (by kernel_rfl)); (case kB => kernel_rfl); (case kD => decide +kernel); (case c2 => exact rfl); (case c3 => exact rfl); (case c4 => exact rfl); k_whole; intro g' L' h' tk' cells' FG' F' N' Y' B' X' T' l1; (try k_lt l1); have hY := CellsAre.two Y'; obtain ⟨o1, o2, hE', d1, d2⟩ := hY; subst hE'; clear Y'; (try simp only [List.cons_append, List.nil_append] at N'); (try dsimp only); (try k_lift B'); (try k_fold))
  replace d1 : o1.data = .cell (none) := d1.trans (by kernel_rfl)
  replace d2 : o2.data = .cell (some (.ref la)) := d2.trans (by kernel_rfl)
  replace F' := fr_eq (m' := fun _ => none) F' (by kernel_rfl)
  k_steps
  refine resume ?_
  rename Fr _ _ _ _ => F2
  rename News _ _ _ _ => N2
  rename IsRange _ _ _ _ _ _ _ _ => R2
  rename IntsAre _ ([1] ++ _) => i3
  refine my_rangeC (σ := Addr × List Value × List Int × Nat × Obj) (n := rs.length - 1)
    (fun c => (c.1, listOf c.2.1.toArray c.2.2.2.1) :: (L' + 1 + 1, c.2.2.2.2) :: (L' + 1, o2) :: (la, listOf vs.toArray n1) :: news)
    (fun c => [(Str.ofString "told", .ref c.1)]) [Str.ofString "turn", Str.ofString "rest", Str.ofString "power"]
    (fun i c _ => IntsAre c.2.1 c.2.2.1 ∧ c.2.2.1 = invOut rs i ∧ (∃ v, c.2.2.2.2.data = .cell v) ∧ @LT.lt Nat _ (L' + 1 + 1) c.1 ∧ ∀ p ∈ news, p.1 < c.1)
    (_, _, _, 0, o1) (fun _ _ _ _ _ h => h) rfl R2 (small_one (by omega) (by omega) (by omega) (by omega)) (by rw [rangeSize_nat]; omega) F2 (news_sub N2 sub4) (by kst_all) ⟨i3, ?e0, ⟨none, d1⟩, ?lo0, ?al0⟩ ?turn ?done
  case e0 => exact unit_start rfl
  case lo0 => rename _ ∧ _ ∧ _ ∧ _ ∧ _ ∧ _ ∧ AllLt _ _ => l9; exact l9.2.2.2.1
  case al0 => rename _ ∧ _ ∧ _ ∧ _ ∧ _ ∧ _ ∧ AllLt _ _ => l9; exact allLt_out l9.2.2.2.2.2.2
  case turn =>
    clear F2 N2
    intro I i c k t it u h tk hIlt hi hk' hP hI F1 N1
    obtain ⟨ta, us, told, kk, oc⟩ := c
    obtain ⟨hf, hp, ⟨cv, dc⟩, hlo, hta⟩ := hP
    dsimp only at hf hp dc hlo hta
    have q1 : @LT.lt Nat _ (L' + 1 + 1) I := hIlt _ (.tail _ (.head _))
    have q2 : @LT.lt Nat _ (L' + 1) I := hIlt _ (.tail _ (.tail _ (.head _)))
    have q3 : @LT.lt Nat _ la I := hIlt _ (.tail _ (.tail _ (.tail _ (.head _))))
    have q4 : AllLt I news := allLt_in fun p hp => hIlt p (.tail _ (.tail _ (.tail _ (.tail _ hp))))
    have q5 : ta ≠ I := hI _ (.head _)
    have q6 : AllLt ta news := allLt_in hta
    have hta2 : @LT.lt Nat _ la ta := Nat.lt_trans l1.1 (Nat.lt_trans (Nat.lt_succ_self _) (Nat.lt_trans (Nat.lt_succ_self _) hlo))
    have htl : told.length = rs.length := by rw [hp]; exact invOut_len (by omega) _
    have hul : us.length = rs.length := by rw [hf.length]; exact htl
    dsimp only [kstB] at *
    k_steps
    refine resume ?_
    rename Fr _ _ _ _ => F2
    rename News _ _ _ _ => N2
    rename IsRange _ _ _ _ _ _ _ _ => R2
    rename IntsAre _ ([1] ++ _) => i3
    rename _ ∧ _ ∧ _ ∧ _ ∧ _ ∧ _ ∧ _ ∧ _ ∧ AllLt _ _ => l9
    refine my_rangeC (σ := (Addr × List Value × List Int × Nat) × (Addr × List Value × List Int × Nat) × Obj) (n := rs.length - 1)
      (fun c => (c.1.1, listOf c.1.2.1.toArray c.1.2.2.2) :: (c.2.1.1, listOf c.2.1.2.1.toArray c.2.1.2.2.2) :: (L' + 1 + 1, c.2.2) :: (I, it) :: (ta, listOf us.toArray kk) :: (L' + 1, o2) :: (la, listOf vs.toArray n1) :: news)
      (fun c => [(Str.ofString "power", .ref c.1.1), (Str.ofString "rest", .ref c.2.1.1)]) []
      (fun j c _ => IntsAre c.1.2.1 c.1.2.2.1 ∧ IntsAre c.2.1.2.1 c.2.1.2.2.1 ∧ (c.1.2.2.1, c.2.1.2.2.1) = invIn rs told j ∧ (∃ v, c.2.2.data = .cell v) ∧ @LT.lt Nat _ (L' + 1 + 1) c.1.1 ∧ c.1.1 ≠ I ∧ @LT.lt Nat _ (L' + 1 + 1) c.2.1.1 ∧ @LT.lt Nat _ I c.2.1.1 ∧ ∀ p ∈ news, p.1 < c.2.1.1)
      ((ta, us, told, kk), (_, _, _, 0), oc) (fun _ _ _ _ _ h => h) rfl R2 (small_one (by omega) (by omega) (by omega) (by omega)) (by rw [rangeSize_nat]; omega) F2 (news_sub N2 (by first | kst_in | kst_inAny)) (by kst_all)
      ⟨hf, i3, (by rw [unit_start rfl]; rfl), ⟨cv, dc⟩, hlo, q5, l9.2.2.2.2.2.1, l9.2.2.2.1, allLt_out l9.2.2.2.2.2.2.2.2⟩ ?turn2 ?done2
    case turn2 =>
      clear F2 N2
      intro J j c k2 t2 it2 u2 h2 tk2 hJlt hj hk2 hP2 hJ F3 N3
      obtain ⟨⟨pa, pus, pw, pn⟩, ⟨ra, rus, rst, rn⟩, oc2⟩ := c
      obtain ⟨hpf, hrf, hpr, ⟨cv2, dc2⟩, hlp, hpI, hlr, hIr, har⟩ := hP2
      dsimp only at hpf hrf hpr dc2 hlp hpI hlr hIr har
      have j8 : AllLt (L' + 1 + 1) news := allLt_mono (Nat.le_add_right L' 2) l1.2
      have j0 : ra ≠ J := hJ _ (.tail _ (.head _))
      have j1 : pa ≠ J := hJ _ (.head _)
      have j2 : @LT.lt Nat _ (L' + 1 + 1) J := hJlt _ (.tail _ (.tail _ (.head _)))
      have j3 : @LT.lt Nat _ (I) J := hJlt _ (.tail _ (.tail _ (.tail _ (.head _))))
      have j4 : @LT.lt Nat _ (ta) J := hJlt _ (.tail _ (.tail _ (.tail _ (.tail _ (.head _)))))
      have j5 : @LT.lt Nat _ (L' + 1) J := hJlt _ (.tail _ (.tail _ (.tail _ (.tail _ (.tail _ (.head _))))))
      have j6 : @LT.lt Nat _ (la) J := hJlt _ (.tail _ (.tail _ (.tail _ (.tail _ (.tail _ (.tail _ (.head _)))))))
      have j7 : AllLt J news := allLt_in fun p hp => hJlt p (.tail _ (.tail _ (.tail _ (.tail _ (.tail _ (.tail _ (.tail _ hp)))))))
      have hpw : pw = (invIn rs told j).1 := congrArg Prod.fst hpr
      have hrs : rst = (invIn rs told j).2 := congrArg Prod.snd hpr
      have hlens := invIn_len (rs := rs) (told := told) (by omega) htl j
      have hpl : pw.length = rs.length := by rw [hpw]; exact hlens.1
      have hrl : rst.length = rs.length := by rw [hrs]; exact hlens.2
      have hpul : pus.length = rs.length := by rw [hpf.length]; exact hpl
      have hrul : rus.length = rs.length := by rw [hrf.length]; exact hrl
      have hmm : ∀ a ∈ pw, ∀ b ∈ told, IntMulOk a b := inv_mulOk (by omega) hle hb (by omega) (by omega) hp hpw
      have hk20 : 0 ≤ k2 := by omega
      have hk21 : k2 < (rs.length : Int) := by omega
      have hk22 : k2 < 2 ^ 63 := by omega
      have hk23 : k2.toNat = j + 1 := by omega
      dsimp only [kstB] at *
      k_steps
      refine resume ?_
      rename Fr _ _ _ _ => F4
      rename News _ _ _ _ => N4
      rename _ = timesP _ _ => eT
      rename IntsAre _ _ => iT
      subst eT
      rename List Value => vT
      have hvT : vT.length = rs.length := by rw [iT.length, timesP_len]; exact hpl
      refine zip_pairs (news := _) rs.length (fun i y => ∃ t, y = Value.int (rst.getD i 0 - rs.getD (j + 1) 0 * (timesP pw told).getD i 0) t) rfl F4 N4 (by k_mem) (by k_mem) hrul hvT (Nat.le_trans hle (by decide)) ?el ?fin
      case el =>
        intro i6 a6 b6 C oC m6 own h6 tk6 E6 hi6 ha6 hb6 hoC e1 e2 F5 N5
        obtain ⟨t7, rfl⟩ := ints_get hrf ha6
        obtain ⟨t8, rfl⟩ := ints_get iT hb6
        clear F4 N4 F3 N3 F1 N1
        (try simp only [List.cons_append, List.nil_append, List.append_assoc] at N5)
        try dsimp only
        have hm6 : IntMulOk (rs.getD k2.toNat 0) ((timesP pw told).getD i6 0) := inv_mulOk2 (by omega) hle hb (by omega) (by omega) hp hpw _ _
        k_steps
        refine resume ?_
        rename Fr _ _ _ _ => F6
        rename News _ _ _ _ => N6
        refine ⟨_, _, rfl, ⟨_, by rw [hk23]⟩, F6, ?_⟩
        simpa only [List.cons_append, List.nil_append, List.append_assoc] using N6
      case fin =>
        intro g6 ys hl6 hR6 D6 h6 tk6 F5 N5 hD6
        have i6 := ints_of hl6 hR6
        rw [restP_map hrl (by rw [timesP_len]; exact hpl)] at i6
        clear F4 N4 F3 N3 F1 N1
        k_steps
        refine resume ?_
        rename Fr _ _ _ _ => F6
        rename News _ _ _ _ => N6
        have q9 := allLt_in hD6
        clear hD6
        rename (∀ p : Addr × Obj, p ∈ _ → p.1 < _) => lT
        have q8 := allLt_in lT
        simp only [AllLt, and_true] at q8 q9
        refine endC ((_, vT, timesP pw told, _), (D6, ys, restP rs (j + 1) rst (timesP pw told), ys.length), _) F6 N6 (by k_mem) (by first | kst_in | kst_inAny) ?ne (by kst_all) (by ksw_same) ⟨iT, i6, ?p1, ⟨_, by assumption⟩, ?p2, ?p3, ?p4, ?p5, ?p6⟩
        case ne => exact List.forall_mem_cons.mpr ⟨Nat.ne_of_gt q8.1, List.forall_mem_cons.mpr ⟨Nat.ne_of_gt q9.2.1, List.forall_mem_cons.mpr ⟨Nat.ne_of_lt j2, List.forall_mem_cons.mpr ⟨Nat.ne_of_lt j3, List.forall_mem_cons.mpr ⟨Nat.ne_of_lt j4, List.forall_mem_cons.mpr ⟨Nat.ne_of_lt j5, List.forall_mem_cons.mpr ⟨Nat.ne_of_lt j6, fun p hp => Nat.ne_of_lt (allLt_out j7 p hp)⟩⟩⟩⟩⟩⟩⟩
        case p1 => show (_, _) = _; rw [invIn_succ, ← hpw, ← hrs]
        case p2 => exact q8.2.2.2.1
        case p3 => exact Nat.ne_of_gt q8.2.2.2.2.1
        case p4 => exact q9.2.2.2.2.1
        case p5 => exact q9.2.2.2.2.2.1
        case p6 => exact allLt_out q9.2.2.2.2.2.2.2.2.2
    case done2 =>
      clear F2 N2
      intro c u2 h2 tk2 hP2 F3 N3
      obtain ⟨⟨pa, pus, pw, pn⟩, ⟨ra, rus, rst, rn⟩, oc2⟩ := c
      obtain ⟨hpf, hrf, hpr, ⟨cv2, dc2⟩, hlp, hpI, hlr, hIr, har⟩ := hP2
      dsimp only at hpf hrf hpr dc2 hlp hpI hlr hIr har
      have hrs : rst = (invIn rs told (rs.length - 1)).2 := congrArg Prod.snd hpr
      dsimp only [kstB] at *
      k_steps
      refine resume ?_
      rename Fr _ _ _ _ => F6
      rename News _ _ _ _ => N6
      refine endC (ra, rus, rst, rn, oc2) F6 N6 (by k_mem) (by first | kst_in | kst_inAny) ?ne (by kst_all) (by ksw_same) ⟨hrf, ?p1, ⟨_, dc2⟩, hlr, har⟩
      case ne => exact List.forall_mem_cons.mpr ⟨Nat.ne_of_gt hIr, List.forall_mem_cons.mpr ⟨Nat.ne_of_lt q1, List.forall_mem_cons.mpr ⟨Nat.ne_of_lt q2, List.forall_mem_cons.mpr ⟨Nat.ne_of_lt q3, fun p hp => Nat.ne_of_lt (allLt_out q4 p hp)⟩⟩⟩⟩
      case p1 => show rst = _; rw [invOut_succ, ← hp, hrs]
  case done =>
    clear F2 N2
    intro c u h tk hP F1 N1
    obtain ⟨ta, us, told, kk, oc⟩ := c
    obtain ⟨hf, hp, ⟨cv, dc⟩, hlo, hta⟩ := hP
    dsimp only [kstB] at *
    k_steps
    rename Fr h₀ L _ _ => kF
    rename News h₀ L _ _ => kN
    skip
    exact hret _ _ _ _ _ _ hf hp hta kF (news_sub kN (by first | kst_in | kst_inAny))

end
section
def prodP (as bs : List Int) : List Int := (List.range as.length).map fun k => ((List.range (k + 1)).map fun i => as.getD i 0 * bs.getD (k - i) 0).sum
local macro_rules | `(tactic| walk_at "eval ListComp") => `(tactic| refine pause ?_)
local macro_rules | `(tactic| walk_at "PairEnd") => `(tactic| refine pause ?_)
local macro_rules | `(tactic| walk_at "eval Name") => `(tactic| walk_at "kc5")
local macro_rules | `(tactic| walk_at "subscriptTail") => `(tactic| walk_at "kc6")
set_option maxRecDepth 100000 in
set_option maxHeartbeats 8000000 in
theorem c_prod : ∀ (w : World) (mean : ExcName → Option Value) (mg mb : Str → Option Value) (dp un : Nat) (gd : Option (List Code)) (cn : Str) (cs : Scope) (a : Addr) (ccd : Value) (cl : List (Str × Addr)) (outer : List Env) (A₀ : Around) (base h₀ : Heap) (L : Addr) (m : Str → Option Value) (news : List (Addr × Obj)) (s : Shared) (Q E : Value → Shared → Prop)
   (l1 l2 : Addr) (vs1 vs2 : List Value) (as bs : List Int) (n1 n2 : Nat),
    ∀ (kB : Below A₀ base outer h₀) (kF : Fr h₀ L s.heap m) (kX : (hd.heap_39 w.params).In h₀) (kN : News h₀ L s.heap news) (kT : Top hd.view_39 LW mean mg mb h₀) (kK : cs.kind = .function) (kD : dp + 1 < recursionLimit) (kU : un + 80 < cLine),
    (l1, listOf vs1.toArray n1) ∈ news → (l2, listOf vs2.toArray n2) ∈ news → IntsAre vs1 as → IntsAre vs2 bs → as.length = bs.length → as.length ≤ 8 → (∀ a b, IntMulOk (as.getD a 0) (bs.getD b 0)) →
    (∀ q vs k ns h' tk', IntsAre vs ns → ns = prodP as bs → (∀ p ∈ news, p.1 < q) → Fr h₀ L h' m → News h₀ L h' ((q, listOf vs.toArray k) :: news) → Q (.ref q) { s with heap := h', toks := tk' }) →
    wpAny (model PP.row.prog w) (ktrTop dp un gd cn cs L a ccd cl outer) (call (.ref 206) [.ref l1, .ref l2]) Q E s := by
  k_fill
  intro w mean mg mb dp un gd cn cs a ccd cl outer A₀ base h₀ L m news s Q E la lb vs1 vs2 as bs n1 n2 B F X N T hk hd hu m1 m2 i1 i2 hlen hle hmul hret
  have hMk : KstMark := kstMark
  have hl1 : vs1.length = as.length := i1.length
  have hl2 : vs2.length = bs.length := i2.length
  replace N := news_cons m1 N (news_cons m2 N N)
  refine wpAny_call ?_
  k_dflt (refine' code_defC (binds := [(Str.ofString "one", .ref la), (Str.ofString "other", .ref lb)]) ?k1 ?k2 ?k3 ?k4 ?k5 ?kA ?kF ?kK ?k6 ?k7 ?k8 ?k9 ?kB ?kD ?_ ?c2 ?c3 ?c4; (case kA => exact rfl); (case kF => exact rfl); (case kK => assumption); (case k1 => k_asm); (case k2 => k_asm); (case k3 => k_asm); (case k4 => k_asm); (case k5 => k_asm); (case k6 => k_is); (case k7 => k_is); (case k8 => ktr_room); (case k9 => exact BindsTo.of_eq (by kernel_rfl)); (case kB => kernel_rfl); (case kD => decide +kernel); (case c2 => exact rfl); (case c3 => exact rfl); (case c4 => exact rfl); k_whole; intro g' L' h' tk' cells' FG' F' N' Y' B' X' T' l1; (try k_lt l1); have hY := CellsAre.two Y'; obtain ⟨o1, o2, hE', d1, d2⟩ := hY; subst hE'; clear Y'; (try simp only [List.cons_append, List.nil_append] at N'); (try dsimp only); (try k_lift B'); (try k_fold))
  replace d1 : o1.data = .cell (some (.ref lb)) := d1.trans (by kernel_rfl)
  replace d2 : o2.data = .cell (some (.ref la)) := d2.trans (by kernel_rfl)
  replace F' := fr_eq (m' := fun _ => none) F' (by kernel_rfl)
  k_steps
  refine resume ?_
  refine comp_inC (x := Str.ofString "k") (h₀ := g') (L := L') (by with_unfolding_all rfl) (fun _ => by with_unfolding_all rfl) (fun _ => by with_unfolding_all rfl) (by rfl) (by decide) ?_
  k_steps
  refine resume ?_
  rename Fr _ _ _ _ => F2
  rename News _ _ _ _ => N2
  rename IsRange _ _ _ _ _ _ _ _ => R2
  refine range_cell as.length (fun k y => ∃ t, y = Value.int (((List.range (k + 1)).map fun i => as.getD i 0 * bs.getD (k - i) 0).sum) t) rfl R2 (small_one (by omega) (by omega) (by omega) (by omega)) (by rw [rangeSize_nat]; omega) (Nat.le_trans hle (by decide)) F2 N2 (by rfl) (fun _ _ => by with_unfolding_all rfl) ?el ?fin
  case el =>
    clear F2 N2
    intro i ti C oC ck ok own h tk E' hi hok F3 N3
    try dsimp only
    try simp only [List.cons_append, List.nil_append] at N3
    have hi0 : 0 ≤ 0 + (i : Int) := by omega
    k_steps
    refine resume ?_
    refine comp_in (h₀ := g') (L := L') (by with_unfolding_all rfl) (by decide) (by rfl) (by decide) ?_
    k_steps
    refine resume ?_
    rename Fr _ _ _ _ => F4
    rename News _ _ _ _ => N4
    rename IsRange _ _ _ _ _ _ _ _ => R4
    refine range_local (i + 1) (fun j y => ∃ t, y = Value.int (as.getD j 0 * bs.getD (i - j) 0) t) rfl R4 (small_one (by omega) (by omega) (by omega) (by omega)) (by rw [rangeSize_nat]; omega) (Nat.le_trans hi (Nat.le_trans hle (by decide))) F4 N4 (by rfl) (by rfl) ?el2 ?fin2
    case el2 =>
      clear F4 N4
      try clear F3
      try clear N3
      intro j tj C2 oC2 m2 own2 h2 tk2 E2 hj hoC2 hm2 F5 N5
      try dsimp only
      try simp only [List.cons_append, List.nil_append, List.append_assoc] at N5
      have hj0 : 0 ≤ 0 + (j : Int) := by omega
      have hj1 : 0 + (j : Int) < as.length := by omega
      have hj2 : 0 ≤ 0 + (i : Int) - (0 + (j : Int)) := by omega
      have hj3 : 0 + (i : Int) - (0 + (j : Int)) < bs.length := by omega
      have hmm : IntMulOk (as.getD (0 + (j : Int)).toNat 0) (bs.getD (0 + (i : Int) - (0 + (j : Int))).toNat 0) := hmul _ _
      k_steps
      refine resume ?_
      rename Fr _ _ _ _ => F6
      rename News _ _ _ _ => N6
      refine ⟨_, _, rfl, ⟨_, by rw [show (0 + (j : Int)).toNat = j from by omega, show (0 + (i : Int) - (0 + (j : Int))).toNat = i - j from by omega]⟩, F6, ?_⟩
      simpa only [List.cons_append, List.nil_append, List.append_assoc] using N6
    case fin2 =>
      clear F4 N4
      try clear F3
      try clear N3
      intro ys D h2 tk2 hl hR hD F5 N5
      have i5 := ints_of hl hR
      try dsimp only
      try simp only [List.cons_append, List.nil_append, List.append_assoc] at N5
      k_steps
      skip
      refine resume ?_
      rename Fr _ _ _ _ => F6
      rename News _ _ _ _ => N6
      refine ⟨_, _, rfl, ⟨_, rfl⟩, F6, ?_⟩
      exact news_sub N6 (by first | kst_in | kst_inAny)
  case fin =>
    clear F2 N2
    intro ys D h2 tk2 hl hR hD F5 N5
    have i5 := ints_of hl hR
    try dsimp only
    k_steps
    rename Fr h₀ L _ _ => kF
    rename News h₀ L _ _ => kN
    exact hret _ _ _ _ _ _ i5 rfl (fun p hp => hD p (by first | kst_mem | exact .tail _ (.tail _ (.tail _ (.tail _ hp))))) kF (news_sub kN (by first | kst_in | kst_inAny))

end
section
def wrapT (a b : Str) : Str := Str.ofString "(" ++ a ++ Str.ofString ")" ++ b
def toldP : Nat → List (List Str)
  | 0 => [[Str.ofString ""]]
  | n + 1 => toldP n ++ [(List.range (n + 1)).flatMap fun i => pairsT ((toldP n).getD i []) ((toldP n).getD (n - i) []) wrapT]
theorem told_short : ∀ i < 5, ∀ S ∈ toldP i, ∀ x ∈ S, x.length ≤ 8 := by decide +kernel
theorem told_size : ∀ n < 4, ∀ i < n + 1, ((List.range i).flatMap fun i => pairsT ((toldP n).getD i []) ((toldP n).getD (n - i) []) wrapT).length + ((toldP n).getD i []).length * ((toldP n).getD (n - i) []).length ≤ 100 := by decide +kernel
theorem told_len : ∀ n, (toldP n).length = n + 1
  | 0 => rfl
  | n + 1 => by rw [toldP, List.length_append, told_len n]; rfl
abbrev Ent := Addr × List Value × Nat
def entL (c : List Ent) : List (Addr × Obj) := c.map fun p => (p.1, listOf p.2.1.toArray p.2.2)
def refs (c : List Ent) : List Value := c.map fun p => Value.ref p.1
structure ToldIs (c : List Ent) (T : List (List Str)) : Prop where
  len : c.length = T.length
  at_ : ∀ i (p : Ent), c[i]? = some p → StrsAre p.2.1 (T.getD i [])
theorem ToldIs.snoc {c : List Ent} {T : List (List Str)} {p : Ent} {S : List Str} (h : ToldIs c T) (hs : StrsAre p.2.1 S) : ToldIs (c ++ [p]) (T ++ [S]) := by
  refine ⟨by simp [h.len], fun i q hq => ?_⟩
  by_cases hi : i < c.length
  · rw [List.getElem?_append_left hi] at hq
    have := h.at_ i q hq
    rw [List.getD_eq_getElem?_getD, List.getElem?_append_left (by rw [← h.len]; exact hi), ← List.getD_eq_getElem?_getD]
    exact this
  · rw [List.getElem?_append_right (by omega)] at hq
    have h0 : i - c.length = 0 := by
      have := (List.getElem?_eq_some_iff.mp hq).1
      simp at this
      omega
    rw [h0] at hq
    cases (Option.some.inj hq)
    rw [List.getD_eq_getElem?_getD, List.getElem?_append_right (by rw [← h.len]; omega), ← h.len, h0]
    exact hs
theorem ent_getD {c : List Ent} {j : Nat} (h : j < c.length) : ((c.getD j default).1, listOf (c.getD j default).2.1.toArray (c.getD j default).2.2) ∈ entL c :=
  List.mem_map.mpr ⟨c.getD j default, by simp [List.getD_eq_getElem?_getD, h], rfl⟩
theorem refs_get {c : List Ent} {k : Int} {j : Nat} (e : k.toNat = j) (h : j < c.length) : (refs c)[k.toNat]? = some (.ref (c.getD j default).1) := by
  subst e
  simp [refs, List.getD_eq_getElem?_getD, h]
theorem ToldIs.getD {c : List Ent} {T : List (List Str)} (h : ToldIs c T) {j : Nat} (hj : j < c.length) : StrsAre (c.getD j default).2.1 (T.getD j []) :=
  h.at_ j _ (by simp [List.getD_eq_getElem?_getD, hj])
theorem getD_mem2 {T : List (List Str)} {j : Nat} {x : Str} (h : x ∈ T.getD j []) : T.getD j [] ∈ T := by
  by_cases hj : j < T.length
  · simp [List.getD_eq_getElem?_getD, hj]
  · simp [List.getD_eq_getElem?_getD, hj] at h
theorem slen (a b : Str) : (a ++ b).length = a.length + b.length := by
  show (a.cps ++ b.cps).size = _
  rw [Array.size_append]
  rfl
theorem slit1 : (Str.ofString "(").length = 1 := by decide +kernel
theorem slit2 : (Str.ofString ")").length = 1 := by decide +kernel
theorem line100 {n : Nat} (h : n ≤ 100) : n ≤ sizeLine := Nat.le_trans h (by decide)
theorem pick_tail {l : List Value} (h : 1 ≤ l.length) : kms_pick l (some 1) none = l.drop 1 := by
  simp only [kms_pick, kms_lo, kms_hi]
  rw [show min (1 : Int).toNat l.length = 1 from by simp; omega, if_neg (by decide), List.take_of_length_le (by simp)]
theorem ent_mem {c : List Ent} {i : Nat} {p : Ent} (h : c[i]? = some p) : (p.1, listOf p.2.1.toArray p.2.2) ∈ entL c := List.mem_map.mpr ⟨p, List.mem_of_getElem? h, rfl⟩
local macro_rules | `(tactic| walk_at "exec For Name Call cons nil") => `(tactic| walk_at "kc4")
local macro_rules | `(tactic| walk_at "exec For Name Name cons nil") => `(tactic| walk_at "kc4")
local macro_rules | `(tactic| walk_at "PostC") => `(tactic| refine pause ?_)
local macro_rules | `(tactic| walk_at "binaryOp Add str str") => `(tactic| (k_here; (with_reducible show wpAny _ _ (binaryOp Operator.Add (Value.str _ _) (Value.str _ _)) _ _ _); (refine PyProof.Rows.add_str (hsz := ?zsz) ?_; (case zsz => (refine line100 ?_; simp only [slen, slit1, slit2]; omega)); intro _ _)))
local macro_rules | `(tactic| walk_at "eval ListComp") => `(tactic| refine pause ?_)
local macro_rules | `(tactic| walk_at "PairEnd") => `(tactic| refine pause ?_)
local macro_rules | `(tactic| walk_at "subscriptTail") => `(tactic| refine pause ?_)
local macro_rules | `(tactic| walk_at "eval Name") => `(tactic| walk_at "kc5")
set_option maxRecDepth 100000 in
set_option maxHeartbeats 8000000 in
theorem c_texts : ∀ (w : World) (mean : ExcName → Option Value) (mg mb : Str → Option Value) (dp un : Nat) (gd : Option (List Code)) (cn : Str) (cs : Scope) (a : Addr) (ccd : Value) (cl : List (Str × Addr)) (outer : List Env) (A₀ : Around) (base h₀ : Heap) (L : Addr) (m : Str → Option Value) (news : List (Addr × Obj)) (s : Shared) (Q E : Value → Shared → Prop)
   (most : Nat) (t : Tok),
    ∀ (kB : Below A₀ base outer h₀) (kF : Fr h₀ L s.heap m) (kX : (hd.heap_39 w.params).In h₀) (kN : News h₀ L s.heap news) (kT : Top hd.view_39 LW mean mg mb h₀) (kK : cs.kind = .function) (kD : dp + 1 < recursionLimit) (kU : un + 80 < cLine),
    1 ≤ most → most ≤ 4 →
    (∀ q (c : List Ent) k h' tk', ToldIs c (toldP most) → (∀ p ∈ news, p.1 < q) → Fr h₀ L h' m → News h₀ L h' ((q, listOf ((refs c).drop 1).toArray k) :: (entL c ++ news)) → Q (.ref q) { s with heap := h', toks := tk' }) →
    wpAny (model PP.row.prog w) (ktrTop dp un gd cn cs L a ccd cl outer) (call (.ref 163) [.int most t]) Q E s := by
  k_fill
  intro w mean mg mb dp un gd cn cs a ccd cl outer A₀ base h₀ L m news s Q E most t B F X N T hk hd hu hm1 hm4 hret
  have hMk : KstMark := kstMark
  refine wpAny_call ?_
  k_dflt (refine' code_defC (binds := [(Str.ofString "most", .int most t)]) ?k1 ?k2 ?k3 ?k4 ?k5 ?kA ?kF ?kK ?k6 ?k7 ?k8 ?k9 ?kB ?kD ?_ ?c2 ?c3 ?c4; (case kA => exact rfl); (case kF => exact rfl); (case kK => assumption); (case k1 => k_asm); (case k2 => k_asm); (case k3 => k_asm); (case k4 => k_asm); (case k5 => k_asm); (case k6 => k_is); (case k7 => k_is); (case k8 => ktr_room); (case k9 => exact BindsTo.of_eq (by kernel_rfl)); (case kB => kernel_rfl); (case kD => decide +kernel); (case c2 => exact rfl); (case c3 => exact rfl); (case c4 => exact rfl); k_whole; intro g' L' h' tk' cells' FG' F' N' Y' B' X' T' l1; (try k_lt l1); have hY := CellsAre.two Y'; obtain ⟨o1, o2, hE', d1, d2⟩ := hY; subst hE'; clear Y'; (try simp only [List.cons_append, List.nil_append] at N'); (try dsimp only); (try k_lift B'); (try k_fold))
  replace d1 : o1.data = .cell (none) := d1.trans (by kernel_rfl)
  replace d2 : o2.data = .cell (none) := d2.trans (by kernel_rfl)
  replace F' := fr_eq (m' := fun y => if y = Str.ofString "most" then some (.int most t) else none) F' (by kernel_rfl)
  have l1a : AllLt (L' + 1) news := allLt_mono (Nat.le_add_right L' 1) (allLt_in l1)
  have l1b : AllLt (L' + 1 + 1) news := allLt_mono (Nat.le_add_right L' 2) (allLt_in l1)
  k_steps
  refine resume ?_
  rename Fr _ _ _ _ => F2
  rename News _ _ _ _ => N2
  rename IsRange _ _ _ _ _ _ _ _ => R2
  rename_i T _ lT _ ot _ _ dt _ _ _ _ _ _
  refine my_rangeC (σ := List Ent × Nat × Obj) (n := most)
    (fun c => (T, listOf (refs c.1).toArray c.2.1) :: (L' + 1 + 1, c.2.2) :: (L' + 1, ot) :: (entL c.1 ++ news)) (fun _ => []) []
    (fun i c _ => ToldIs c.1 (toldP i) ∧ (∃ v, c.2.2.data = .cell v) ∧ OwnOff (entL c.1) [L' + 1, L' + 1 + 1, T])
    ([(_, [.str (Str.ofString "") _], 0)], 0, o1) (fun _ _ _ _ _ h => h) rfl R2 (small_one (by omega) (by omega) (by omega) (by omega)) (by rw [rangeSize_nat]; omega) F2 (news_sub N2 (l := (T, listOf (refs [(_, [.str (Str.ofString "") _], 0)]).toArray 0) :: (L' + 1 + 1, o1) :: (L' + 1, ot) :: (entL [(_, [.str (Str.ofString "") _], 0)] ++ news)) (by simp only [refs, entL, List.map_cons, List.map_nil, List.cons_append, List.nil_append]; first | kst_in | kst_inAny)) (fun _ h => nomatch h) ⟨⟨rfl, ?t0⟩, ⟨none, d1⟩, ?off0⟩ ?turn ?done
  case t0 =>
    intro i p hp
    match i, hp with
    | 0, hp => cases Option.some.inj hp; exact .cons _ _ .nil
    | i + 1, hp => simp at hp
  case off0 =>
    intro p hp b hb
    rw [List.mem_singleton.mp hp]
    simp only [List.mem_cons, List.not_mem_nil, or_false] at hb
    rename _ ∧ _ ∧ AllLt _ _ => l0
    rcases hb with rfl | rfl | rfl
    · exact Nat.ne_of_gt l0.2.1
    · exact Nat.ne_of_gt l0.1
    · exact Nat.ne_of_lt lT.1
  case turn =>
    clear F2 N2
    intro I i c k tkk it u h tk hIlt hi hk' hP hI F1 N1
    obtain ⟨c, kT, oc⟩ := c
    obtain ⟨hT, ⟨cv, dc⟩, hoff⟩ := hP
    dsimp only at hT dc hoff N1 hI
    have q0 : @LT.lt Nat _ T I := hIlt _ (.head _)
    have q1 : @LT.lt Nat _ (L' + 1 + 1) I := hIlt _ (.tail _ (.head _))
    have q2 : @LT.lt Nat _ (L' + 1) I := hIlt _ (.tail _ (.tail _ (.head _)))
    have q4 : AllLt I news := allLt_in fun p hp => hIlt p (.tail _ (.tail _ (.tail _ (List.mem_append.mpr (.inr hp)))))
    have hoffI : OwnOff (entL c) [I] := fun p hp b hb => by rw [List.mem_singleton.mp hb]; exact hI p (.tail _ (.tail _ (.tail _ (List.mem_append.mpr (.inl hp)))))
    have hcl : c.length = i + 1 := by rw [hT.len, told_len]
    have hrl : (refs c).length = i + 1 := by rw [refs, List.length_map, hcl]
    dsimp only [kstB] at *
    k_steps
    refine resume ?_
    refine comp_in (h₀ := g') (L := L') (by with_unfolding_all rfl) (by decide) (by rfl) (by decide) ?_
    k_steps
    refine resume ?_
    rename Fr _ _ _ _ => F4
    rename News _ _ _ _ => N4
    rename IsRange _ _ _ _ _ _ _ _ => R4
    have hi4 : i < 4 := by omega
    have hent : ∀ j < i + 1, ((c.getD j default).1, listOf (c.getD j default).2.1.toArray (c.getD j default).2.2) ∈ entL c ++ news := fun j hj => List.mem_append.mpr (.inl (ent_getD (by omega)))
    have hstr : ∀ j < i + 1, StrsAre (c.getD j default).2.1 ((toldP i).getD j []) := fun j hj => hT.getD (by omega)
    refine three_range (i + 1) (fun j => (c.getD j default).1) (fun j => (c.getD (i - j) default).1) (fun j => (c.getD j default).2.1) (fun j => (c.getD (i - j) default).2.1) (fun j => (c.getD j default).2.2) (fun j => (c.getD (i - j) default).2.2) (fun j => (toldP i).getD j []) (fun j => (toldP i).getD (i - j) []) wrapT
      rfl R4 (small_one (by omega) (by omega) (by omega) (by omega)) (by rw [rangeSize_nat]; omega) F4 N4 (by rfl) (by rfl) (by rfl) (by rfl) (by decide) (by decide) (by decide) (fun _ _ => rfl) (fun _ _ => rfl) (fun j hj => ⟨by repeat (first | exact hent j hj | apply List.Mem.tail), hstr j hj⟩) (fun j hj => ⟨by repeat (first | exact hent (i - j) (by omega) | apply List.Mem.tail), hstr (i - j) (by omega)⟩)
      (fun j hj => Nat.le_trans (told_size i hi4 j hj) (by decide)) ?e1 ?e2 ?e3 ?fin
    case e1 =>
      clear F4 N4 F1 N1
      intro C j tj oC m2 own h2 tk2 E2 hj hoC hm F5 N5
      try dsimp only
      try simp only [List.cons_append, List.nil_append, List.append_assoc] at N5
      k_steps
      refine resume ?_
      rename Fr _ _ _ _ => F6
      rename News _ _ _ _ => N6
      refine my_item N6 (by k_mem) (by omega) (by omega) (refs_get (j := j) (by omega) (by omega)) ?_ (by with_unfolding_all rfl)
      refine ⟨_, _, rfl, rfl, F6, ?_⟩
      simpa only [List.cons_append, List.nil_append, List.append_assoc] using N6
    case e2 =>
      clear F4 N4 F1 N1
      intro C j tj oC m2 own h2 tk2 E2 hj hoC hm F5 N5
      try dsimp only
      try simp only [List.cons_append, List.nil_append, List.append_assoc] at N5
      k_steps
      refine resume ?_
      rename Fr _ _ _ _ => F6
      rename News _ _ _ _ => N6
      refine my_item N6 (by k_mem) (by omega) (by omega) (refs_get (j := i - j) (by omega) (by omega)) ?_ (by with_unfolding_all rfl)
      refine ⟨_, _, rfl, rfl, F6, ?_⟩
      simpa only [List.cons_append, List.nil_append, List.append_assoc] using N6
    case e3 =>
      clear F4 N4 F1 N1
      intro C j xa ta xb tb oC m2 own h2 tk2 E2 hj ha hb hoC hm1 hm2 F5 N5
      have hla : xa.length ≤ 8 := told_short i (by omega) _ (getD_mem2 ha) _ ha
      have hlb : xb.length ≤ 8 := told_short i (by omega) _ (getD_mem2 hb) _ hb
      try dsimp only
      try simp only [List.cons_append, List.nil_append, List.append_assoc] at N5
      k_steps
      refine resume ?_
      rename Fr _ _ _ _ => F6
      rename News _ _ _ _ => N6
      refine ⟨_, _, rfl, ⟨_, rfl⟩, F6, ?_⟩
      simpa only [List.cons_append, List.nil_append, List.append_assoc] using N6
    case fin =>
      clear F4 N4 F1 N1
      intro ys D h2 tk2 hS hD F5 N5
      have q9 := allLt_in hD
      simp only [AllLt, and_true] at q9
      try dsimp only
      try simp only [List.cons_append, List.nil_append, List.append_assoc] at N5
      k_steps
      rename _ = Data.cell (some (Value.int k tkk)) => dk
      refine resume ?_
      rename Fr _ _ _ _ => F8
      rename News _ _ _ _ => N8
      simp only [List.push_toArray] at N8
      have er : refs (c ++ [(D, ys, ys.length)]) = refs c ++ [.ref D] := by simp [refs]
      have ee : entL (c ++ [(D, ys, ys.length)]) = entL c ++ [(D, LCg.lst ys)] := by simp [entL]
      refine endC (c ++ [(D, ys, ys.length)], kT + 1, _) F8 N8 (by k_mem) ?sub ?ne (fun _ h => nomatch h) (by ksw_same) ⟨?p1, ⟨_, dk⟩, ?p2⟩
      case sub =>
        dsimp only
        rw [er, ee]
        intro p hp
        rcases List.mem_cons.mp hp with rfl | hp
        · exact .tail _ (.tail _ (.head _))
        · rcases List.mem_cons.mp hp with rfl | hp
          · exact .tail _ (.tail _ (.tail _ (.head _)))
          · rcases List.mem_cons.mp hp with rfl | hp
            · exact .tail _ (.tail _ (.tail _ (.tail _ (.head _))))
            · rcases List.mem_append.mp hp with hp | hp
              · rcases List.mem_append.mp hp with hp | hp
                · exact .tail _ (.tail _ (.tail _ (.tail _ (.tail _ (List.mem_append.mpr (.inl hp))))))
                · rw [List.mem_singleton.mp hp]
                  exact .head _
              · exact .tail _ (.tail _ (.tail _ (.tail _ (.tail _ (List.mem_append.mpr (.inr hp))))))
      case ne =>
        dsimp only
        rw [ee]
        refine List.forall_mem_cons.mpr ⟨Nat.ne_of_lt q0, List.forall_mem_cons.mpr ⟨Nat.ne_of_lt q1, List.forall_mem_cons.mpr ⟨Nat.ne_of_lt q2, List.forall_mem_append.mpr ⟨List.forall_mem_append.mpr ⟨fun p hp => hoffI p hp I (.head _), fun p hp => ?_⟩, fun p hp => Nat.ne_of_lt (allLt_out q4 p hp)⟩⟩⟩⟩
        rw [List.mem_singleton.mp hp]
        exact Nat.ne_of_gt q9.1
      case p1 => exact hT.snoc hS
      case p2 =>
        dsimp only
        rw [ee]
        intro p hp b hb
        rcases List.mem_append.mp hp with hp | hp
        · exact hoff p hp b hb
        · rw [List.mem_singleton.mp hp]
          simp only [List.mem_cons, List.not_mem_nil, or_false] at hb
          rcases hb with rfl | rfl | rfl
          · exact Nat.ne_of_gt q9.2.2.2.1
          · exact Nat.ne_of_gt q9.2.2.1
          · exact Nat.ne_of_gt q9.2.1
  case done =>
    clear F2 N2
    intro c u h tk hP F1 N1
    obtain ⟨c, kT, oc⟩ := c
    obtain ⟨hT, ⟨cv, dc⟩, hoff⟩ := hP
    dsimp only [kstB] at *
    have hcl : c.length = most + 1 := by rw [hT.len, told_len]
    have hrl : (refs c).length = most + 1 := by rw [refs, List.length_map, hcl]
    k_steps
    rename Fr h₀ L _ _ => kF
    rename News h₀ L _ _ => kN
    skip
    have es : slicePick (refs c).toArray (some 1) none none = ((refs c).drop 1).toArray := by rw [kms_pick_eq, pick_tail (by show 1 ≤ (refs c).length; omega)]
    rw [es] at kN
    refine hret _ c 0 _ _ hT (fun p hp => Nat.lt_succ_of_lt (Heap.lt_size (N1 p (.tail _ (.tail _ (.tail _ (List.mem_append.mpr (.inr hp)))))).1)) kF (fun p hp => ?_)
    rcases List.mem_cons.mp hp with rfl | hp
    · exact kN _ (.head _)
    · exact kN p (by repeat (first | exact hp | apply List.Mem.tail))

end
section
def growP (cnt : List Int) (b : Int) : List Int := if (cnt.length : Int) ≤ b then cnt ++ (List.replicate (b - cnt.length + 1).toNat [0]).flatten else cnt
def wsStep (c : List Int × Int) (k : Nat) : List Int × Int :=
  if k = 32 then (c.1, c.2 + 1) else ((growP c.1 c.2).set c.2.toNat ((growP c.1 c.2).getD c.2.toNat 0 + 1), 0)
def wsP (l : List Nat) : List Int × Int := l.foldl wsStep ([], 0)
theorem wsP_snoc (l : List Nat) (k : Nat) : wsP (l ++ [k]) = wsStep (wsP l) k := by simp [wsP]
theorem ws_take {r : Str} {i k : Nat} (h : r.cps[i]? = some k) : wsP (r.cps.toList.take (i + 1)) = wsStep (wsP (r.cps.toList.take i)) k := by
  rw [List.take_add_one, show r.cps.toList[i]? = some k from by simpa using h]
  exact wsP_snoc _ _
theorem is_space {k : Nat} : (((⟨#[k]⟩ : Str) == Str.ofString " ") = true) ↔ k = 32 := by
  rw [show Str.ofString " " = ⟨#[32]⟩ from by decide +kernel, beq_iff_eq]
  simp
theorem is_tab {k : Nat} : (((⟨#[k]⟩ : Str) == Str.ofString "\t") = true) ↔ k = 9 := by
  rw [show Str.ofString "\t" = ⟨#[9]⟩ from by decide +kernel, beq_iff_eq]
  simp
theorem ws_sp {cnt : List Int} {b : Int} {l : List Nat} {k : Nat} (h : ((⟨#[k]⟩ : Str) == Str.ofString " ") = true) (hp : (cnt, b) = wsP l) : (cnt, b + 1) = wsStep (wsP l) k := by
  rw [← hp, wsStep, if_pos (is_space.mp h)]
theorem ws_t1 {cnt : List Int} {b : Int} {l : List Nat} {k : Nat} (h : ((⟨#[k]⟩ : Str) == Str.ofString " ") = false) (hb : (cnt.length : Int) ≤ b) (hp : (cnt, b) = wsP l) :
    ((cnt ++ (List.replicate (b - cnt.length + 1).toNat [0]).flatten).set b.toNat ((cnt ++ (List.replicate (b - cnt.length + 1).toNat [0]).flatten).getD b.toNat 0 + 1), 0) = wsStep (wsP l) k := by
  rw [← hp, wsStep, if_neg (fun q => by rw [is_space.mpr q] at h; cases h), growP, if_pos hb]
theorem ws_t2 {cnt : List Int} {b : Int} {l : List Nat} {k : Nat} (h : ((⟨#[k]⟩ : Str) == Str.ofString " ") = false) (hb : ¬ (cnt.length : Int) ≤ b) (hp : (cnt, b) = wsP l) :
    (cnt.set b.toNat (cnt.getD b.toNat 0 + 1), 0) = wsStep (wsP l) k := by
  rw [← hp, wsStep, if_neg (fun q => by rw [is_space.mpr q] at h; cases h), growP, if_neg hb]
theorem grow_len {cnt : List Int} {b : Int} {x : Int} {i n : Nat} (h0 : 0 ≤ b) (h1 : b ≤ (i : Int)) (hb : (cnt.length : Int) ≤ b) : ((cnt ++ (List.replicate (b - cnt.length + 1).toNat [(0 : Int)]).flatten).set n x).length ≤ i + 1 + 1 := by
  simp
  omega
theorem news_drop2 {h₀ h : Heap} {L : Addr} {a b : Addr × Obj} {l : List (Addr × Obj)} (N : News h₀ L h (a :: b :: l)) : News h₀ L h (a :: l) := news_sub N sub2
local macro_rules | `(tactic| walk_at "exec For Name Call cons nil") => `(tactic| walk_at "kc4")
local macro_rules | `(tactic| walk_at "exec For Name Name cons nil") => `(tactic| walk_at "kc4")
local macro_rules | `(tactic| walk_at "PostC") => `(tactic| refine pause ?_)
local macro_rules | `(tactic| walk_at "call type:tuple") => `(tactic| (k_here; (with_reducible show wpAny _ _ (call (Value.type _) [Value.ref _]) _ _ _); k_dflt (refine' kde_tupleOf ?k1 ?k2 ?k3 ?k4 ?k5 ?_; (case k1 => k_asm); (case k2 => k_asm); (case k3 => exact News.isList (by k_asm) (by k_mem)); (case k4 => (rw [List.size_toArray]; omega)); (case k5 => exact rfl); k_whole); intro D' h' F' N' l1; (try k_lt l1); (try k_sweep)))
local macro_rules | `(tactic| walk_at "exec For Name Attribute cons nil") => `(tactic| walk_at "kc4")
local macro_rules | `(tactic| walk_at "setItem ref int") => `(tactic| walk_at "kc2")
set_option maxRecDepth 100000 in
set_option maxHeartbeats 8000000 in
theorem c_ws : ∀ (w : World) (mean : ExcName → Option Value) (mg mb : Str → Option Value) (dp un : Nat) (gd : Option (List Code)) (cn : Str) (cs : Scope) (a : Addr) (ccd : Value) (cl : List (Str × Addr)) (outer : List Env) (A₀ : Around) (base h₀ : Heap) (L : Addr) (m : Str → Option Value) (news : List (Addr × Obj)) (s : Shared) (Q E : Value → Shared → Prop)
   (r : Str) (t : Tok),
    ∀ (kB : Below A₀ base outer h₀) (kF : Fr h₀ L s.heap m) (kX : (hd.heap_39 w.params).In h₀) (kN : News h₀ L s.heap news) (kT : Top hd.view_39 LW mean mg mb h₀) (kK : cs.kind = .function) (kD : dp + 1 < recursionLimit) (kU : un + 80 < cLine),
    (∀ k ∈ r.cps.toList, k = 32 ∨ k = 9) → r.length ≤ 40 →
    (∀ x d nrm cnt us ns b tb v1 v2 v3 v5 t1 t2 t3 t4 t5 kd h' tk', IntsAre us ns → (ns, b) = wsP r.cps.toList → 0 ≤ b → b ≤ 40 → ns.length ≤ 41 → AllLt d news → AllLt x news → AllLt nrm news → AllLt cnt news → Fr h₀ L h' m → News h₀ L h' ((x, instObj 83 d) :: (d, dictOf [{ hash := PyData.keyHash w.params (Str.ofString "raw"), key := .str (Str.ofString "raw") t1, val := v1 }, { hash := PyData.keyHash w.params (Str.ofString "n"), key := .str (Str.ofString "n") t2, val := v2 }, { hash := PyData.keyHash w.params (Str.ofString "nt"), key := .str (Str.ofString "nt") t3, val := v3 }, { hash := PyData.keyHash w.params (Str.ofString "norm"), key := .str (Str.ofString "norm") t4, val := .ref nrm }, { hash := PyData.keyHash w.params (Str.ofString "is_simple"), key := .str (Str.ofString "is_simple") t5, val := v5 }] kd) :: (nrm, { cls := .type "tuple", data := .seq #[.ref cnt, .int b tb] }) :: (cnt, { cls := .type "tuple", data := .seq us.toArray }) :: news) → Q (.ref x) { s with heap := h', toks := tk' }) →
    wpAny (model PP.row.prog w) (ktrTop dp un gd cn cs L a ccd cl outer) (call (.ref 83) [.str r t]) Q E s := by
  k_fill
  intro w mean mg mb dp un gd cn cs a ccd cl outer A₀ base h₀ L m news s Q E r t B F X N T hk hd hu hch hlen hret
  have hMk : KstMark := kstMark
  k_dflt (refine' call_cls ?k1 ?k2 ?k3 ?k4 ?k5 ?k6 ?_; (case k1 => k_asm); (case k2 => k_asm); (case k3 => k_asm); (case k4 => k_is); (case k5 => k_is); (case k6 => k_is); k_whole; intro x' d' h' F' N' l1 l2; (try k_lt l1); (try k_lt2 l2); (try k_sweep))
  k_dflt (refine' code_def (binds := [(Str.ofString "self", .ref x'), (Str.ofString "ws", .str r t)]) ?k1 ?k2 ?k3 ?k4 ?k5 ?kA ?kF ?kK ?k6 ?k7 ?k8 ?k9 ?kB ?_ ?c2 ?c3 ?c4 ?c5; (case kA => exact rfl); (case kF => exact rfl); (case kK => assumption); (case k1 => k_asm); (case k2 => k_asm); (case k3 => k_asm); (case k4 => k_asm); (case k5 => k_asm); (case k6 => k_is); (case k7 => k_is); (case k8 => ktr_room); (case k9 => exact BindsTo.of_eq (by kernel_rfl)); (case c5 => decide); (case kB => exact locs (by kernel_rfl)); (case c2 => exact rfl); (case c3 => exact rfl); (case c4 => exact rfl); k_whole; intro gE LE hE FG' F' N' B' X' T'; (try dsimp only); (try k_fold))
  k_steps
  refine resume ?_
  rename Fr _ _ _ _ => F2
  rename News _ _ _ _ => N2
  rename _ ∧ _ ∧ _ ∧ AllLt _ _ => l9
  replace N2 := news_drop2 N2
  refine my_strC (σ := (Addr × List Value × List Int × Nat) × (Int × Tok) × (Int × Tok) × (Int × Tok))
    (fun c => (c.1.1, listOf c.1.2.1.toArray c.1.2.2.2) :: _)
    (fun c => [(Str.ofString "count", .ref c.1.1), (Str.ofString "b", .int c.2.1.1 c.2.1.2), (Str.ofString "n", .int c.2.2.1.1 c.2.2.1.2), (Str.ofString "nt", .int c.2.2.2.1 c.2.2.2.2)]) [Str.ofString "ch"]
    (fun i c _ => IntsAre c.1.2.1 c.1.2.2.1 ∧ (c.1.2.2.1, c.2.1.1) = wsP (r.cps.toList.take i) ∧ (0 ≤ c.2.1.1 ∧ c.2.1.1 ≤ (i : Int) ∧ c.1.2.2.1.length ≤ i + 1) ∧ @LT.lt Nat _ x' c.1.1 ∧ @LT.lt Nat _ d' c.1.1 ∧ AllLt c.1.1 news)
    ((_, [], [], 0), (0, _), (0, _), (0, _)) (fun _ _ _ _ _ h => h) rfl F2 N2 (by kst_all) ⟨.nil, rfl, ⟨Int.le_refl _, Int.le_refl _, Nat.zero_le _⟩, l9.2.1, l9.2.2.1, l9.2.2.2⟩ ?turn ?done
  case turn =>
    clear F2 N2
    intro I i c k tk2 it u h tk hIlt hi hk hP hI F1 N1
    obtain ⟨⟨ca, us, cnt, kc⟩, ⟨b, tb⟩, ⟨n, tn⟩, nt, tnt⟩ := c
    obtain ⟨hf, hp, ⟨hb0, hbi, hcl⟩, hx, hd', hca⟩ := hP
    dsimp only at hf hp hb0 hbi hcl hx hd' hca N1
    have q1 : @LT.lt Nat _ x' I := hIlt _ (.tail _ (.head _))
    have q2 : @LT.lt Nat _ d' I := hIlt _ (.tail _ (.tail _ (.head _)))
    have q3 : AllLt I news := allLt_in fun p hp => hIlt p (.tail _ (.tail _ (.tail _ hp)))
    have q4 : @Ne Nat ca I := hI _ (.head _)
    have hi40 : i < 40 := Nat.lt_of_lt_of_le hi hlen
    have hul : us.length = cnt.length := hf.length
    have hk2 := hch k (List.mem_of_getElem? (show r.cps.toList[i]? = some k by simpa using hk))
    dsimp only [kstB] at *
    k_steps
    · refine resume ?_
      rename Fr _ _ _ _ => F6
      rename News _ _ _ _ => N6
      rename (_ == Str.ofString " ") = true => hs
      refine endC ((ca, us, cnt, kc), (b + 1, _), (n + 1, _), (nt, _)) F6 N6 (by k_mem) (by first | kst_in | kst_inAny) ?ne (by kst_all) (by ksw_same) ⟨hf, by rw [ws_take hk]; exact ws_sp hs hp, ⟨by dsimp only; omega, by dsimp only; omega, by dsimp only; omega⟩, hx, hd', hca⟩
      case ne => exact List.forall_mem_cons.mpr ⟨q4, List.forall_mem_cons.mpr ⟨Nat.ne_of_lt q1, List.forall_mem_cons.mpr ⟨Nat.ne_of_lt q2, fun p hp => Nat.ne_of_lt (allLt_out q3 p hp)⟩⟩⟩
    · refine resume ?_
      rename Fr _ _ _ _ => F6
      rename News _ _ _ _ => N6
      rename (_ == Str.ofString " ") = false => hs
      rename _ ≤ b => hb
      rename IntsAre (List.set _ _ _) _ => i6
      rename _ ∧ _ ∧ _ ∧ _ ∧ _ ∧ _ ∧ AllLt _ news => l6
      refine endC ((_, _, _, _), (0, _), (n + 1, _), (nt + 1, _)) F6 N6 (by k_mem) (by first | kst_in | kst_inAny) ?ne (by kst_all) (by ksw_same) ⟨i6, by rw [ws_take hk]; exact ws_t1 hs hb hp, ⟨Int.le_refl _, by dsimp only; omega, grow_len hb0 hbi hb⟩, l6.2.2.2.2.1, l6.2.2.2.2.2.1, l6.2.2.2.2.2.2⟩
      case ne => exact List.forall_mem_cons.mpr ⟨Nat.ne_of_gt l6.2.2.1, List.forall_mem_cons.mpr ⟨Nat.ne_of_lt q1, List.forall_mem_cons.mpr ⟨Nat.ne_of_lt q2, fun p hp => Nat.ne_of_lt (allLt_out q3 p hp)⟩⟩⟩
    · refine resume ?_
      rename Fr _ _ _ _ => F6
      rename News _ _ _ _ => N6
      rename (_ == Str.ofString " ") = false => hs
      rename IntsAre (List.set _ _ _) _ => i6
      rename ¬ _ ≤ b => hb
      refine endC ((_, _, _, _), (0, _), (n + 1, _), (nt + 1, _)) F6 N6 (by k_mem) (by first | kst_in | kst_inAny) ?ne (by kst_all) (by ksw_same) ⟨i6, by rw [ws_take hk]; exact ws_t2 hs hb hp, ⟨Int.le_refl _, by dsimp only; omega, by dsimp only; rw [List.length_set]; omega⟩, hx, hd', hca⟩
      case ne => exact List.forall_mem_cons.mpr ⟨q4, List.forall_mem_cons.mpr ⟨Nat.ne_of_lt q1, List.forall_mem_cons.mpr ⟨Nat.ne_of_lt q2, fun p hp => Nat.ne_of_lt (allLt_out q3 p hp)⟩⟩⟩
    · exfalso
      rename (_ == Str.ofString "\t") = false => ht
      rename (_ == Str.ofString " ") = false => hs
      rcases hk2 with e | e
      · rw [is_space.mpr e] at hs; cases hs
      · rw [is_tab.mpr e] at ht; cases ht
  case done =>
    clear F2 N2
    intro c u h tk hP F1 N1
    obtain ⟨⟨ca, us, cnt, kc⟩, ⟨b, tb⟩, ⟨n, tn⟩, nt, tnt⟩ := c
    obtain ⟨hf, hp, ⟨hb0, hbi, hcl⟩, hx, hd', hca⟩ := hP
    dsimp only at hf hp hb0 hbi hcl hx hd' hca N1
    have l1a := allLt_in l1
    have hul : us.length = cnt.length := hf.length
    have hcl2 : cnt.length ≤ 41 := Nat.le_trans hcl (Nat.succ_le_succ hlen)
    dsimp only [kstB] at *
    k_steps
    rename _ ∧ _ ∧ _ ∧ AllLt _ news => l6
    rename _ ∧ _ ∧ _ ∧ _ ∧ AllLt _ news => l7
    rename Fr h₀ L _ _ => kF
    rename News h₀ L _ _ => kN
    exact hret x' d' _ _ us cnt b tb _ _ _ _ _ _ _ _ _ _ _ _ hf (by rw [hp, List.take_of_length_le (by simp)]) hb0 (Int.le_trans hbi (Int.ofNat_le.mpr hlen)) hcl2 l1a (allLt_mono (Nat.le_of_lt l2) l1a) l7.2.2.2.2 l6.2.2.2 kF (news_sub kN (by first | kst_in | kst_inAny))

end
section

structure TG (k : Nat) (vs : List Value) : Prop where
  tg : ∀ n t, Value.int n t ∈ vs → t ≠ 0 ∧ (n = 7 ∨ t < k)
theorem tg_nil {k : Nat} : TG k [] := ⟨fun _ _ h => nomatch h⟩
theorem TG.mono {k k' : Nat} {vs : List Value} (h : TG k vs) (hk : k ≤ k') : TG k' vs := ⟨fun n t hm => ⟨(h.tg n t hm).1, (h.tg n t hm).2.imp id fun q => Nat.lt_of_lt_of_le q hk⟩⟩
theorem tg_snoc {k : Nat} {us : List Value} {n : Int} {t : Tok} (h : TG k us) (ht : t ≠ 0 ∧ (n = 7 ∨ t < k)) : TG k (us ++ [.int n t]) := ⟨fun n' t' hm => by
  rcases List.mem_append.mp hm with hm | hm
  · exact h.tg n' t' hm
  · cases List.mem_singleton.mp hm
    exact ht⟩
theorem ints_front {ur : List Value} {r : List Int} {v : Value} {y : Int} (h : IntsAre (ur ++ [v]) (r ++ [y])) (hl : ur.length = r.length) : IntsAre ur r := by
  induction ur generalizing r with
  | nil =>
    rw [List.length_nil] at hl
    rw [List.length_eq_zero_iff.mp hl.symm]
    exact .nil
  | cons x ur ih =>
    match r, hl with
    | z :: r, hl =>
      cases h with
      | cons _ _ h => exact .cons _ _ (ih h (by simpa using hl))
theorem ints_snoc_cases {k : Nat} {us : List Value} {p : List Int} (h : IntsAre us p) (hg : TG k us) : (us = [] ∧ p = []) ∨ ∃ ur r y ty, us = ur ++ [Value.int y ty] ∧ p = r ++ [y] ∧ IntsAre ur r ∧ TG k ur := by
  rcases List.eq_nil_or_concat p with rfl | ⟨r, y, rfl⟩
  · left
    cases h
    exact ⟨rfl, rfl⟩
  · right
    rcases List.eq_nil_or_concat us with rfl | ⟨ur, v, rfl⟩
    · have := h.length
      simp at this
    · have hl := h.length
      simp only [List.concat_eq_append, List.length_append, List.length_singleton, Nat.add_right_cancel_iff] at hl ⊢
      simp only [List.concat_eq_append] at h hg
      obtain ⟨t, ht⟩ := h.get r.length y (by simp)
      rw [← hl] at ht
      simp only [List.getElem?_append_right (Nat.le_refl _), Nat.sub_self, List.getElem?_cons_zero, Option.some.injEq] at ht
      subst ht
      refine ⟨ur, r, y, t, rfl, rfl, ?_, ⟨fun n t' hm => hg.tg n t' (List.mem_append.mpr (.inl hm))⟩⟩
      have := ints_front h hl
      exact this
def stripR : List Int → List Int × Int
  | [] => ([], 0)
  | x :: r => if 256 ≤ x then ((stripR r).1, (stripR r).2 + 1) else (x :: r, 0)
def WOut (k : Nat) (h₀ : Heap) (L : Addr) (m : Str → Option Value) (P : Addr) (led : List (Addr × Obj)) (p : List Int) (s : Shared) (f : Flow) (s₂ : Shared) : Prop :=
  f = .next ∧ ∃ us p2 k2 ed ted h' tk, s₂ = { s with heap := h', toks := tk } ∧ IntsAre us p2 ∧ TG k us ∧ stripR p.reverse = (p2.reverse, ed) ∧ 0 ≤ ed ∧ ed + (p2.length : Int) = (p.length : Int) ∧
    Fr h₀ L h' (fun z => if z = Str.ofString "edges" then some (.int ed ted) else m z) ∧ News h₀ L h' ((P, listOf us.toArray k2) :: led)
section
variable {prog : Program} {w : World} {A : Around} {E : Value → Shared → Prop} {s : Shared} {env : Env} {h₀ : Heap} {Q : Flow → Shared → Prop} {m : Str → Option Value}
abbrev WS := (List Value × List Int × Nat) × (Int × Tok)
theorem while_strip {k : Nat} {test : Expr} {body : List Stmt} {pos : Pos} {P : Addr} {us : List Value} {p : List Int} {kp : Nat} {t0 : Tok} {led : List (Addr × Obj)}
    (F : Fr h₀ env.locals s.heap m) (N : News h₀ env.locals s.heap ((P, listOf us.toArray kp) :: led)) (hf : IntsAre us p) (hg : TG k us) (hk : m (Str.ofString "edges") = some (.int 0 t0))
    (turn : ∀ (c : WS) (u : Str → Option Value) h tk, IntsAre c.1.1 c.1.2.1 ∧ TG k c.1.1 → (stripR p.reverse = ((stripR c.1.2.1.reverse).1, (stripR c.1.2.1.reverse).2 + c.2.1) ∧ 0 ≤ c.2.1 ∧ c.2.1 + (c.1.2.1.length : Int) = (p.length : Int)) → Fr h₀ env.locals h (kstB (fun z => if ([] : List Str).contains z then u z else m z) [(Str.ofString "edges", .int c.2.1 c.2.2)]) → News h₀ env.locals h ((P, listOf c.1.1.toArray c.1.2.2) :: led) →
      wpAny (model prog w) A (isTrue test env (eval test env)) (fun b s₂ => if b = true then wpAny (model prog w) A (execs body env) (KswPost h₀ env.locals s (fun c : WS => (P, listOf c.1.1.toArray c.1.2.2) :: led) (fun c => [(Str.ofString "edges", .int c.2.1 c.2.2)])
          (fun c => IntsAre c.1.1 c.1.2.1 ∧ TG k c.1.1) [] m (fun c => stripR p.reverse = ((stripR c.1.2.1.reverse).1, (stripR c.1.2.1.reverse).2 + c.2.1) ∧ 0 ≤ c.2.1 ∧ c.2.1 + (c.1.2.1.length : Int) = (p.length : Int)) (fun c => c.1.2.1.length) (fun f s' => WOut k h₀ env.locals m P led p s f s') c) E s₂
        else WOut k h₀ env.locals m P led p s .next s₂) E { s with heap := h, toks := tk })
    (rest : ∀ s₂, WOut k h₀ env.locals m P led p s .next s₂ → Q .next s₂) (hE : PassesOwn (model prog w) A env E := by passes_own) : wpAny (model prog w) A (exec (.While test body [] pos) env) Q E s := by
  refine wpAny_mono (ksw_while (σ := WS) (fun c => (P, listOf c.1.1.toArray c.1.2.2) :: led) (fun c => [(Str.ofString "edges", .int c.2.1 c.2.2)]) (fun c => IntsAre c.1.1 c.1.2.1 ∧ TG k c.1.1) [] (fun c => stripR p.reverse = ((stripR c.1.2.1.reverse).1, (stripR c.1.2.1.reverse).2 + c.2.1) ∧ 0 ≤ c.2.1 ∧ c.2.1 + (c.1.2.1.length : Int) = (p.length : Int)) (fun c => c.1.2.1.length) ((us, p, kp), (0, t0))
    F N ⟨hf, hg⟩ (fun q hq => by rw [List.mem_singleton.mp hq]; exact hk) ⟨by simp, Int.le_refl _, by simp⟩ turn hE) (fun f s₂ h => ?_) fun _ _ e => e
  have hn : f = .next := h.1
  subst hn
  exact rest s₂ h
theorem w_out {k : Nat} {P : Addr} {us : List Value} {p p2 : List Int} {k2 : Nat} {ed : Int} {ted : Tok} {L : Addr} {led : List (Addr × Obj)} {h' : Heap} {tk : Nat} {m' : Str → Option Value} {all : List (Addr × Obj)} (hf : IntsAre us p2) (hg : TG k us) (hst : stripR p.reverse = ((stripR p2.reverse).1, (stripR p2.reverse).2 + ed)) (h0 : 0 ≤ ed) (hl : ed + (p2.length : Int) = (p.length : Int)) (hz : stripR p2.reverse = (p2.reverse, 0))
    (F : Fr h₀ L h' m') (hm : m' = fun z => if z = Str.ofString "edges" then some (.int ed ted) else m z) (N : News h₀ L h' all) (hs : ∀ q ∈ (P, listOf us.toArray k2) :: led, q ∈ all) : WOut k h₀ L m P led p s .next { s with heap := h', toks := tk } := by
  subst hm
  rw [hz] at hst
  exact ⟨rfl, us, p2, k2, ed, ted, h', tk, rfl, hf, hg, by rw [hst]; simp, h0, hl, F, news_sub N hs⟩
theorem strip_nil : stripR ([] : List Int).reverse = (([] : List Int).reverse, 0) := rfl
theorem strip_lo {r : List Int} {y : Int} (h : ¬ 256 ≤ y) : stripR (r ++ [y]).reverse = ((r ++ [y]).reverse, 0) := by simp [stripR, h]
theorem strip_hi {p r : List Int} {y ed : Int} (h : 256 ≤ y) (hst : stripR p.reverse = ((stripR (r ++ [y]).reverse).1, (stripR (r ++ [y]).reverse).2 + ed)) : stripR p.reverse = ((stripR r.reverse).1, (stripR r.reverse).2 + (ed + 1)) := by
  rw [hst]
  simp [stripR, h]
  omega
end
def spc (n : Int) : Str := Txt.mul (Str.ofString " ") n
def leadStep (c : List Int × Str × Str) (x : Int) : Option (List Int × Str × Str) :=
  if 11 < c.1.length then none
  else if x = 7 then some (c.1 ++ [7], c.2.1, c.2.2)
  else if x = 0 then (if 40 < (c.2.1 ++ spc (stripR c.1.reverse).2).length then none else some ((stripR c.1.reverse).1.reverse, c.2.1 ++ spc (stripR c.1.reverse).2, c.2.2))
  else if x = 8 then
    (if (stripR c.1.reverse).1 = [] then none
    else if 1 - Int.fmod (cntP 7 (stripR c.1.reverse).1.reverse.dropLast) 2 = 0 then
      (if 40 < (c.2.1 ++ (spc ((stripR c.1.reverse).2 + 1) ++ Str.ofString "\t")).length then none else some ((stripR c.1.reverse).1.reverse.dropLast ++ [256 + (stripR c.1.reverse).2], c.2.1 ++ (spc ((stripR c.1.reverse).2 + 1) ++ Str.ofString "\t"), c.2.2))
    else (if 40 < (c.2.2 ++ (spc ((stripR c.1.reverse).2 + 1) ++ Str.ofString "\t")).length then none else some ((stripR c.1.reverse).1.reverse.dropLast ++ [256 + (stripR c.1.reverse).2], c.2.1, c.2.2 ++ (spc ((stripR c.1.reverse).2 + 1) ++ Str.ofString "\t"))))
  else some ((stripR c.1.reverse).1.reverse, c.2.1, c.2.2)
def leadF (l : List Int) : Option (List Int × Str × Str) := l.foldl (fun s x => s.bind fun s => leadStep s x) (some ([], Str.ofString "", Str.ofString ""))
theorem sub_perm4 {α : Type} {i c d a b e f : α} {l : List α} : ∀ p ∈ i :: c :: d :: a :: b :: e :: f :: l, p ∈ a :: b :: e :: f :: i :: c :: d :: l := fun p hp => by
  simp only [List.mem_cons] at hp ⊢
  rcases hp with h | h | h | h | h | h | h | h <;> simp only [h, true_or, or_true]
theorem sub_leads {α : Type} {q a b c d e f g h x y z : α} {l : List α} : ∀ p ∈ q :: a :: b :: c :: d :: e :: f :: g :: h :: l, p ∈ q :: e :: f :: g :: h :: a :: b :: c :: d :: x :: y :: z :: l := fun p hp => by
  simp only [List.mem_cons] at hp ⊢
  rcases hp with r | r | r | r | r | r | r | r | r | r <;> simp only [r, true_or, or_true]
theorem leadF_take {ns : List Int} {i : Nat} {x : Int} {c : List Int × Str × Str} (hx : ns[i]? = some x) (h : leadF (ns.take i) = some c) : leadF (ns.take (i + 1)) = leadStep c x := by
  unfold leadF at *
  rw [List.take_add_one, hx, List.foldl_append, h]
  rfl
theorem lead_none (l : List Int) : l.foldl (fun s x => s.bind fun s => leadStep s x) (none : Option (List Int × Str × Str)) = none := by
  induction l with
  | nil => rfl
  | cons x l ih => exact ih
theorem lead_some {ns : List Int} (h : (leadF ns).isSome = true) (i : Nat) : (leadF (ns.take i)).isSome = true := by
  cases e : leadF (ns.take i) with
  | some c => rfl
  | none =>
    have : leadF ns = none := by
      unfold leadF at *
      rw [← List.take_append_drop i ns, List.foldl_append, e]
      exact lead_none _
    rw [this] at h
    cases h
theorem lead7 {p : List Int} {e o : Str} (h : (leadStep (p, e, o) 7).isSome = true) : leadStep (p, e, o) 7 = some (p ++ [7], e, o) ∧ p.length ≤ 11 := by
  unfold leadStep at *
  dsimp only at *
  split at h
  · cases h
  · rename_i hl
    rw [if_neg hl]
    exact ⟨rfl, by omega⟩
theorem lead0 {p p2 : List Int} {e o : Str} {ed : Int} (hst : stripR p.reverse = (p2.reverse, ed)) (h : (leadStep (p, e, o) 0).isSome = true) : leadStep (p, e, o) 0 = some (p2, e ++ spc ed, o) ∧ (e ++ spc ed).length ≤ 40 ∧ p.length ≤ 11 := by
  unfold leadStep at *
  dsimp only at *
  rw [hst] at *
  split at h
  · cases h
  · rename_i hl
    rw [if_neg hl]
    rw [if_neg (by decide), if_pos rfl] at *
    split at h
    · cases h
    · rename_i hb
      rw [if_neg hb, List.reverse_reverse]
      exact ⟨rfl, Nat.not_lt.mp hb, by omega⟩
theorem leadX {p p2 : List Int} {e o : Str} {ed x : Int} (h7 : x ≠ 7) (h0 : x ≠ 0) (h8 : x ≠ 8) (hst : stripR p.reverse = (p2.reverse, ed)) (h : (leadStep (p, e, o) x).isSome = true) : leadStep (p, e, o) x = some (p2, e, o) ∧ p.length ≤ 11 := by
  unfold leadStep at *
  dsimp only at *
  rw [hst] at *
  split at h
  · cases h
  · rename_i hl
    rw [if_neg hl, if_neg h7, if_neg h0, if_neg h8, List.reverse_reverse]
    exact ⟨rfl, by omega⟩
def tabT : Str := Str.ofString "\t"
theorem lead8 {p p2 : List Int} {e o : Str} {ed : Int} (hst : stripR p.reverse = (p2.reverse, ed)) (h : (leadStep (p, e, o) 8).isSome = true) : p.length ≤ 11 ∧ p2 ≠ [] ∧
    ((1 - Int.fmod (cntP 7 p2.dropLast) 2 = 0 ∧ leadStep (p, e, o) 8 = some (p2.dropLast ++ [256 + ed], e ++ (spc (ed + 1) ++ tabT), o) ∧ (e ++ (spc (ed + 1) ++ tabT)).length ≤ 40) ∨
     (1 - Int.fmod (cntP 7 p2.dropLast) 2 ≠ 0 ∧ leadStep (p, e, o) 8 = some (p2.dropLast ++ [256 + ed], e, o ++ (spc (ed + 1) ++ tabT)) ∧ (o ++ (spc (ed + 1) ++ tabT)).length ≤ 40)) := by
  unfold leadStep at *
  dsimp only at *
  rw [hst] at *
  dsimp only at *
  rw [List.reverse_reverse] at *
  split at h
  · cases h
  · rename_i hl
    rw [if_neg hl]
    rw [if_neg (by decide), if_neg (by decide), if_pos rfl] at *
    split at h
    · cases h
    · rename_i hn
      rw [if_neg hn]
      refine ⟨by omega, fun q => hn (by rw [q]; rfl), ?_⟩
      split at h
      · rename_i hz
        left
        rw [if_pos hz]
        split at h
        · cases h
        · rename_i hb
          rw [if_neg hb]
          exact ⟨hz, rfl, Nat.not_lt.mp hb⟩
      · rename_i hz
        right
        rw [if_neg hz]
        split at h
        · cases h
        · rename_i hb
          rw [if_neg hb]
          exact ⟨hz, rfl, Nat.not_lt.mp hb⟩
local macro_rules | `(tactic| walk_at "exec For Name Call cons nil") => `(tactic| walk_at "kc4")
local macro_rules | `(tactic| walk_at "exec For Name Name cons nil") => `(tactic| walk_at "kc4")
local macro_rules | `(tactic| walk_at "PostC") => `(tactic| refine pause ?_)
local macro_rules | `(tactic| walk_at "execs cons") => `(tactic| (k_here; (refine execs_N (by assumption) (by first | assumption | omega | (dsimp only; omega)) ?_)))
local macro_rules | `(tactic| walk_at "execs nil") => `(tactic| (k_here; (rename TokN _ => hTokN9); (refine wpAny_execs_nil ?_)))
local macro_rules | `(tactic| walk_at "TokImp") => `(tactic| (refine tok_imp ?_; intro hTok9; (try dsimp only at hTok9)))
local macro_rules | `(tactic| walk_at "compareOp NotEq ref ref") => `(tactic| walk_at "kc3")
local macro_rules | `(tactic| walk_at "call ref") => `(tactic| ((with_reducible show wpAny _ _ (call (Value.ref 129) _ _) _ _ _); refine pause ?_))
local macro_rules | `(tactic| walk_at "WOut") => `(tactic| refine pause ?_)
local macro_rules | `(tactic| walk_at "subscriptTail") => `(tactic| ((with_reducible show wpAny _ _ (subscriptTail _ _ (Value.ref _) (Value.int (-1) _)) _ _ _); refine pause ?_))
local macro_rules | `(tactic| walk_at "call ref") => `(tactic| (k_here; (apply c_eof); walk_at "k8"; walk_at "k9"))
local macro_rules | `(tactic| walk_at "call ref") => `(tactic| (k_here; (apply c_nt); walk_at "k8"; walk_at "k9"))
local macro_rules | `(tactic| walk_at "call ref") => `(tactic| (k_here; (refine tok_ofN (by assumption) (by first | assumption | omega | (dsimp only; omega)) ?_); (apply c_eof); walk_at "k8"; walk_at "k9"))
local macro_rules | `(tactic| walk_at "call ref") => `(tactic| (k_here; (apply c_ws); walk_at "k8"; (iterate 2 (next => assumption)); intro wx wd wnrm wcnt wus wns wb wtb v1 v2 v3 v5 t1 t2 t3 t4 t5 kd wh wtk wI wP wb0 wb1 wl a1 a2 a3 a4 F9 N9; (simp only [AllLt, and_true] at a1 a2 a3 a4); (try dsimp only); (try k_fold)))
local macro_rules | `(tactic| walk_at "CompEnd") => `(tactic| (k_here; (refine LCg.CompEnd.intro (by assumption) (by assumption) _ sub_perm4 ?zo ?zs ?_); (case zo => exact ⟨⟨by k_ne, by k_ne, by k_ne⟩, ⟨by k_ne, by k_ne, by k_ne⟩, ⟨by k_ne, by k_ne, by k_ne⟩, ⟨by k_ne, by k_ne, by k_ne⟩, by k_dflt assumption⟩); (case zs => lcg_src)))
set_option maxRecDepth 100000 in
set_option maxHeartbeats 8000000 in
theorem c_leads : ∀ (w : World) (mean : ExcName → Option Value) (mg mb : Str → Option Value) (dp un : Nat) (gd : Option (List Code)) (cn : Str) (cs : Scope) (a : Addr) (ccd : Value) (cl : List (Str × Addr)) (outer : List Env) (A₀ : Around) (base h₀ : Heap) (L : Addr) (m : Str → Option Value) (news : List (Addr × Obj)) (s : Shared) (Q E : Value → Shared → Prop)
   (la : Addr) (vs : List Value) (ns : List Int) (n1 : Nat) (p0 : List Int) (e0 o0 : Str),
    ∀ (kB : Below A₀ base outer h₀) (kF : Fr h₀ L s.heap m) (kX : (hd.heap_39 w.params).In h₀) (kN : News h₀ L s.heap news) (kT : Top hd.view_39 LW mean mg mb h₀) (kK : cs.kind = .function) (kD : dp + 3 < recursionLimit) (kU : un + 112 < cLine),
    (la, listOf vs.toArray n1) ∈ news → IntsAre vs ns → TokNZ vs → leadF ns = some (p0, e0, o0) → (∀ k ∈ e0.cps.toList, k = 32 ∨ k = 9) → (∀ k ∈ o0.cps.toList, k = 32 ∨ k = 9) → ns.length ≤ 12 →
    (∀ q kq x1 d1 nrm1 cnt1 us1 ns1 b1 tb1 v11 v21 v31 v51 t11 t21 t31 t41 t51 kd1 x2 d2 nrm2 cnt2 us2 ns2 b2 tb2 v12 v22 v32 v52 t12 t22 t32 t42 t52 kd2 h' tk', IntsAre us1 ns1 → (ns1, b1) = wsP e0.cps.toList → 0 ≤ b1 → b1 ≤ 40 → ns1.length ≤ 41 → IntsAre us2 ns2 → (ns2, b2) = wsP o0.cps.toList → 0 ≤ b2 → b2 ≤ 40 → ns2.length ≤ 41 → Fr h₀ L h' m → News h₀ L h' ((q, listOf #[.ref x1, .ref x2] kq) :: (x1, instObj 83 d1) :: (d1, dictOf [{ hash := PyData.keyHash w.params (Str.ofString "raw"), key := .str (Str.ofString "raw") t11, val := v11 }, { hash := PyData.keyHash w.params (Str.ofString "n"), key := .str (Str.ofString "n") t21, val := v21 }, { hash := PyData.keyHash w.params (Str.ofString "nt"), key := .str (Str.ofString "nt") t31, val := v31 }, { hash := PyData.keyHash w.params (Str.ofString "norm"), key := .str (Str.ofString "norm") t41, val := .ref nrm1 }, { hash := PyData.keyHash w.params (Str.ofString "is_simple"), key := .str (Str.ofString "is_simple") t51, val := v51 }] kd1) :: (nrm1, { cls := .type "tuple", data := .seq #[.ref cnt1, .int b1 tb1] }) :: (cnt1, { cls := .type "tuple", data := .seq us1.toArray }) :: (x2, instObj 83 d2) :: (d2, dictOf [{ hash := PyData.keyHash w.params (Str.ofString "raw"), key := .str (Str.ofString "raw") t12, val := v12 }, { hash := PyData.keyHash w.params (Str.ofString "n"), key := .str (Str.ofString "n") t22, val := v22 }, { hash := PyData.keyHash w.params (Str.ofString "nt"), key := .str (Str.ofString "nt") t32, val := v32 }, { hash := PyData.keyHash w.params (Str.ofString "norm"), key := .str (Str.ofString "norm") t42, val := .ref nrm2 }, { hash := PyData.keyHash w.params (Str.ofString "is_simple"), key := .str (Str.ofString "is_simple") t52, val := v52 }] kd2) :: (nrm2, { cls := .type "tuple", data := .seq #[.ref cnt2, .int b2 tb2] }) :: (cnt2, { cls := .type "tuple", data := .seq us2.toArray }) :: news) → Q (.ref q) { s with heap := h', toks := tk' }) →
    wpAny (model PP.row.prog w) (ktrTop dp un gd cn cs L a ccd cl outer) (call (.ref 175) [.ref la]) Q E s := by
  k_fill
  intro w mean mg mb dp un gd cn cs a ccd cl outer A₀ base h₀ L m news s Q E la vs ns n1 p0 e0 o0 B F X N T hk hd hu m1 i1 hnz hok0 hge hgo hlen hret
  have hMk : KstMark := kstMark
  have hl1 : vs.length = ns.length := i1.length
  have hok : (leadF ns).isSome = true := by rw [hok0]; rfl
  replace N := news_cons m1 N N
  refine wpAny_call ?_
  k_dflt (refine' code_def (binds := [(Str.ofString "symbols", .ref la)]) ?k1 ?k2 ?k3 ?k4 ?k5 ?kA ?kF ?kK ?k6 ?k7 ?k8 ?k9 ?kB ?_ ?c2 ?c3 ?c4 ?c5; (case kA => exact rfl); (case kF => exact rfl); (case kK => assumption); (case k1 => k_asm); (case k2 => k_asm); (case k3 => k_asm); (case k4 => k_asm); (case k5 => k_asm); (case k6 => k_is); (case k7 => k_is); (case k8 => ktr_room); (case k9 => exact BindsTo.of_eq (by kernel_rfl)); (case c5 => decide); (case kB => exact locs (by kernel_rfl)); (case c2 => exact rfl); (case c3 => exact rfl); (case c4 => exact rfl); k_whole; intro gE LE hE FG' F' N' B' X' T'; (try dsimp only); (try k_fold))
  have hN0 := tok_n (n := 1)
  simp only [List.length_cons, List.length_nil]
  k_steps
  refine resume ?_
  rename Fr _ _ _ _ => F2
  rename News _ _ _ _ => N2
  rename _ ∧ _ ∧ AllLt _ _ => lP
  rename la < _ ∧ AllLt _ news => lD
  refine my_seqC (σ := (List Value × List Int × Nat) × (Str × Tok) × (Str × Tok) × Nat)
    (fun c => (la, listOf vs.toArray n1) :: (_, listOf c.1.1.toArray c.1.2.2) :: (_, listOf #[.str c.2.1.1 c.2.1.2, .str c.2.2.1.1 c.2.2.1.2] c.2.2.2) :: news)
    (fun _ => []) [Str.ofString "symbol", Str.ofString "edges"]
    (fun i c tk => 1 ≤ tk ∧ IntsAre c.1.1 c.1.2.1 ∧ TG tk c.1.1 ∧ leadF (ns.take i) = some (c.1.2.1, c.2.1.1, c.2.2.1.1) ∧ c.1.2.1.length ≤ 12 ∧ c.2.1.1.length ≤ 40 ∧ c.2.2.1.1.length ≤ 40)
    (([], [], 0), (_, _), (_, _), 0) (fun i c t t' hle h => ⟨Nat.le_trans h.1 hle, h.2.1, h.2.2.1.mono hle, h.2.2.2⟩) rfl (.inl rfl) ⟨n1, rfl⟩ (fun _ => .head _) F2 (news_sub N2 (by first | kst_in | kst_inAny)) (fun _ h => nomatch h) ⟨?tk1, .nil, tg_nil, rfl, Nat.zero_le _, (by show (Str.ofString "").length ≤ 40; decide +kernel), (by show (Str.ofString "").length ≤ 40; decide +kernel)⟩ ?turn ?done
  case tk1 => dsimp only; omega
  case turn =>
    clear F2 N2
    intro I i c v it u h tk hIlt hi hv hP hI F1 N1
    obtain ⟨⟨us, p, kp⟩, ⟨e, te⟩, ⟨o, to⟩, kl⟩ := c
    obtain ⟨htk1, hf, hg, hfold, hpl, hel, hol⟩ := hP
    have hN := tok_n (n := tk)
    dsimp only at hf hg hfold hpl hel hol N1
    obtain ⟨tx, hvx⟩ := ints_get i1 hv
    have hm : v ∈ vs := List.mem_of_getElem? hv
    have hxi : ns[i]? = some (ns.getD i 0) := by rw [List.getD_eq_getElem?_getD, List.getElem?_eq_getElem (by omega)]; rfl
    generalize ns.getD i 0 = x at hvx hxi
    subst hvx
    have hstep := leadF_take hxi hfold
    have hsome := lead_some hok (i + 1)
    rw [hstep] at hsome
    have htx := hnz.nz _ _ hm
    have q0 : @LT.lt Nat _ la I := hIlt _ (.head _)
    have q1 : @LT.lt Nat _ _ I := hIlt _ (.tail _ (.head _))
    have q2 : @LT.lt Nat _ _ I := hIlt _ (.tail _ (.tail _ (.head _)))
    have q3 : AllLt I news := allLt_in fun p hp => hIlt p (.tail _ (.tail _ (.tail _ hp)))
    have hul : us.length = p.length := hf.length
    dsimp only [kstB] at *
    k_steps
    · refine resume ?_
      rename Fr _ _ _ _ => F6
      rename News _ _ _ _ => N6
      rename x = 7 => hx
      simp only [List.push_toArray] at N6
      refine endC ((us ++ [.int x tx], p ++ [x], kp + 1), (e, te), (o, to), kl) F6 N6 (by k_mem) (by first | kst_in | kst_inAny) ?ne (fun _ h => nomatch h) (by ksw_same) ⟨by dsimp only; omega, ints_snoc hf, tg_snoc (hg.mono (by omega)) ⟨htx, .inl hx⟩, ?pf, ?pl, hel, hol⟩
      case ne => exact List.forall_mem_cons.mpr ⟨Nat.ne_of_lt q0, List.forall_mem_cons.mpr ⟨Nat.ne_of_lt q1, List.forall_mem_cons.mpr ⟨Nat.ne_of_lt q2, fun p hp => Nat.ne_of_lt (allLt_out q3 p hp)⟩⟩⟩
      case pf => subst hx; rw [hstep]; exact (lead7 hsome).1
      case pl => subst hx; have := (lead7 hsome).2; dsimp only; rw [List.length_append, List.length_singleton]; omega
    · refine resume ?_
      rename Fr _ _ _ _ => F6
      rename News _ _ _ _ => N6
      refine while_strip (led := (I, it) :: (la, listOf vs.toArray n1) :: (_, listOf #[.str e te, .str o to] kl) :: news) F6 (news_sub N6 (by first | kst_in | kst_inAny)) hf hg (by with_unfolding_all rfl) ?turnW ?rest
      case turnW =>
        clear F6 N6
        intro c u2 h2 tk2 hfc hpc F3 N3
        obtain ⟨⟨us2, p2, kp2⟩, ⟨ed, ted⟩⟩ := c
        obtain ⟨hf2, hg2⟩ := hfc
        obtain ⟨hst, hed0, hedl⟩ := hpc
        dsimp only at hf2 hg2 hst hed0 hedl N3
        have hul2 : us2.length = p2.length := hf2.length
        have hpl2 : p2.length ≤ 12 := by omega
        rcases ints_snoc_cases hf2 hg2 with ⟨rfl, rfl⟩ | ⟨ur, r, y, ty, rfl, rfl, hfr, hgr⟩
        · dsimp only [kstB] at *
          k_steps
          all_goals refine resume ?_
          rename Fr _ _ _ _ => F7
          rename News _ _ _ _ => N7
          exact w_out .nil tg_nil hst hed0 hedl strip_nil F7 (by first | rfl | (funext z; rfl) | (funext z; by_cases hz : z = Str.ofString "edges"; (rw [if_pos hz, if_pos hz]); (rw [if_neg hz, if_neg hz, if_neg (by simp)]))) N7 (by first | kst_in | kst_inAny)
        · have hur : ur.length = r.length := hfr.length
          have hul3 : 0 < (ur ++ [Value.int y ty]).length := by simp
          dsimp only [kstB] at *
          k_steps
          · exfalso
            rename decide (_ = ([] : List Int)) = _ => hd
            simp at hd
          · refine resume ?_
            rename Fr _ _ _ _ => F7
            rename News _ _ _ _ => N7
            rename 256 ≤ y => hy
            rename IntsAre (List.dropLast _) _ => i7
            rw [List.dropLast_concat] at N7 i7
            refine ksw_end ((ur, r, _), (ed + 1, _)) F7 N7 (by first | kst_in | kst_inAny) ⟨hfr, hgr⟩ (by kst_all) (by ksw_same) ⟨strip_hi hy hst, by dsimp only; omega, ?_⟩ ?_
            · dsimp only
              rw [List.length_append, List.length_singleton] at hedl
              omega
            · show r.length < (r ++ [y]).length
              rw [List.length_append, List.length_singleton]
              omega
          · refine resume ?_
            rename Fr _ _ _ _ => F7
            rename News _ _ _ _ => N7
            rename ¬ 256 ≤ y => hy
            exact w_out hf2 hg2 hst hed0 hedl (strip_lo hy) F7 (by first | rfl | (funext z; rfl) | (funext z; by_cases hz : z = Str.ofString "edges"; (rw [if_pos hz, if_pos hz]); (rw [if_neg hz, if_neg hz, if_neg (by simp)]))) N7 (by first | kst_in | kst_inAny)
      case rest =>
        clear F6 N6
        intro s₂ hW
        obtain ⟨_, us2, p2, k2, ed, ted, h2, tk2, rfl, hf2, hg2, hst, hed0, hedl, F3, N3⟩ := hW
        have hul2 : us2.length = p2.length := hf2.length
        have hp2l : p2.length ≤ 12 := by omega
        rename x ≠ 7 => hx7
        by_cases hx0 : x = 0
        · subst hx0
          have hs0 := lead0 hst hsome
          have hels := hs0.2.1
          rw [slen] at hels
          have hed8 : ed ≤ 12 := by omega
          k_steps
          rename Fr _ _ _ _ => F7
          rename News _ _ _ _ => N7
          refine my_get N7 (by k_mem) (by decide) (by decide) rfl ?_
          k_steps
          skip
          refine resume ?_
          rename Fr _ _ _ _ => F8
          rename News _ _ _ _ => N8
          refine endC ((us2, p2, k2), (e ++ spc ed, _), (o, to), kl) F8 N8 (by k_mem) (fun p hp => by rcases List.mem_cons.mp hp with rfl | hp; exact .tail _ (.tail _ (.head _)); rcases List.mem_cons.mp hp with rfl | hp; exact .head _; rcases List.mem_cons.mp hp with rfl | hp; exact .tail _ (.tail _ (.tail _ (.head _))); exact .tail _ (.tail _ (.tail _ (.tail _ hp)))) ?ne0 (fun _ h => nomatch h) (by ksw_same) ⟨by dsimp only; omega, hf2, hg2.mono (by omega), ?pf0, ?pl0, hs0.2.1, hol⟩
          case ne0 => exact List.forall_mem_cons.mpr ⟨Nat.ne_of_lt q0, List.forall_mem_cons.mpr ⟨Nat.ne_of_lt q1, List.forall_mem_cons.mpr ⟨Nat.ne_of_lt q2, fun p hp => Nat.ne_of_lt (allLt_out q3 p hp)⟩⟩⟩
          case pf0 => rw [hstep]; exact hs0.1
          case pl0 => dsimp only; omega
        · by_cases hx8 : x = 8
          · subst hx8
            have hs8 := lead8 hst hsome
            have hed8 : ed ≤ 12 := by omega
            rcases ints_snoc_cases hf2 hg2 with ⟨rfl, rfl⟩ | ⟨ur, r, y, ty, rfl, rfl, hfr, hgr⟩
            · exact absurd rfl hs8.2.1
            · have hur : ur.length = r.length := hfr.length
              have hul3 : 0 < (ur ++ [Value.int y ty]).length := by simp
              rw [List.dropLast_concat] at hs8
              k_steps
              refine resume ?_
              rename News _ _ _ _ => N5
              rw [List.dropLast_concat] at N5
              refine tok_ofN hN (by first | assumption | omega | (dsimp only; omega)) ?_
              refine' c_cnt _ _ _ _ _ _ _ _ _ _ _ _ _ _ _ _ _ _ _ _ _ _ _ _ _ _ _ _ ?kB ?kF ?kX ?kN ?kT ?kK ?kD ?kU ?km ?ki ?kt ?ku rfl ?_
              case kB => k_asm
              case kF => k_asm
              case kX => k_asm
              case kN => k_asm
              case kT => k_asm
              case kK => first | exact rfl | assumption
              case kD => ktr_room
              case kU => ktr_units
              case km => k_mem
              case ki => exact hfr
              case kt => exact fun n t hm => ⟨(hgr.tg n t hm).1, (hgr.tg n t hm).2.imp id fun q => Nat.ne_of_lt (Nat.lt_of_lt_of_le q (by omega))⟩
              case ku => exact Nat.succ_ne_zero _
              intro tc hc tkc Fc Nc
              k_steps
              have hfm : Int.fmod (cntP 7 r) 2 = 0 ∨ Int.fmod (cntP 7 r) 2 = 1 := by
                rw [Int.fmod_eq_emod_of_nonneg _ (by decide)]
                omega
              rename News _ _ _ _ => N7
              rcases hs8.2.2 with ⟨hz, hs, hl⟩ | ⟨hz, hs, hl⟩
              · rw [slen, slen] at hl
                have htab : tabT.length = 1 := by decide +kernel
                have htab2 : (Str.ofString "\t").length = 1 := htab
                rw [hz]
                refine my_get N7 (by k_mem) (by decide) (by decide) rfl ?_
                k_steps
                refine resume ?_
                rename Fr _ _ _ _ => F8
                rename News _ _ _ _ => N8
                simp only [List.push_toArray] at N8
                refine endC ((ur ++ [.int (256 + ed) _], r ++ [256 + ed], _), (e ++ (spc (ed + 1) ++ tabT), _), (o, _), kl) F8 N8 (by k_mem) (fun p hp => by rcases List.mem_cons.mp hp with rfl | hp; exact .tail _ (.tail _ (.head _)); rcases List.mem_cons.mp hp with rfl | hp; exact .head _; rcases List.mem_cons.mp hp with rfl | hp; exact .tail _ (.tail _ (.tail _ (.head _))); exact .tail _ (.tail _ (.tail _ (.tail _ hp)))) ?neA (fun _ h => nomatch h) (by ksw_same) ⟨by dsimp only; omega, ints_snoc hfr, tg_snoc (hgr.mono (by omega)) ⟨Nat.ne_of_gt (by omega), .inr (Nat.lt_succ_self _)⟩, ?pfA, ?plA, (by show (e ++ (spc (ed + 1) ++ tabT)).length ≤ 40; rw [slen, slen]; exact hl), hol⟩
                case neA => exact List.forall_mem_cons.mpr ⟨Nat.ne_of_lt q0, List.forall_mem_cons.mpr ⟨Nat.ne_of_lt q1, List.forall_mem_cons.mpr ⟨Nat.ne_of_lt q2, fun p hp => Nat.ne_of_lt (allLt_out q3 p hp)⟩⟩⟩
                case pfA => rw [hstep]; exact hs
                case plA =>
                  dsimp only
                  have := hs8.1
                  rw [List.length_append, List.length_singleton] at *
                  omega
              · rw [slen, slen] at hl
                have htab : tabT.length = 1 := by decide +kernel
                have htab2 : (Str.ofString "\t").length = 1 := htab
                have hz1 : 1 - Int.fmod (cntP 7 r) 2 = 1 := by omega
                rw [hz1]
                refine my_get N7 (by k_mem) (by decide) (by decide) rfl ?_
                k_steps
                refine resume ?_
                rename Fr _ _ _ _ => F8
                rename News _ _ _ _ => N8
                simp only [List.push_toArray] at N8
                refine endC ((ur ++ [.int (256 + ed) _], r ++ [256 + ed], _), (e, _), (o ++ (spc (ed + 1) ++ tabT), _), kl) F8 N8 (by k_mem) (fun p hp => by rcases List.mem_cons.mp hp with rfl | hp; exact .tail _ (.tail _ (.head _)); rcases List.mem_cons.mp hp with rfl | hp; exact .head _; rcases List.mem_cons.mp hp with rfl | hp; exact .tail _ (.tail _ (.tail _ (.head _))); exact .tail _ (.tail _ (.tail _ (.tail _ hp)))) ?neB (fun _ h => nomatch h) (by ksw_same) ⟨by dsimp only; omega, ints_snoc hfr, tg_snoc (hgr.mono (by omega)) ⟨Nat.ne_of_gt (by omega), .inr (Nat.lt_succ_self _)⟩, ?pfB, ?plB, hel, (by show (o ++ (spc (ed + 1) ++ tabT)).length ≤ 40; rw [slen, slen]; exact hl)⟩
                case neB => exact List.forall_mem_cons.mpr ⟨Nat.ne_of_lt q0, List.forall_mem_cons.mpr ⟨Nat.ne_of_lt q1, List.forall_mem_cons.mpr ⟨Nat.ne_of_lt q2, fun p hp => Nat.ne_of_lt (allLt_out q3 p hp)⟩⟩⟩
                case pfB => rw [hstep]; exact hs
                case plB =>
                  dsimp only
                  have := hs8.1
                  rw [List.length_append, List.length_singleton] at *
                  omega
          · have hsX := leadX hx7 hx0 hx8 hst hsome
            k_steps
            · exact absurd (by assumption) hx0
            · exact absurd (by assumption) hx8
            refine resume ?_
            rename Fr _ _ _ _ => F7
            rename News _ _ _ _ => N7
            refine endC ((us2, p2, k2), (e, te), (o, to), kl) F7 N7 (by k_mem) (fun p hp => by rcases List.mem_cons.mp hp with rfl | hp; exact .tail _ (.tail _ (.head _)); rcases List.mem_cons.mp hp with rfl | hp; exact .head _; rcases List.mem_cons.mp hp with rfl | hp; exact .tail _ (.tail _ (.tail _ (.head _))); exact .tail _ (.tail _ (.tail _ (.tail _ hp)))) ?neX (fun _ h => nomatch h) (by ksw_same) ⟨by dsimp only; omega, hf2, hg2.mono (by omega), ?pfX, ?plX, hel, hol⟩
            case neX => exact List.forall_mem_cons.mpr ⟨Nat.ne_of_lt q0, List.forall_mem_cons.mpr ⟨Nat.ne_of_lt q1, List.forall_mem_cons.mpr ⟨Nat.ne_of_lt q2, fun p hp => Nat.ne_of_lt (allLt_out q3 p hp)⟩⟩⟩
            case pfX => rw [hstep]; exact hsX.1
            case plX => dsimp only; omega
  case done =>
    clear F2 N2
    intro c u h tk hP F1 N1
    obtain ⟨⟨us, p, kp⟩, ⟨e, te⟩, ⟨o, to⟩, kl⟩ := c
    obtain ⟨htk1, hf, hg, hfold, hpl, hel, hol⟩ := hP
    clear hN0
    dsimp only at hf hg hfold hpl hel hol N1
    rw [hl1, List.take_length, hok0] at hfold
    have e1 := Option.some.inj hfold
    obtain ⟨rfl, rfl, rfl⟩ : p0 = p ∧ e0 = e ∧ o0 = o := ⟨congrArg Prod.fst e1, congrArg (fun x => x.2.1) e1, congrArg (fun x => x.2.2) e1⟩
    dsimp only [kstB] at *
    k_steps
    rename Fr h₀ L _ _ => kF
    rename News h₀ L _ _ => kN
    exact hret _ _ _ _ _ _ _ _ _ _ _ _ _ _ _ _ _ _ _ _ _ _ _ _ _ _ _ _ _ _ _ _ _ _ _ _ _ _ _ _ (by assumption) (by assumption) (by assumption) (by assumption) (by assumption) (by assumption) (by assumption) (by assumption) (by assumption) (by assumption) kF (news_sub kN sub_leads)

end
section
section
variable {prog : Program} {w : World} {A : Around} {E : Value → Shared → Prop} {s : Shared} {h₀ : Heap} {L : Addr}
theorem my_lenT {c : Addr} {us : List Value} {n k : Nat} {news : List (Addr × Obj)} {Q : Value → Shared → Prop} (N : News h₀ L s.heap news) (hm : (c, ({ cls := .type "tuple", data := .seq us.toArray k } : Obj)) ∈ news) (e : us.length = n) (hf : n ≤ 100) (h : ∀ t tk, Q (.int (n : Int) t) { s with toks := tk }) :
    wpAny (model prog w) A (call (.builtin "len") [.ref c]) Q E s := by
  have ht : IsTup s.heap c us.toArray := ⟨_, (N _ hm).1, rfl, k, rfl⟩
  have es : us.toArray.size = n := by rw [List.size_toArray]; exact e
  refine len_tuple ht (by rw [es]; omega) ?_
  rw [es]
  exact h _ _
theorem my_itemT {value slice : Expr} {c : Addr} {us : List Value} {ns : List Int} {nn : Nat} {k : Int} {u : Tok} {news : List (Addr × Obj)} {Q : Value → Shared → Prop} (N : News h₀ L s.heap news) (hm : (c, ({ cls := .type "tuple", data := .seq us.toArray nn } : Obj)) ∈ news) (hi : IntsAre us ns) (h0 : 0 ≤ k) (h1 : k < ns.length) (hf : k < 2 ^ 63) (h : ∀ t, Q (.int (ns.getD k.toNat 0) t) s)
    (hs : subscripted slice false (.ref c) (.int k u) = operate [.ref c, .int k u] (getItem (.ref c) (.int k u))) (hg : ∀ r, letTemporaryGo value (.ref c) r = pure ()) :
    wpAny (model prog w) A (subscriptTail value slice (.ref c) (.int k u)) Q E s :=
  item_tuple_ints ⟨_, (N _ hm).1, rfl, nn, rfl⟩ hi h0 h1 hf h hs hg
end
local macro_rules | `(tactic| walk_at "exec For Name Call cons nil") => `(tactic| walk_at "kc4")
local macro_rules | `(tactic| walk_at "exec For Name Name cons nil") => `(tactic| walk_at "kc4")
local macro_rules | `(tactic| walk_at "PostC") => `(tactic| refine pause ?_)
local macro_rules | `(tactic| walk_at "call builtin:len") => `(tactic| (k_here; (with_reducible show wpAny _ _ (call (Value.builtin _) [Value.ref _]) _ _ _); k_dflt (refine' my_lenT ?zN ?zm ?ze ?zf ?_; (case zN => k_asm); (case zm => k_mem); (case ze => assumption); (case zf => omega)); intro _ _))
local macro_rules | `(tactic| walk_at "subscriptTail") => `(tactic| (k_here; (with_reducible show wpAny _ _ (subscriptTail _ _ (Value.ref _) (Value.int _ _)) _ _ _); k_dflt (refine' my_itemT ?zN ?zm ?zi ?z0 ?z1 ?z2 ?_ ?zs ?zg; (case zN => k_asm); (case zm => k_mem); (case zi => with_reducible assumption); (case z0 => walk_at "ka"); (case z1 => walk_at "ka"); (case z2 => walk_at "ka"); (case zs => with_unfolding_all rfl); (case zg => intro _; with_unfolding_all rfl)); intro _))
def lrsP (ns : List Int) (b : Int) : Int := if b > (ns.length : Int) - 1 then b else (ns.length : Int) - 1
def manyP (ns : List Int) (b s : Int) : Int := (if s < (ns.length : Int) then ns.getD s.toNat 0 else 0) + (if s = b then 1 else 0)
def worthF (ns : List Int) (b : Int) (as : List Int) : Nat → Int
  | 0 => 1
  | i + 1 => worthF ns b as i * (as.getD i 0) ^ (manyP ns b (1 + (i : Int))).toNat
def worthP (ns : List Int) (b : Int) (as : List Int) : Int := worthF ns b as (lrsP ns b).toNat
structure MulAll (w x : Int) : Prop where
  ok : ∀ y : Int, 0 ≤ y → y ≤ 8 → IntMulOk w (x ^ y.toNat)
theorem pow13 {x : Int} (h1 : -13 ≤ x) (h2 : x ≤ 13) : ∀ n : Nat, n ≤ 8 → (x ^ n).natAbs ≤ 2 ^ (4 * n) := by
  intro n _
  rw [Int.natAbs_pow, Nat.pow_mul]
  exact Nat.pow_le_pow_left (by omega) n
theorem mulAll {w x : Int} {i : Nat} (hw : w.natAbs ≤ 2 ^ (32 * i)) (hi : i ≤ 100) (h1 : -13 ≤ x) (h2 : x ≤ 13) : MulAll w x := ⟨fun y h0 h8 => mulOk_of hw (Nat.le_trans (pow13 h1 h2 y.toNat (by omega)) (Nat.pow_le_pow_right (by decide) (show 4 * y.toNat ≤ 32 by omega))) (by omega)⟩
theorem worth_bnd {w x : Int} {y : Int} {i : Nat} (hw : w.natAbs ≤ 2 ^ (32 * i)) (h1 : -13 ≤ x) (h2 : x ≤ 13) (h8 : y ≤ 8) : (w * x ^ y.toNat).natAbs ≤ 2 ^ (32 * (i + 1)) := by
  have h3 := Nat.le_trans (pow13 h1 h2 y.toNat (by omega)) (Nat.pow_le_pow_right (by decide) (show 4 * y.toNat ≤ 32 by omega))
  have h4 := mul_le hw h3
  rw [show 32 * i + 32 = 32 * (i + 1) by omega] at h4
  exact h4
theorem getD_all {P : Int → Prop} {l : List Int} (h : ∀ a ∈ l, P a) (h0 : P 0) (i : Nat) : P (l.getD i 0) := by
  by_cases hi : i < l.length
  · exact h _ (getD_mem hi)
  · rw [List.getD_eq_getElem?_getD, List.getElem?_eq_none (by omega)]
    exact h0
set_option maxRecDepth 100000 in
set_option maxHeartbeats 8000000 in
theorem c_long : ∀ (w : World) (mean : ExcName → Option Value) (mg mb : Str → Option Value) (dp un : Nat) (gd : Option (List Code)) (cn : Str) (cs : Scope) (a : Addr) (ccd : Value) (cl : List (Str × Addr)) (outer : List Env) (A₀ : Around) (base h₀ : Heap) (L : Addr) (m : Str → Option Value) (news : List (Addr × Obj)) (s : Shared) (Q E : Value → Shared → Prop)
   (lx d nrm cnt : Addr) (us : List Value) (ns : List Int) (b : Int) (tb : Tok) (v1 v2 v3 v5 : Value) (t1 t2 t3 t4 t5 : Tok) (kd : Nat),
    ∀ (kB : Below A₀ base outer h₀) (kF : Fr h₀ L s.heap m) (kX : (hd.heap_39 w.params).In h₀) (kN : News h₀ L s.heap news) (kT : Top hd.view_39 LW mean mg mb h₀) (kK : cs.kind = .function) (kD : dp + 1 < recursionLimit) (kU : un + 80 < cLine),
    (lx, instObj 83 d) ∈ news → (d, dictOf [{ hash := PyData.keyHash w.params (Str.ofString "raw"), key := .str (Str.ofString "raw") t1, val := v1 }, { hash := PyData.keyHash w.params (Str.ofString "n"), key := .str (Str.ofString "n") t2, val := v2 }, { hash := PyData.keyHash w.params (Str.ofString "nt"), key := .str (Str.ofString "nt") t3, val := v3 }, { hash := PyData.keyHash w.params (Str.ofString "norm"), key := .str (Str.ofString "norm") t4, val := .ref nrm }, { hash := PyData.keyHash w.params (Str.ofString "is_simple"), key := .str (Str.ofString "is_simple") t5, val := v5 }] kd) ∈ news → (nrm, { cls := .type "tuple", data := .seq #[.ref cnt, .int b tb] }) ∈ news → (cnt, { cls := .type "tuple", data := .seq us.toArray }) ∈ news → IntsAre us ns → ns.length ≤ 41 → 0 ≤ b → b ≤ 40 →
    (∀ t h' tk', Fr h₀ L h' m → News h₀ L h' news → Q (.int (lrsP ns b) t) { s with heap := h', toks := tk' }) →
    wpAny (model PP.row.prog w) (ktrTop dp un gd cn cs L a ccd cl outer) (call (.ref 45) [.ref lx]) Q E s := by
  k_fill
  intro w mean mg mb dp un gd cn cs a ccd cl outer A₀ base h₀ L m news s Q E lx d nrm cnt us ns b tb v1 v2 v3 v5 t1 t2 t3 t4 t5 kd B F X N T hk hd hu mx md mn mc iu hnl hb0 hb1 hret
  have hMk : KstMark := kstMark
  have hl2 : us.length = ns.length := iu.length
  replace N := news_cons mx N (news_cons md N (news_cons mn N (news_cons mc N N)))
  refine wpAny_call ?_
  k_dflt (refine' code_def (binds := [(Str.ofString "self", .ref lx)]) ?k1 ?k2 ?k3 ?k4 ?k5 ?kA ?kF ?kK ?k6 ?k7 ?k8 ?k9 ?kB ?_ ?c2 ?c3 ?c4 ?c5; (case kA => exact rfl); (case kF => exact rfl); (case kK => assumption); (case k1 => k_asm); (case k2 => k_asm); (case k3 => k_asm); (case k4 => k_asm); (case k5 => k_asm); (case k6 => k_is); (case k7 => k_is); (case k8 => ktr_room); (case k9 => exact BindsTo.of_eq (by kernel_rfl)); (case c5 => decide); (case kB => exact locs (by kernel_rfl)); (case c2 => exact rfl); (case c3 => exact rfl); (case c4 => exact rfl); k_whole; intro gE LE hE FG' F' N' B' X' T'; (try dsimp only); (try k_fold))
  k_steps
  rename Fr h₀ L _ _ => kF
  rename News h₀ L _ _ => kN
  exact hret _ _ _ kF (news_sub kN (by first | kst_in | kst_inAny))

local macro_rules | `(tactic| walk_at "call ref") => `(tactic| (k_here; (apply c_long); walk_at "k8"; (iterate 4 (next => k_mem)); (next => assumption); (iterate 3 (next => walk_at "ka")); walk_at "k9"))
local macro_rules | `(tactic| walk_at "call ref") => `(tactic| (k_here; (apply c_mul); walk_at "k8"; (next => first | assumption | exact MulAll.ok (by assumption) _ (by first | assumption | omega) (by first | assumption | omega)); walk_at "k9"))
local macro_rules | `(tactic| walk_at "call ref") => `(tactic| (k_here; (apply c_pow); walk_at "k8"; (iterate 4 (next => walk_at "ka")); walk_at "k9"))
local macro_rules | `(tactic| walk_at "subscriptTail") => `(tactic| walk_at "kc6")
set_option maxRecDepth 100000 in
set_option maxHeartbeats 8000000 in
theorem c_worth : ∀ (w : World) (mean : ExcName → Option Value) (mg mb : Str → Option Value) (dp un : Nat) (gd : Option (List Code)) (cn : Str) (cs : Scope) (a : Addr) (ccd : Value) (cl : List (Str × Addr)) (outer : List Env) (A₀ : Around) (base h₀ : Heap) (L : Addr) (m : Str → Option Value) (news : List (Addr × Obj)) (s : Shared) (Q E : Value → Shared → Prop)
   (lx lw : Addr) (vs : List Value) (as : List Int) (nw : Nat) (d nrm cnt : Addr) (us : List Value) (ns : List Int) (b : Int) (tb : Tok) (v1 v2 v3 v5 : Value) (t1 t2 t3 t4 t5 : Tok) (kd : Nat),
    ∀ (kB : Below A₀ base outer h₀) (kF : Fr h₀ L s.heap m) (kX : (hd.heap_39 w.params).In h₀) (kN : News h₀ L s.heap news) (kT : Top hd.view_39 LW mean mg mb h₀) (kK : cs.kind = .function) (kD : dp + 3 < recursionLimit) (kU : un + 112 < cLine),
    (lx, instObj 83 d) ∈ news → (d, dictOf [{ hash := PyData.keyHash w.params (Str.ofString "raw"), key := .str (Str.ofString "raw") t1, val := v1 }, { hash := PyData.keyHash w.params (Str.ofString "n"), key := .str (Str.ofString "n") t2, val := v2 }, { hash := PyData.keyHash w.params (Str.ofString "nt"), key := .str (Str.ofString "nt") t3, val := v3 }, { hash := PyData.keyHash w.params (Str.ofString "norm"), key := .str (Str.ofString "norm") t4, val := .ref nrm }, { hash := PyData.keyHash w.params (Str.ofString "is_simple"), key := .str (Str.ofString "is_simple") t5, val := v5 }] kd) ∈ news → (nrm, { cls := .type "tuple", data := .seq #[.ref cnt, .int b tb] }) ∈ news → (cnt, { cls := .type "tuple", data := .seq us.toArray }) ∈ news → (lw, listOf vs.toArray nw) ∈ news → IntsAre vs as → IntsAre us ns → 0 ≤ b → b ≤ (as.length : Int) → ns.length ≤ as.length + 1 → as.length ≤ 4 → (∀ a ∈ as, -13 ≤ a ∧ a ≤ 13) → (∀ a ∈ ns, 0 ≤ a ∧ a ≤ 5) →
    (∀ t h' tk', Fr h₀ L h' m → News h₀ L h' news → Q (.int (worthP ns b as) t) { s with heap := h', toks := tk' }) →
    wpAny (model PP.row.prog w) (ktrTop dp un gd cn cs L a ccd cl outer) (call (.ref 182) [.ref lx, .ref lw]) Q E s := by
  k_fill
  intro w mean mg mb dp un gd cn cs a ccd cl outer A₀ base h₀ L m news s Q E lx lw vs as nw d nrm cnt us ns b tb v1 v2 v3 v5 t1 t2 t3 t4 t5 kd B F X N T hk hd hu mx md mn mc mw iw iu hb0 hb1 hnl hal hwt hnn hret
  have hMk : KstMark := kstMark
  have hl1 : vs.length = as.length := iw.length
  have hl2 : us.length = ns.length := iu.length
  replace N := news_cons mx N (news_cons md N (news_cons mn N (news_cons mc N (news_cons mw N N))))
  refine wpAny_call ?_
  k_dflt (refine' code_def (binds := [(Str.ofString "lead", .ref lx), (Str.ofString "weights", .ref lw)]) ?k1 ?k2 ?k3 ?k4 ?k5 ?kA ?kF ?kK ?k6 ?k7 ?k8 ?k9 ?kB ?_ ?c2 ?c3 ?c4 ?c5; (case kA => exact rfl); (case kF => exact rfl); (case kK => assumption); (case k1 => k_asm); (case k2 => k_asm); (case k3 => k_asm); (case k4 => k_asm); (case k5 => k_asm); (case k6 => k_is); (case k7 => k_is); (case k8 => ktr_room); (case k9 => exact BindsTo.of_eq (by kernel_rfl)); (case c5 => decide); (case kB => exact locs (by kernel_rfl)); (case c2 => exact rfl); (case c3 => exact rfl); (case c4 => exact rfl); k_whole; intro gE LE hE FG' F' N' B' X' T'; (try dsimp only); (try k_fold))
  k_steps
  refine resume ?_
  rename Fr _ _ _ _ => F2
  rename News _ _ _ _ => N2
  rename IsRange _ _ _ _ _ _ _ _ => R2
  have hlr : 0 ≤ lrsP ns b ∧ lrsP ns b ≤ (as.length : Int) := by unfold lrsP; split <;> omega
  refine my_rangeC (σ := Int × Tok) (n := (lrsP ns b).toNat) (fun _ => _) (fun c => [(Str.ofString "worth", .int c.1 c.2)]) [Str.ofString "size", Str.ofString "many"]
    (fun i c _ => c.1 = worthF ns b as i ∧ c.1.natAbs ≤ 2 ^ (32 * i)) (1, _) (fun _ _ _ _ _ h => h) rfl R2 (small_one (by omega) (by omega) (by omega) (by omega)) (by rw [rangeSize_nat]; omega) F2 N2 (by kst_all) ⟨rfl, by show (1:Int).natAbs ≤ 1; decide⟩ ?turn ?done
  case turn =>
    clear F2 N2
    intro I i c k t it u h tk hIlt hi hk' hP hI F1 N1
    obtain ⟨wo, two⟩ := c
    obtain ⟨hw, hwb⟩ := hP
    dsimp only at hw hwb N1
    have hi4 : i < 4 := by omega
    have hk0 : 0 ≤ k := by omega
    have hk1 : k - 1 < (as.length : Int) := by omega
    have hk2 : 0 ≤ k - 1 := by omega
    have hkt : (k - 1).toNat = i := by omega
    have hx := getD_all hwt (by decide) (k - 1).toNat
    have hx1 := hx.1
    have hx2 := hx.2
    have hn := getD_all hnn (by decide) k.toNat
    have hn1 := hn.1
    have hn2 := hn.2
    have hMA := mulAll hwb (by omega) hx1 hx2
    dsimp only [kstB] at *
    k_steps
    all_goals refine resume ?_
    all_goals rename Fr _ _ _ _ => F7
    all_goals rename News _ _ _ _ => N7
    · have hm : manyP ns b (1 + (i : Int)) = ns.getD k.toNat 0 + 1 := by
        unfold manyP
        rw [← hk']
        (repeat' split) <;> omega
      refine endC (wo * as.getD (k - 1).toNat 0 ^ (ns.getD k.toNat 0 + 1).toNat, _) F7 N7 (by k_mem) (by first | kst_in | kst_inAny) ?ne0 (by kst_all) (by ksw_same) ⟨?pa0, worth_bnd hwb hx1 hx2 (by omega)⟩
      case ne0 => exact hI
      case pa0 =>
        show wo * as.getD (k - 1).toNat 0 ^ (ns.getD k.toNat 0 + 1).toNat = worthF ns b as i * (as.getD i 0) ^ (manyP ns b (1 + (i : Int))).toNat
        rw [hm, hkt, hw]
    · have hm : manyP ns b (1 + (i : Int)) = ns.getD k.toNat 0 := by
        unfold manyP
        rw [← hk']
        (repeat' split) <;> omega
      refine endC (wo * as.getD (k - 1).toNat 0 ^ (ns.getD k.toNat 0).toNat, _) F7 N7 (by k_mem) (by first | kst_in | kst_inAny) ?ne1 (by kst_all) (by ksw_same) ⟨?pa1, worth_bnd hwb hx1 hx2 (by omega)⟩
      case ne1 => exact hI
      case pa1 =>
        show wo * as.getD (k - 1).toNat 0 ^ (ns.getD k.toNat 0).toNat = worthF ns b as i * (as.getD i 0) ^ (manyP ns b (1 + (i : Int))).toNat
        rw [hm, hkt, hw]
    · have hm : manyP ns b (1 + (i : Int)) = ((0 : Int) + 1) := by
        unfold manyP
        rw [← hk']
        (repeat' split) <;> omega
      refine endC (wo * as.getD (k - 1).toNat 0 ^ (((0 : Int) + 1)).toNat, _) F7 N7 (by k_mem) (by first | kst_in | kst_inAny) ?ne2 (by kst_all) (by ksw_same) ⟨?pa2, worth_bnd hwb hx1 hx2 (by omega)⟩
      case ne2 => exact hI
      case pa2 =>
        show wo * as.getD (k - 1).toNat 0 ^ (((0 : Int) + 1)).toNat = worthF ns b as i * (as.getD i 0) ^ (manyP ns b (1 + (i : Int))).toNat
        rw [hm, hkt, hw]
    · have hm : manyP ns b (1 + (i : Int)) = (0 : Int) := by
        unfold manyP
        rw [← hk']
        (repeat' split) <;> omega
      refine endC (wo * as.getD (k - 1).toNat 0 ^ ((0 : Int)).toNat, _) F7 N7 (by k_mem) (by first | kst_in | kst_inAny) ?ne3 (by kst_all) (by ksw_same) ⟨?pa3, worth_bnd hwb hx1 hx2 (by omega)⟩
      case ne3 => exact hI
      case pa3 =>
        show wo * as.getD (k - 1).toNat 0 ^ ((0 : Int)).toNat = worthF ns b as i * (as.getD i 0) ^ (manyP ns b (1 + (i : Int))).toNat
        rw [hm, hkt, hw]
  case done =>
    clear F2 N2
    intro c u h tk hP F1 N1
    obtain ⟨wo, two⟩ := c
    obtain ⟨hw, hwb⟩ := hP
    dsimp only at hw hwb N1
    dsimp only [kstB] at *
    k_steps
    rename Fr h₀ L _ _ => kF
    rename News h₀ L _ _ => kN
    rw [hw]
    exact hret _ _ _ kF (news_sub kN (by first | kst_in | kst_inAny))

end
section
def symsOf (x : Str) : List Int := symP (apI (numP (W.KStt.codes x))) ++ [0]
def okL (n : Nat) (e : Str) : Bool := e.cps.toList.all (fun k => k == 32 || k == 9) && decide ((wsP e.cps.toList).2 ≤ (n : Int)) && decide ((wsP e.cps.toList).1.length ≤ n + 1) && (wsP e.cps.toList).1.all (fun a => decide (0 ≤ a ∧ a ≤ 5))
def okT (n : Nat) (x : Str) : Bool := decide (x.length ≤ 8) && decide ((symsOf x).length ≤ 12) && (match leadF (symsOf x) with | none => false | some (_, e, o) => okL n e && okL n o)
def worthT (as bs : List Int) (x : Str) : Int := match leadF (symsOf x) with
  | none => 0
  | some (_, e, o) => worthP (wsP e.cps.toList).1 (wsP e.cps.toList).2 as * worthP (wsP o.cps.toList).1 (wsP o.cps.toList).2 bs
def togetherP (as bs : List Int) (xs : List Str) : Int := xs.foldl (fun t x => t + worthT as bs x) 0
structure OkL (n : Nat) (e : Str) : Prop where
  chars : ∀ k ∈ e.cps.toList, k = 32 ∨ k = 9
  b1 : (wsP e.cps.toList).2 ≤ (n : Int)
  len : (wsP e.cps.toList).1.length ≤ n + 1
  ents : ∀ a ∈ (wsP e.cps.toList).1, 0 ≤ a ∧ a ≤ 5
theorem OkL.of {n : Nat} {e : Str} (h : okL n e = true) : OkL n e := by
  unfold okL at h
  simp only [Bool.and_eq_true, List.all_eq_true, decide_eq_true_eq, Bool.or_eq_true, beq_iff_eq] at h
  exact ⟨h.1.1.1, h.1.1.2, h.1.2, h.2⟩
theorem okT_of {n : Nat} {x : Str} (h : okT n x = true) : x.length ≤ 8 ∧ (symsOf x).length ≤ 12 ∧ ∃ p e o, leadF (symsOf x) = some (p, e, o) ∧ OkL n e ∧ OkL n o := by
  unfold okT at h
  simp only [Bool.and_eq_true, decide_eq_true_eq] at h
  refine ⟨h.1.1, h.1.2, ?_⟩
  have h2 := h.2
  split at h2
  · cases h2
  · rename_i p e o he
    rw [Bool.and_eq_true] at h2
    exact ⟨p, e, o, he, OkL.of h2.1, OkL.of h2.2⟩
theorem worthT_eq {as bs : List Int} {x : Str} {p : List Int} {e o : Str} (h : leadF (symsOf x) = some (p, e, o)) : worthT as bs x = worthP (wsP e.cps.toList).1 (wsP e.cps.toList).2 as * worthP (wsP o.cps.toList).1 (wsP o.cps.toList).2 bs := by
  unfold worthT
  rw [h]
structure LeadIs (x : Str) (p : List Int) (e o : Str) : Prop where
  eq : leadF (symsOf x) = some (p, e, o)
  len : (symsOf x).length ≤ 12
theorem lead_sym {x : Str} {p : List Int} {e o : Str} {ns : List Int} (l : LeadIs x p e o) (h : SymIs x ns) : leadF ns = some (p, e, o) := by rw [h.eq]; exact l.eq
theorem lead_len {x : Str} {p : List Int} {e o : Str} {ns : List Int} (l : LeadIs x p e o) (h : SymIs x ns) : ns.length ≤ 12 := by rw [h.eq]; exact l.len
structure WsOk (n : Nat) (ns : List Int) (b : Int) : Prop where
  b1 : b ≤ (n : Int)
  len : ns.length ≤ n + 1
  ents : ∀ a ∈ ns, 0 ≤ a ∧ a ≤ 5
theorem ws_ok {n : Nat} {e : Str} {ns : List Int} {b : Int} (h : OkL n e) (q : (ns, b) = wsP e.cps.toList) : WsOk n ns b := by
  have h1 : ns = (wsP e.cps.toList).1 := congrArg Prod.fst q
  have h2 : b = (wsP e.cps.toList).2 := congrArg Prod.snd q
  subst h1 h2
  exact ⟨h.b1, h.len, h.ents⟩
theorem worthF_bnd {ns : List Int} {b : Int} {as : List Int} {n : Nat} (h : WsOk n ns b) (hw : ∀ a ∈ as, -13 ≤ a ∧ a ≤ 13) : ∀ i, (worthF ns b as i).natAbs ≤ 2 ^ (32 * i)
  | 0 => by show (1 : Int).natAbs ≤ 1; decide
  | i + 1 => by
    have hx := getD_all hw (by decide) i
    refine worth_bnd (worthF_bnd h hw i) hx.1 hx.2 ?_
    unfold manyP
    have hn := getD_all h.ents (by decide) (1 + (i : Int)).toNat
    (repeat' split) <;> omega
theorem worth_mul {ns us : List Int} {b c : Int} {as bs : List Int} {n k : Nat} (h : WsOk n ns b) (h' : WsOk k us c) (hn : n ≤ 100) (hk : k ≤ 100) (hw : ∀ a ∈ as, -13 ≤ a ∧ a ≤ 13) (hw' : ∀ a ∈ bs, -13 ≤ a ∧ a ≤ 13) : IntMulOk (worthP ns b as) (worthP us c bs) := by
  refine mulOk_of (worthF_bnd h hw _) (worthF_bnd h' hw' _) ?_
  have e1 := h.b1
  have e2 := h.len
  have e3 := h'.b1
  have e4 := h'.len
  unfold lrsP
  split <;> split <;> omega
theorem togetherP_take {as bs : List Int} {xs : List Str} {i : Nat} {x : Str} (h : xs[i]? = some x) : togetherP as bs (xs.take (i + 1)) = togetherP as bs (xs.take i) + worthT as bs x := by
  unfold togetherP
  rw [List.take_add_one, h, List.foldl_append]
  rfl
local macro_rules | `(tactic| walk_at "exec For Name Call cons nil") => `(tactic| walk_at "kc4")
local macro_rules | `(tactic| walk_at "exec For Name Name cons nil") => `(tactic| walk_at "kc4")
local macro_rules | `(tactic| walk_at "PostC") => `(tactic| refine pause ?_)
local macro_rules | `(tactic| walk_at "call ref") => `(tactic| (k_here; (apply c_add); walk_at "k8"; walk_at "k9"))
local macro_rules | `(tactic| walk_at "call ref") => `(tactic| (k_here; (apply c_mul); walk_at "k8"; (next => assumption); walk_at "k9"))
local macro_rules | `(tactic| walk_at "call ref") => `(tactic| (k_here; (apply c_worth); walk_at "k8"; (iterate 5 (next => k_mem)); (iterate 8 (next => assumption)); walk_at "k9"))
local macro_rules | `(tactic| walk_at "call ref") => `(tactic| (k_here; (apply c_sym); walk_at "k8"; (next => assumption); walk_at "k9"))
local macro_rules | `(tactic| walk_at "call ref") => `(tactic| (k_here; (with_reducible show wpAny _ _ (call (Value.ref 175) _) _ _ _); refine pause ?_))
set_option maxRecDepth 100000 in
set_option maxHeartbeats 8000000 in
theorem c_together : ∀ (w : World) (mean : ExcName → Option Value) (mg mb : Str → Option Value) (dp un : Nat) (gd : Option (List Code)) (cn : Str) (cs : Scope) (a : Addr) (ccd : Value) (cl : List (Str × Addr)) (outer : List Env) (A₀ : Around) (base h₀ : Heap) (L : Addr) (m : Str → Option Value) (news : List (Addr × Obj)) (s : Shared) (Q E : Value → Shared → Prop)
   (lt lf ls : Addr) (vs vf vg : List Value) (xs : List Str) (as bs : List Int) (nt nf ng : Nat),
    ∀ (kB : Below A₀ base outer h₀) (kF : Fr h₀ L s.heap m) (kX : (hd.heap_39 w.params).In h₀) (kN : News h₀ L s.heap news) (kT : Top hd.view_39 LW mean mg mb h₀) (kK : cs.kind = .function) (kD : dp + 4 < recursionLimit) (kU : un + 128 < cLine),
    (lt, listOf vs.toArray nt) ∈ news → (lf, listOf vf.toArray nf) ∈ news → (ls, listOf vg.toArray ng) ∈ news → StrsAre vs xs → IntsAre vf as → IntsAre vg bs → (∀ x ∈ xs, okT as.length x = true) → as.length = bs.length → as.length ≤ 4 → (∀ a ∈ as, -13 ≤ a ∧ a ≤ 13) → (∀ a ∈ bs, -13 ≤ a ∧ a ≤ 13) →
    (∀ t h' tk', Fr h₀ L h' m → News h₀ L h' news → Q (.int (togetherP as bs xs) t) { s with heap := h', toks := tk' }) →
    wpAny (model PP.row.prog w) (ktrTop dp un gd cn cs L a ccd cl outer) (call (.ref 189) [.ref lt, .ref lf, .ref ls]) Q E s := by
  k_fill
  intro w mean mg mb dp un gd cn cs a ccd cl outer A₀ base h₀ L m news s Q E lt lf ls vs vf vg xs as bs nt nf ng B F X N T hk hd hu mt mf mg2 it0 iff0 ig0 hok hlab hal hwa hwb hret
  have hMk : KstMark := kstMark
  have hl1 : vf.length = as.length := iff0.length
  have hl2 : vg.length = bs.length := ig0.length
  have hl3 : vs.length = xs.length := it0.length
  replace N := news_cons mt N (news_cons mf N (news_cons mg2 N N))
  refine wpAny_call ?_
  k_dflt (refine' code_def (binds := [(Str.ofString "texts", .ref lt), (Str.ofString "first", .ref lf), (Str.ofString "second", .ref ls)]) ?k1 ?k2 ?k3 ?k4 ?k5 ?kA ?kF ?kK ?k6 ?k7 ?k8 ?k9 ?kB ?_ ?c2 ?c3 ?c4 ?c5; (case kA => exact rfl); (case kF => exact rfl); (case kK => assumption); (case k1 => k_asm); (case k2 => k_asm); (case k3 => k_asm); (case k4 => k_asm); (case k5 => k_asm); (case k6 => k_is); (case k7 => k_is); (case k8 => ktr_room); (case k9 => exact BindsTo.of_eq (by kernel_rfl)); (case c5 => decide); (case kB => exact locs (by kernel_rfl)); (case c2 => exact rfl); (case c3 => exact rfl); (case c4 => exact rfl); k_whole; intro gE LE hE FG' F' N' B' X' T'; (try dsimp only); (try k_fold))
  k_steps
  refine resume ?_
  rename Fr _ _ _ _ => F2
  rename News _ _ _ _ => N2
  refine my_seqC (σ := Int × Tok) (o := listOf vs.toArray nt) (vs := vs) (fun _ => _) (fun c => [(Str.ofString "total", .int c.1 c.2)]) [Str.ofString "text", Str.ofString "even", Str.ofString "odd"]
    (fun i c _ => c.1 = togetherP as bs (xs.take i)) (0, _) (fun _ _ _ _ _ h => h) rfl (.inl rfl) ⟨_, rfl⟩ (fun _ => .head _) F2 N2 (by kst_all) rfl ?turn ?done
  case turn =>
    clear F2 N2
    intro I i c v it u h tk hIlt hi hv hP hI F1 N1
    obtain ⟨to, tto⟩ := c
    dsimp only at hP N1
    obtain ⟨x, tx, rfl, hx⟩ := item_str it0 hv
    obtain ⟨hx8, hx12, p0, e0, o0, hle, hke, hko⟩ := okT_of (hok x (List.mem_of_getElem? hx))
    have hLI : LeadIs x p0 e0 o0 := ⟨hle, hx12⟩
    dsimp only [kstB] at *
    k_steps
    refine resume ?_
    refine' c_leads _ _ _ _ _ _ _ _ _ _ _ _ _ _ _ _ _ _ _ _ _ _ _ _ _ _ p0 e0 o0 ?kB ?kF ?kX ?kN ?kT ?kK ?kD ?kU ?lm ?li ?lz ?ll hke.chars hko.chars ?ln ?_
    case kB => k_asm
    case kF => k_asm
    case kX => k_asm
    case kN => k_asm
    case kT => k_asm
    case kK => first | exact rfl | assumption
    case kD => ktr_room
    case kU => ktr_units
    case lm => k_mem
    case li => assumption
    case lz => assumption
    case ll => exact lead_sym hLI (by assumption)
    case ln => exact lead_len hLI (by assumption)
    intro q9 kq9 x1 d1 nrm1 cnt1 us1 ns1 b1 tb1 v11 v21 v31 v51 t11 t21 t31 t41 t51 kd1 x2 d2 nrm2 cnt2 us2 ns2 b2 tb2 v12 v22 v32 v52 t12 t22 t32 t42 t52 kd2 h9 tk9 iu1 ew1 hb1 _hbb1 _hl1 iu2 ew2 hb2 _hbb2 _hl2 F9 N9
    have w1 := ws_ok hke ew1
    have w2 := ws_ok hko ew2
    have hmm := worth_mul w1 w2 (by omega) (by omega) hwa hwb
    rw [hlab] at w2
    have w11 := w1.b1
    have w12 := w1.len
    have w13 := w1.ents
    have w21 := w2.b1
    have w22 := w2.len
    have w23 := w2.ents
    have hbl : bs.length ≤ 4 := hlab ▸ hal
    k_steps
    skip
    refine resume ?_
    rename Fr _ _ _ _ => F7
    rename News _ _ _ _ => N7
    refine endC (to + worthP ns1 b1 as * worthP ns2 b2 bs, _) F7 N7 (by k_mem) (by first | kst_in | kst_inAny) hI (by kst_all) (by ksw_same) ?pa
    case pa =>
      show to + worthP ns1 b1 as * worthP ns2 b2 bs = togetherP as bs (xs.take (i + 1))
      rw [togetherP_take hx, worthT_eq hle, hP, congrArg Prod.fst ew1.symm, congrArg Prod.snd ew1.symm, congrArg Prod.fst ew2.symm, congrArg Prod.snd ew2.symm]
  case done =>
    clear F2 N2
    intro c u h tk hP F1 N1
    obtain ⟨to, tto⟩ := c
    dsimp only at hP N1
    rw [hl3, List.take_length] at hP
    dsimp only [kstB] at *
    k_steps
    rename Fr h₀ L _ _ => kF
    rename News h₀ L _ _ => kN
    rw [hP]
    exact hret _ _ _ kF (news_sub kN (by first | kst_in | kst_inAny))

end
section
local macro_rules | `(tactic| walk_at "eval ListComp") => `(tactic| refine pause ?_)
local macro_rules | `(tactic| walk_at "PairEnd") => `(tactic| refine pause ?_)
local macro_rules | `(tactic| walk_at "PostE") => `(tactic| refine pause ?_)
local macro_rules | `(tactic| walk_at "exec For Tuple Call cons nil") => `(tactic| (k_here; (rename Fr _ _ _ _ => lF'); (with_unfolding_all refine' For_turns lF' ?_; k_whole)))
local macro_rules | `(tactic| walk_at "call type:enumerate") => `(tactic| (k_here; (with_reducible show wpAny _ _ (call (Value.type _) [Value.ref _]) _ _ _); refine pause ?_))
local macro_rules | `(tactic| walk_at "exec AugAssign Subscript") => `(tactic| walk_at "kc1")
local macro_rules | `(tactic| walk_at "setItem ref int") => `(tactic| walk_at "kc2")
local macro_rules | `(tactic| walk_at "subscriptTail") => `(tactic| walk_at "kc6")
theorem ledger2 {h₀ h : Heap} {L a b : Addr} {o p : Obj} {r : List (Addr × Obj)} (_ : News h₀ L h ((a, o) :: (b, p) :: r)) : ∃ x y, x = a ∧ y = b := ⟨_, _, rfl, rfl⟩
set_option maxRecDepth 100000 in
set_option maxHeartbeats 8000000 in
theorem c_weights : ∀ (w : World) (mean : ExcName → Option Value) (mg mb : Str → Option Value) (dp un : Nat) (gd : Option (List Code)) (cn : Str) (cs : Scope) (a : Addr) (ccd : Value) (cl : List (Str × Addr)) (outer : List Env) (A₀ : Around) (base h₀ : Heap) (L : Addr) (m : Str → Option Value) (news : List (Addr × Obj)) (s : Shared) (Q E : Value → Shared → Prop)
   (ls : Addr) (vs : List Value) (xs : List Int) ,
    ∀ (kB : Below A₀ base outer h₀) (kF : Fr h₀ L s.heap m) (kX : (hd.heap_39 w.params).In h₀) (kN : News h₀ L s.heap news) (kT : Top hd.view_39 LW mean mg mb h₀) (kK : cs.kind = .function) (kD : dp + 1 < recursionLimit) (kU : un + 80 < cLine),
    h₀.IsList ls vs.toArray → IntsAre vs xs → vs.length ≤ 63 →
    (∀ q vs k ns h' tk', IntsAre vs ns → ns.length = 6 → (∀ a ∈ ns, -9 ≤ a ∧ a ≤ 13) → (∀ p ∈ news, p.1 < q) → Fr h₀ L h' m → News h₀ L h' ((q, listOf vs.toArray k) :: news) → Q (.ref q) { s with heap := h', toks := tk' }) →
    wpAny (model PP.row.prog w) (ktrTop dp un gd cn cs L a ccd cl outer) (call (.ref 158) [.ref ls]) Q E s := by
  k_fill
  intro w mean mg mb dp un gd cn cs a ccd cl outer A₀ base h₀ L m news s Q E ls vs xs B F X N T hk hd hu ml iv hl63 hret
  have hMk : KstMark := kstMark
  have hl1 : vs.length = xs.length := iv.length
  have ml2 : s.heap.IsList ls vs.toArray := ml.at fun o e => F.keep _ o e
  refine wpAny_call ?_
  k_dflt (refine' code_def (binds := [(Str.ofString "script", .ref ls)]) ?k1 ?k2 ?k3 ?k4 ?k5 ?kA ?kF ?kK ?k6 ?k7 ?k8 ?k9 ?kB ?_ ?c2 ?c3 ?c4 ?c5; (case kA => exact rfl); (case kF => exact rfl); (case kK => assumption); (case k1 => k_asm); (case k2 => k_asm); (case k3 => k_asm); (case k4 => k_asm); (case k5 => k_asm); (case k6 => k_is); (case k7 => k_is); (case k8 => ktr_room); (case k9 => exact BindsTo.of_eq (by kernel_rfl)); (case c5 => decide); (case kB => exact locs (by kernel_rfl)); (case c2 => exact rfl); (case c3 => exact rfl); (case c4 => exact rfl); k_whole; intro gE LE hE FG' F' N' B' X' T'; (try dsimp only); (try k_fold))
  have ml3 : gE.IsList ls vs.toArray := ml.at fun o e => FG'.keep _ o e
  k_steps
  refine resume ?_
  rename Fr _ _ _ _ => F2
  rename News _ _ _ _ => N2
  rename ∀ p ∈ news, _ => l1
  rename IntsAre _ (List.take 12 xs) => i3
  rename _ ∧ AllLt _ news => l4
  have h12 : (List.take 12 xs).length = min 12 xs.length := List.length_take ..
  rename List Value => ws
  have hw12 : ws.length = min 12 xs.length := i3.length.trans h12
  obtain ⟨aD, aL, e1, e2⟩ := ledger2 N2
  subst e1 e2
  have z2 : AllLt aL news := allLt_in l1
  have z3 : @LT.lt Nat _ aL aD := l4.1
  refine my_enum (vs := ws) (n := 0) (σ := List Value × List Int × Nat) (fun c => (aD, listOf ws.toArray 0) :: (aL, listOf c.1.toArray c.2.2) :: news) (fun c => []) [Str.ofString "place", Str.ofString "x"]
    (fun i c => IntsAre c.1 c.2.1 ∧ c.2.1.length = 6) ([.int 11 _, .int 12 _, .int 14 _, .int 12 _, .int 8 _, .int 13 _], [11, 12, 14, 12, 8, 13], 0) rfl (fun _ => .head _) F2 N2 (fun _ h => nomatch h) ⟨.cons _ _ (.cons _ _ (.cons _ _ (.cons _ _ (.cons _ _ (.cons _ _ .nil))))), rfl⟩ ?turn ?done
  case turn =>
    clear F2 N2
    intro I i c v t T o1 o2 u h tk hIlt hv hP hI hT F1 N1
    obtain ⟨us, cs9, kc⟩ := c
    obtain ⟨hf, hlen⟩ := hP
    obtain ⟨tv, rfl⟩ := ints_get i3 hv
    dsimp only at hf hlen N1
    have hul : us.length = cs9.length := hf.length
    have q2 : @LT.lt Nat _ aL I := hIlt _ (.tail _ (.head _))
    have q4 : AllLt I news := allLt_in fun p hp => hIlt p (.tail _ (.tail _ hp))
    have q1 : @LT.lt Nat _ aD I := hIlt _ (.head _)
    have q5 : @LT.lt Nat _ aL (I + 1) := Nat.lt_succ_of_lt q2
    have hm0 : 0 ≤ (i : Int).fmod 6 := Int.fmod_nonneg_of_pos _ (by decide)
    have hm1 : (i : Int).fmod 6 < 6 := Int.fmod_lt_of_pos _ (by decide)
    have hul6 : us.length = 6 := hul.trans hlen
    have hm2 : (i : Int).fmod 6 < (cs9.length : Int) := by rw [hlen]; exact hm1
    have hm3 : (i : Int).fmod 6 < (us.length : Int) := by rw [hul6]; exact hm1
    dsimp only [kstB] at *
    k_steps
    refine resume ?_
    rename Fr _ _ _ _ => F7
    rename News _ _ _ _ => N7
    rename IntsAre (List.set _ _ _) _ => i7
    refine endE (_, _, _) F7 N7 (by k_mem) (by k_mem) (by first | kst_in | kst_inAny) ?ne (fun _ h => nomatch h) (by ksw_same) ⟨i7, by dsimp only; rw [List.length_set]; exact hlen⟩
    case ne => exact List.forall_mem_cons.mpr ⟨q1, List.forall_mem_cons.mpr ⟨q2, fun p hp => allLt_out q4 p hp⟩⟩
  case done =>
    clear F2 N2
    intro c u h tk hP F1 N1
    obtain ⟨us, cs9, kc⟩ := c
    obtain ⟨hf, hlen⟩ := hP
    dsimp only at hf hlen N1
    have hul : us.length = cs9.length := hf.length
    dsimp only [kstB] at *
    k_steps
    refine resume ?_
    refine comp_in (h₀ := gE) (L := LE) (by with_unfolding_all rfl) (by decide) (by rfl) (by decide) ?_
    k_steps
    refine resume ?_
    rename Fr _ _ _ _ => F4
    rename News _ _ _ _ => N4
    refine list_local (vs := us) (k := kc) (fun j y => ∃ t, y = Value.int ((cs9.getD j 0).fmod 23 - 9) t) rfl (by k_mem) (by rw [hul, hlen]; decide) F4 N4 (by rfl) (by rfl) ?el ?fin
    case el =>
      clear F4 N4
      try clear F1
      try clear N1
      intro j v C oC m2 own h2 tk2 E2 hv hoC hm2 F5 N5
      obtain ⟨tv, rfl⟩ := ints_get hf hv
      try dsimp only
      try simp only [List.cons_append, List.nil_append, List.append_assoc] at N5
      k_steps
      refine resume ?_
      rename Fr _ _ _ _ => F6
      rename News _ _ _ _ => N6
      refine ⟨_, _, rfl, ⟨_, rfl⟩, F6, ?_⟩
      simpa only [List.cons_append, List.nil_append, List.append_assoc] using N6
    case fin =>
      clear F4 N4
      intro ys D h2 tk2 hl hR hD F5 N5
      have i5 := ints_of (hl.trans (hul.trans hlen)) hR
      try dsimp only
      k_steps
      rename Fr h₀ L _ _ => kF
      rename News h₀ L _ _ => kN
      refine hret _ _ _ _ _ _ i5 rfl ?bd (fun p hp => hD p (by first | kst_mem | exact .tail _ (.tail _ hp))) kF (news_sub kN (by first | kst_in | kst_inAny))
      case bd =>
        intro a ha
        obtain ⟨j, _, rfl⟩ := List.mem_map.mp ha
        have b0 : 0 ≤ (cs9.getD j 0).fmod 23 := Int.fmod_nonneg_of_pos _ (by decide)
        have b1 : (cs9.getD j 0).fmod 23 < 23 := Int.fmod_lt_of_pos _ (by decide)
        omega

end
section
abbrev KeyT := (List Int × Int) × (List Int × Int)
def keyT (x : Str) : Option KeyT := match leadF (symsOf x) with
  | none => none
  | some (_, e, o) => some (wsP e.cps.toList, wsP o.cps.toList)
def worthK (as bs : List Int) : Option KeyT → Int
  | none => 0
  | some (p, q) => worthP p.1 p.2 as * worthP q.1 q.2 bs
theorem worthT_K (as bs : List Int) (x : Str) : worthT as bs x = worthK as bs (keyT x) := by
  unfold worthT keyT
  cases leadF (symsOf x) with
  | none => rfl
  | some r => rfl
theorem together_K (as bs : List Int) (xs : List Str) : togetherP as bs xs = (xs.map keyT).foldl (fun t k => t + worthK as bs k) 0 := by
  unfold togetherP
  rw [List.foldl_map]
  simp only [worthT_K]
theorem keys1 (n : Nat) (hn : n = 3 ∨ n = 4) : ((toldP n).getD 1 []).map keyT = [some (([], 1), [0, 1], 0)] := by
  rcases hn with rfl | rfl <;> decide +kernel
theorem keys2 (n : Nat) (hn : n = 3 ∨ n = 4) : ((toldP n).getD 2 []).map keyT = [some (([], 2), [0, 2], 0), some (([0, 1], 1), [0, 0, 1], 0)] := by
  rcases hn with rfl | rfl <;> decide +kernel
theorem keys3 (n : Nat) (hn : n = 3 ∨ n = 4) : ((toldP n).getD 3 []).map keyT = [some (([], 3), [0, 3], 0), some (([0, 1], 2), [0, 1, 1], 0), some (([0, 1], 2), [0, 1, 1], 0),
    some (([0, 2], 1), [0, 0, 0, 1], 0), some (([0, 0, 1], 1), [0, 1, 1], 0)] := by
  rcases hn with rfl | rfl <;> decide +kernel
theorem keys4 : ((toldP 4).getD 4 []).map keyT = [some (([], 4), [0, 4], 0), some (([0, 1], 3), [0, 2, 1], 0), some (([0, 1], 3), [0, 2, 1], 0),
    some (([0, 2], 2), [0, 1, 0, 1], 0), some (([0, 0, 1], 2), [0, 2, 1], 0), some (([0, 1], 3), [0, 2, 1], 0),
    some (([0, 2], 2), [0, 0, 2], 0), some (([0, 2], 2), [0, 1, 0, 1], 0), some (([0, 0, 1], 2), [0, 2, 1], 0),
    some (([0, 3], 1), [0, 0, 0, 0, 1], 0), some (([0, 1, 1], 1), [0, 1, 0, 1], 0),
    some (([0, 1, 1], 1), [0, 1, 0, 1], 0), some (([0, 0, 0, 1], 1), [0, 2, 1], 0),
    some (([0, 1, 1], 1), [0, 0, 2], 0)] := by decide +kernel
theorem okAll3 : ∀ S ∈ (toldP 3), ∀ x ∈ S, okT 3 x = true := by decide +kernel
theorem okAll4 : ∀ S ∈ (toldP 4), ∀ x ∈ S, okT 4 x = true := by decide +kernel
def bothP (n : Nat) (as bs : List Int) : List Int := ((toldP n).drop 1).map (togetherP as bs)
theorem told_drop3 : (toldP 3).drop 1 = [(toldP 3).getD 1 [], (toldP 3).getD 2 [], (toldP 3).getD 3 []] := by decide +kernel
theorem told_drop4 : (toldP 4).drop 1 = [(toldP 4).getD 1 [], (toldP 4).getD 2 [], (toldP 4).getD 3 [], (toldP 4).getD 4 []] := by decide +kernel
theorem tog1_3 (a b d e : Int) : togetherP [1,a,b] [1,d,e] ((toldP 3).getD 1 []) = 1 := by
  rw [together_K, keys1 3 (.inl rfl)]
  simp [worthK, worthP, worthF, lrsP, manyP]
theorem tog2_3 (a b d e : Int) : togetherP [1,a,b] [1,d,e] ((toldP 3).getD 2 []) = a + d := by
  rw [together_K, keys2 3 (.inl rfl)]
  simp [worthK, worthP, worthF, lrsP, manyP]
  grind
theorem tog3_3 (a b d e : Int) : togetherP [1,a,b] [1,d,e] ((toldP 3).getD 3 []) = 3*a*d + b + e := by
  rw [together_K, keys3 3 (.inl rfl)]
  simp [worthK, worthP, worthF, lrsP, manyP]
  grind
theorem tog1_4 (a b c d e f : Int) : togetherP [1,a,b,c] [1,d,e,f] ((toldP 4).getD 1 []) = 1 := by
  rw [together_K, keys1 4 (.inr rfl)]
  simp [worthK, worthP, worthF, lrsP, manyP]
theorem tog2_4 (a b c d e f : Int) : togetherP [1,a,b,c] [1,d,e,f] ((toldP 4).getD 2 []) = a + d := by
  rw [together_K, keys2 4 (.inr rfl)]
  simp [worthK, worthP, worthF, lrsP, manyP]
  grind
theorem tog3_4 (a b c d e f : Int) : togetherP [1,a,b,c] [1,d,e,f] ((toldP 4).getD 3 []) = 3*a*d + b + e := by
  rw [together_K, keys3 4 (.inr rfl)]
  simp [worthK, worthP, worthF, lrsP, manyP]
  grind
theorem tog4_4 (a b c d e f : Int) : togetherP [1,a,b,c] [1,d,e,f] ((toldP 4).getD 4 []) = 2*a*a*d + 2*a*d*d + 4*a*e + 4*b*d + c + f := by
  rw [together_K, keys4]
  simp [worthK, worthP, worthF, lrsP, manyP]
  grind
theorem both3 (a b d e : Int) : bothP 3 [1,a,b] [1,d,e] = [1, a + d, 3*a*d + b + e] := by
  rw [bothP, told_drop3]
  simp only [List.map_cons, List.map_nil, tog1_3, tog2_3, tog3_3]
theorem both4 (a b c d e f : Int) : bothP 4 [1,a,b,c] [1,d,e,f] = [1, a + d, 3*a*d + b + e, 2*a*a*d + 2*a*d*d + 4*a*e + 4*b*d + c + f] := by
  rw [bothP, told_drop4]
  simp only [List.map_cons, List.map_nil, tog1_4, tog2_4, tog3_4, tog4_4]
theorem inv3 (x y : Int) : invP [1,x,y] = [1, -x, 2*x*x - y] := by
  simp [invP, invOut, invIn, restP, timesP, timesOut, timesIn, timesRow, List.range_succ, unitL, List.replicate]
  grind
theorem inv4 (x y z : Int) : invP [1,x,y,z] = [1, -x, 2*x*x - y, 5*x*y - 5*x*x*x - z] := by
  simp [invP, invOut, invIn, restP, timesP, timesOut, timesIn, timesRow, List.range_succ, unitL, List.replicate]
  grind
theorem plain3 (a b d e : Int) : invP (bothP 3 [1,a,b] [1,d,e]) = prodP (invP [1,a,b]) (invP [1,d,e]) := by
  rw [both3, inv3, inv3, inv3]
  simp [prodP, List.range_succ]
  grind
theorem plain4 (a b c d e f : Int) : invP (bothP 4 [1,a,b,c] [1,d,e,f]) = prodP (invP [1,a,b,c]) (invP [1,d,e,f]) := by
  rw [both4, inv4, inv4, inv4]
  simp [prodP, List.range_succ]
  grind
theorem ab (x : Int) (h : -9 ≤ x ∧ x ≤ 13) : x.natAbs ≤ 2 ^ 4 := by
  have : (2 : Nat) ^ 4 = 16 := by decide
  omega
theorem m2 {x y : Int} (hx : x.natAbs ≤ 2 ^ 4) (hy : y.natAbs ≤ 2 ^ 4) : (x * y).natAbs ≤ 2 ^ 8 := mul_le hx hy
theorem m3 {x y z : Int} (hx : x.natAbs ≤ 2 ^ 4) (hy : y.natAbs ≤ 2 ^ 4) (hz : z.natAbs ≤ 2 ^ 4) : (x * y * z).natAbs ≤ 2 ^ 12 := mul_le (m2 hx hy) hz
theorem bnd_cons {e : Nat} {x : Int} {l : List Int} (hx : x.natAbs ≤ 2 ^ e) (h : Bnd e l) : Bnd e (x :: l) := fun y hy => by
  rcases List.mem_cons.mp hy with rfl | hy
  · exact hx
  · exact h y hy
theorem bnd_nil {e : Nat} : Bnd e [] := fun _ h => nomatch h
theorem p30 : (2 : Nat) ^ 30 = 1073741824 := by decide
theorem p12 : (2 : Nat) ^ 12 = 4096 := by decide
theorem p8 : (2 : Nat) ^ 8 = 256 := by decide
theorem p4 : (2 : Nat) ^ 4 = 16 := by decide
theorem both3_bnd {a b d e : Int} (ha : -9 ≤ a ∧ a ≤ 13) (hb : -9 ≤ b ∧ b ≤ 13) (hd : -9 ≤ d ∧ d ≤ 13) (he : -9 ≤ e ∧ e ≤ 13) : Bnd 30 (bothP 3 [1,a,b] [1,d,e]) := by
  rw [both3]
  have h1 := m2 (ab a ha) (ab d hd)
  rw [p8] at h1
  have e1 : 3 * a * d = 3 * (a * d) := by grind
  refine bnd_cons ?_ (bnd_cons ?_ (bnd_cons ?_ bnd_nil)) <;> rw [p30]
  · decide
  · omega
  · rw [e1]
    generalize a * d = q at h1 ⊢
    omega
theorem both4_bnd {a b c d e f : Int} (ha : -9 ≤ a ∧ a ≤ 13) (hb : -9 ≤ b ∧ b ≤ 13) (hc : -9 ≤ c ∧ c ≤ 13) (hd : -9 ≤ d ∧ d ≤ 13) (he : -9 ≤ e ∧ e ≤ 13) (hf : -9 ≤ f ∧ f ≤ 13) : Bnd 30 (bothP 4 [1,a,b,c] [1,d,e,f]) := by
  rw [both4]
  have h1 := m2 (ab a ha) (ab d hd)
  have h2 := m3 (ab a ha) (ab a ha) (ab d hd)
  have h3 := m3 (ab a ha) (ab d hd) (ab d hd)
  have h4 := m2 (ab a ha) (ab e he)
  have h5 := m2 (ab b hb) (ab d hd)
  rw [p8] at h1 h4 h5
  rw [p12] at h2 h3
  have e1 : 3 * a * d = 3 * (a * d) := by grind
  have e2 : 2*a*a*d + 2*a*d*d + 4*a*e + 4*b*d + c + f = 2 * (a * a * d) + 2 * (a * d * d) + 4 * (a * e) + 4 * (b * d) + c + f := by grind
  refine bnd_cons ?_ (bnd_cons ?_ (bnd_cons ?_ (bnd_cons ?_ bnd_nil))) <;> rw [p30]
  · decide
  · omega
  · rw [e1]
    generalize a * d = q at h1 ⊢
    omega
  · rw [e2]
    generalize a * a * d = q2 at h2 ⊢
    generalize a * d * d = q3 at h3 ⊢
    generalize a * e = q4 at h4 ⊢
    generalize b * d = q5 at h5 ⊢
    omega
end
section
local macro_rules | `(tactic| k_qdec) => `(tactic| kernel_rfl)
local macro_rules | `(tactic| walk_at "exec Assign cons ListComp") => `(tactic| refine pause ?_)
local macro_rules | `(tactic| walk_at "eval ListComp") => `(tactic| refine pause ?_)
local macro_rules | `(tactic| walk_at "PairEnd") => `(tactic| refine pause ?_)
local macro_rules | `(tactic| walk_at "eval Name") => `(tactic| walk_at "kc5")
local macro_rules | `(tactic| walk_at "call ref") => `(tactic| (k_here; k_dflt (apply c_weights); walk_at "k8"; (iterate 3 (next => assumption)); walk_at "k7"))
local macro_rules | `(tactic| walk_at "call ref") => `(tactic| (k_here; (with_reducible show wpAny _ _ (call (Value.ref 163) _) _ _ _); refine pause ?_))
local macro_rules | `(tactic| walk_at "call ref") => `(tactic| (k_here; (with_reducible show wpAny _ _ (call (Value.ref 189) _) _ _ _); refine pause ?_))
local macro_rules | `(tactic| walk_at "call ref") => `(tactic| (k_here; (with_reducible show wpAny _ _ (call (Value.ref 206) _) _ _ _); refine pause ?_))
local macro_rules | `(tactic| walk_at "call ref") => `(tactic| (k_here; (with_reducible show wpAny _ _ (call (Value.ref 201) _) _ _ _); refine pause ?_))
theorem ints63 {vs : List Value} {ns : List Int} (h : IntsAre vs ns) (k : ¬ ((63 : Nat) : Int) < (ns.length : Int)) : vs.length ≤ 63 := by
  rw [h.length]
  omega
theorem lname {h : Heap} {a : Addr} {vs : Array Value} (_ : h.IsList a vs) : ∃ x, x = a := ⟨_, rfl⟩
theorem six {ns : List Int} (h : ns.length = 6) : ∃ a b c d e f, ns = [a, b, c, d, e, f] := by
  match ns, h with
  | [a, b, c, d, e, f], _ => exact ⟨a, b, c, d, e, f, rfl⟩
theorem bw {x : Int} (h : -9 ≤ x ∧ x ≤ 13) : x.natAbs ≤ 2 ^ 30 := Nat.le_trans (ab x h) (by decide)
theorem news_lst {h₀ h : Heap} {L D : Addr} {ys : List Value} {l : List (Addr × Obj)} (N : News h₀ L h ((D, LCg.lst ys) :: l)) : News h₀ L h ((D, listOf ys.toArray ys.length) :: l) := N
theorem invP_len {rs : List Int} (h : 1 ≤ rs.length) : (invP rs).length = rs.length := invOut_len h _
theorem tt_le : ∀ i ≤ 3, tt i ≤ 1000 := by decide
theorem invs_mul {n : Nat} {as bs : List Int} (ha : as.length = n) (hb : bs.length = n) (h1 : 1 ≤ n) (h4 : n ≤ 4) (ba : Bnd 30 as) (bb : Bnd 30 bs) (i j : Nat) : IntMulOk ((invP as).getD i 0) ((invP bs).getD j 0) := by
  have qa := getD_le (invOut_bnd (by omega) (by omega) ba (as.length - 1)) i
  have qb := getD_le (invOut_bnd (by omega) (by omega) bb (bs.length - 1)) j
  have ta := tt_le (as.length - 1) (by omega)
  have tb := tt_le (bs.length - 1) (by omega)
  exact mulOk_of qa qb (by omega)
structure BothIs (B : List Int) (n : Nat) (as bs : List Int) : Prop where
  eq : B = bothP n as bs
structure InvIs (ns rs : List Int) : Prop where
  eq : ns = invP rs
theorem news_swap {h₀ h : Heap} {L : Addr} {x : Addr × Obj} {e l : List (Addr × Obj)} (N : News h₀ L h (x :: (e ++ l))) : News h₀ L h (x :: (l ++ e)) := news_sub N fun p hp => by
  rcases List.mem_cons.mp hp with rfl | hp
  · exact .head _
  · exact .tail _ (List.mem_append.mpr (List.mem_append.mp hp).symm)
theorem refs_item {c : List Ent} {T : List (List Str)} {i : Nat} {v : Value} (hT : ToldIs c T) (hv : ((refs c).drop 1)[i]? = some v) :
    ∃ p : Ent, v = .ref p.1 ∧ (p.1, listOf p.2.1.toArray p.2.2) ∈ entL c ∧ StrsAre p.2.1 (T.getD (i + 1) []) ∧ T.getD (i + 1) [] ∈ T := by
  rw [List.getElem?_drop, Nat.add_comm 1 i, refs, List.getElem?_map] at hv
  obtain ⟨p, hp, rfl⟩ := Option.map_eq_some_iff.mp hv
  have hi : i + 1 < T.length := by rw [← hT.len]; exact (List.getElem?_eq_some_iff.mp hp).1
  exact ⟨p, rfl, ent_mem hp, hT.at_ _ _ hp, by simp [List.getD_eq_getElem?_getD, hi]⟩
set_option maxRecDepth 100000 in
set_option maxHeartbeats 8000000 in
theorem t_law : PySem.Challenge.rw_wj0066_01.Holds := by
  refine hd (by rfl) (by rfl) (by rfl) ?_
  k_go0
  all_goals try k_fold
  rename_i h1 tk1 F0 oB oA dB dA N0 yS
  rename IntsAre _ _ => iS
  rename ¬ (_ : Int) < _ => hS63
  rename Heap.IsList _ _ _ => hL4
  obtain ⟨lS, eS⟩ := lname hL4
  subst eS
  have hS := ints63 iS hS63
  replace dB : oB.data = .cell none := dB.trans (by kernel_rfl)
  replace dA : oA.data = .cell none := dA.trans (by kernel_rfl)
  replace F0 := fr_eq (m' := fun y => if y = Str.ofString "script" then some (.ref lS) else none) F0 (by kernel_rfl)
  clear yS
  k_steps
  next =>
    refine resume ?_
    rename List.length _ = 6 => hl6
    rename ∀ a ∈ _, -9 ≤ a ∧ a ≤ 13 => hb6
    rename IntsAre _ ([1] ++ _) => i2
    rename IntsAre _ ([1] ++ List.take (Int.toNat _) _) => i1
    obtain ⟨wa, wb, wc, wd, we, wf, e6⟩ := six hl6
    subst e6
    have ba := hb6 wa (by simp)
    have bb := hb6 wb (by simp)
    have bc := hb6 wc (by simp)
    have bd := hb6 wd (by simp)
    have be := hb6 we (by simp)
    have bf := hb6 wf (by simp)
    replace i1 : IntsAre _ [1, wa, wb] := i1
    replace i2 : IntsAre _ [1, wd, we] := i2
    rename Fr _ _ _ _ => F2
    refine assign_in F2 rfl (by with_unfolding_all rfl) (by with_unfolding_all rfl) (by decide) (by rfl) (by decide) (by with_unfolding_all rfl) (by rfl) ?_
    k_steps
    refine resume ?_
    rename Fr _ _ _ _ => F2
    rename News _ _ _ _ => N2
    refine' c_texts _ _ _ _ _ _ _ _ _ _ _ _ _ _ _ _ _ _ _ _ _ _ 3 _ ?kB ?kF ?kX ?kN ?kT ?kK ?kD ?kU (by decide) (by decide) ?_
    case kB => k_asm
    case kF => k_asm
    case kX => k_asm
    case kN => k_asm
    case kT => k_asm
    case kK => first | exact rfl | assumption
    case kD => ktr_room
    case kU => ktr_units

    intro q9 c9 k9 h9 tk9 hT9 a9 F9 N9
    try dsimp only
    clear F2 N2
    replace N9 := news_swap N9
    have a8 := allLt_in a9
    simp only [AllLt, and_true] at a8
    clear a9
    have hc9 : ((refs c9).drop 1).length = 3 := by rw [List.length_drop, refs, List.length_map, hT9.len, told_len]
    simp only [List.cons_append, List.nil_append] at N9
    refine list_localU (vs := (refs c9).drop 1) (k := k9) (fun j y => ∃ t, y = Value.int (togetherP [1, wa, wb] [1, wd, we] ((toldP 3).getD (j + 1) [])) t) rfl (.head _) (by rw [hc9]; decide) F9 N9 (by rfl) (by rfl) ?el ?fin
    case el =>
      clear F9
      intro i v C oC m2 own h2 tk2 E2 hv hoC hm2 F5 N5
      clear N9
      obtain ⟨p, rfl, hpm, hps, hpT⟩ := refs_item hT9 hv
      try dsimp only
      try simp only [List.cons_append, List.nil_append, List.append_assoc] at N5
      have N5b := news_cons (p := (p.1, listOf p.2.1.toArray p.2.2)) (by repeat (first | exact List.mem_append.mpr (.inl hpm) | exact hpm | apply List.Mem.tail)) N5 N5
      clear N5
      k_steps
      refine resume ?_
      rename Fr _ _ _ _ => F6
      rename News _ _ _ _ => N6
      refine' c_together _ _ _ _ _ _ _ _ _ _ _ _ _ _ _ _ _ _ _ _ _ _ p.1 _ _ p.2.1 _ _ ((toldP 3).getD (i + 1) []) [1, wa, wb] [1, wd, we] _ _ _ ?kB ?kF ?kX ?kN ?kT ?kK ?kD ?kU (.head _) ?m2 ?m3 hps i1 i2 (fun x hx => okAll3 _ hpT x hx) rfl (Nat.le_of_ble_eq_true rfl) ?wwa ?wwb ?_
      case kB => k_asm
      case kF => k_asm
      case kX => k_asm
      case kN => k_asm
      case kT => k_asm
      case kK => first | exact rfl | assumption
      case kD => ktr_room
      case kU => ktr_units

      case m2 => k_mem
      case m3 => k_mem
      case wwa => exact List.forall_mem_cons.mpr ⟨by decide, List.forall_mem_cons.mpr ⟨by omega, List.forall_mem_cons.mpr ⟨by omega, (fun _ h => nomatch h)⟩⟩⟩
      case wwb => exact List.forall_mem_cons.mpr ⟨by decide, List.forall_mem_cons.mpr ⟨by omega, List.forall_mem_cons.mpr ⟨by omega, (fun _ h => nomatch h)⟩⟩⟩
      intro t9 h9 tk9 F9 N9
      try dsimp only
      refine ⟨_, _, rfl, ⟨_, rfl⟩, F9, ?_⟩
      have N10 := news_sub N9 (fun q hq => List.Mem.tail _ hq)
      simpa only [List.cons_append, List.nil_append, List.append_assoc] using N10
    case fin =>
      clear F9 N9
      intro ys D h2 tk2 hl hR hD F5 N5
      obtain ⟨B, hB⟩ : ∃ B, BothIs B 3 [1, wa, wb] [1, wd, we] := ⟨_, ⟨rfl⟩⟩
      have i5 : IntsAre ys B := by
        have q := ints_of (hl.trans hc9) hR
        rw [hB.eq, bothP, told_drop3]
        exact q
      have b5 : Bnd 30 B := by
        rw [hB.eq]
        exact both3_bnd ba bb bd be
      have b1 : Bnd 30 [1, wa, wb] := bnd_cons (by decide) (bnd_cons (bw ba) (bnd_cons (bw bb) (bnd_nil)))
      have b2 : Bnd 30 [1, wd, we] := bnd_cons (by decide) (bnd_cons (bw bd) (bnd_cons (bw be) (bnd_nil)))
      have l5 : B.length = 3 := by
        rw [hB.eq, both3]
        rfl
      have l5a : 3 ≤ B.length := by rw [l5]; decide
      have l5b : B.length ≤ 4 := by rw [l5]; decide
      have a7 := allLt_in hD
      simp only [AllLt, and_true] at a7
      clear hD hR
      replace N5 := news_lst N5
      try dsimp only
      k_steps
      refine resume ?_
      rename Fr _ _ _ _ => F6
      rename News _ _ _ _ => N6
      refine' c_inv _ _ _ _ _ _ _ _ _ _ _ _ _ _ _ _ _ _ _ _ _ _ _ _ (B) _ ?kB ?kF ?kX ?kN ?kT ?kK ?kD ?kU ?mm i5 l5a l5b b5 ?_
      case kB => k_asm
      case kF => k_asm
      case kX => k_asm
      case kN => k_asm
      case kT => k_asm
      case kK => first | exact rfl | assumption
      case kD => ktr_room
      case kU => ktr_units

      case mm => k_mem
      intro q1 vs1 k1 ns1 h1 tk1 j1 e1 a1 F7 N7
      try dsimp only
      have z1 := allLt_in a1
      simp only [AllLt, and_true] at z1
      replace e1 : InvIs ns1 (B) := ⟨e1⟩
      clear a1 F6 N6
      k_steps
      refine resume ?_
      rename Fr _ _ _ _ => F6
      rename News _ _ _ _ => N6
      refine' c_inv _ _ _ _ _ _ _ _ _ _ _ _ _ _ _ _ _ _ _ _ _ _ _ _ ([1, wa, wb]) _ ?kB ?kF ?kX ?kN ?kT ?kK ?kD ?kU ?mm i1 (Nat.le_of_ble_eq_true rfl) (Nat.le_of_ble_eq_true rfl) b1 ?_
      case kB => k_asm
      case kF => k_asm
      case kX => k_asm
      case kN => k_asm
      case kT => k_asm
      case kK => first | exact rfl | assumption
      case kD => ktr_room
      case kU => ktr_units

      case mm => k_mem
      intro q2 vs2 k2 ns2 h2 tk2 j2 e2 a2 F7 N7
      try dsimp only
      have z2 := allLt_in a2
      simp only [AllLt, and_true] at z2
      replace e2 : InvIs ns2 ([1, wa, wb]) := ⟨e2⟩
      clear a2 F6 N6
      k_steps
      refine resume ?_
      rename Fr _ _ _ _ => F6
      rename News _ _ _ _ => N6
      refine' c_inv _ _ _ _ _ _ _ _ _ _ _ _ _ _ _ _ _ _ _ _ _ _ _ _ ([1, wd, we]) _ ?kB ?kF ?kX ?kN ?kT ?kK ?kD ?kU ?mm i2 (Nat.le_of_ble_eq_true rfl) (Nat.le_of_ble_eq_true rfl) b2 ?_
      case kB => k_asm
      case kF => k_asm
      case kX => k_asm
      case kN => k_asm
      case kT => k_asm
      case kK => first | exact rfl | assumption
      case kD => ktr_room
      case kU => ktr_units

      case mm => k_mem
      intro q3 vs3 k3 ns3 h3 tk3 j3 e3 a3 F7 N7
      try dsimp only
      have z3 := allLt_in a3
      simp only [AllLt, and_true] at z3
      replace e3 : InvIs ns3 ([1, wd, we]) := ⟨e3⟩
      clear a3 F6 N6
      k_steps
      have n2 : ns2.length = 3 := by rw [e2.eq, invP_len (Nat.le_of_ble_eq_true rfl)]; rfl
      have n3 : ns3.length = 3 := by rw [e3.eq, invP_len (Nat.le_of_ble_eq_true rfl)]; rfl
      have n23 : ns2.length = ns3.length := n2.trans n3.symm
      have n28 : ns2.length ≤ 8 := by rw [n2]; decide
      have hmm : ∀ a b, IntMulOk (ns2.getD a 0) (ns3.getD b 0) := by
        rw [e2.eq, e3.eq]
        exact invs_mul (n := 3) rfl rfl (by decide) (by decide) b1 b2
      refine resume ?_
      rename Fr _ _ _ _ => F6
      rename News _ _ _ _ => N6
      refine' c_prod _ _ _ _ _ _ _ _ _ _ _ _ _ _ _ _ _ _ _ _ _ _ _ _ _ _ ns2 ns3 _ _ ?kB ?kF ?kX ?kN ?kT ?kK ?kD ?kU ?mm1 ?mm2 j2 j3 n23 n28 hmm ?_
      case kB => k_asm
      case kF => k_asm
      case kX => k_asm
      case kN => k_asm
      case kT => k_asm
      case kK => first | exact rfl | assumption
      case kD => ktr_room
      case kU => ktr_units

      case mm1 => k_mem
      case mm2 => k_mem
      intro q4 vs4 k4 ns4 h4 tk4 j4 e4 a4 F8 N8
      try dsimp only
      have z4 := allLt_in a4
      simp only [AllLt, and_true] at z4
      clear a4 F6 N6
      have eE : ns1 = ns4 := by
        rw [e1.eq, e4, e2.eq, e3.eq, hB.eq]
        exact plain3 wa wb wd we
      clear e4
      subst eE
      k_steps
  next =>
    refine resume ?_
    rename List.length _ = 6 => hl6
    rename ∀ a ∈ _, -9 ≤ a ∧ a ≤ 13 => hb6
    rename IntsAre _ ([1] ++ _) => i2
    rename IntsAre _ ([1] ++ List.take (Int.toNat _) _) => i1
    obtain ⟨wa, wb, wc, wd, we, wf, e6⟩ := six hl6
    subst e6
    have ba := hb6 wa (by simp)
    have bb := hb6 wb (by simp)
    have bc := hb6 wc (by simp)
    have bd := hb6 wd (by simp)
    have be := hb6 we (by simp)
    have bf := hb6 wf (by simp)
    replace i1 : IntsAre _ [1, wa, wb, wc] := i1
    replace i2 : IntsAre _ [1, wd, we, wf] := i2
    rename Fr _ _ _ _ => F2
    refine assign_in F2 rfl (by with_unfolding_all rfl) (by with_unfolding_all rfl) (by decide) (by rfl) (by decide) (by with_unfolding_all rfl) (by rfl) ?_
    k_steps
    refine resume ?_
    rename Fr _ _ _ _ => F2
    rename News _ _ _ _ => N2
    refine' c_texts _ _ _ _ _ _ _ _ _ _ _ _ _ _ _ _ _ _ _ _ _ _ 4 _ ?kB ?kF ?kX ?kN ?kT ?kK ?kD ?kU (by decide) (by decide) ?_
    case kB => k_asm
    case kF => k_asm
    case kX => k_asm
    case kN => k_asm
    case kT => k_asm
    case kK => first | exact rfl | assumption
    case kD => ktr_room
    case kU => ktr_units

    intro q9 c9 k9 h9 tk9 hT9 a9 F9 N9
    try dsimp only
    clear F2 N2
    replace N9 := news_swap N9
    have a8 := allLt_in a9
    simp only [AllLt, and_true] at a8
    clear a9
    have hc9 : ((refs c9).drop 1).length = 4 := by rw [List.length_drop, refs, List.length_map, hT9.len, told_len]
    simp only [List.cons_append, List.nil_append] at N9
    refine list_localU (vs := (refs c9).drop 1) (k := k9) (fun j y => ∃ t, y = Value.int (togetherP [1, wa, wb, wc] [1, wd, we, wf] ((toldP 4).getD (j + 1) [])) t) rfl (.head _) (by rw [hc9]; decide) F9 N9 (by rfl) (by rfl) ?el ?fin
    case el =>
      clear F9
      intro i v C oC m2 own h2 tk2 E2 hv hoC hm2 F5 N5
      clear N9
      obtain ⟨p, rfl, hpm, hps, hpT⟩ := refs_item hT9 hv
      try dsimp only
      try simp only [List.cons_append, List.nil_append, List.append_assoc] at N5
      have N5b := news_cons (p := (p.1, listOf p.2.1.toArray p.2.2)) (by repeat (first | exact List.mem_append.mpr (.inl hpm) | exact hpm | apply List.Mem.tail)) N5 N5
      clear N5
      k_steps
      refine resume ?_
      rename Fr _ _ _ _ => F6
      rename News _ _ _ _ => N6
      refine' c_together _ _ _ _ _ _ _ _ _ _ _ _ _ _ _ _ _ _ _ _ _ _ p.1 _ _ p.2.1 _ _ ((toldP 4).getD (i + 1) []) [1, wa, wb, wc] [1, wd, we, wf] _ _ _ ?kB ?kF ?kX ?kN ?kT ?kK ?kD ?kU (.head _) ?m2 ?m3 hps i1 i2 (fun x hx => okAll4 _ hpT x hx) rfl (Nat.le_of_ble_eq_true rfl) ?wwa ?wwb ?_
      case kB => k_asm
      case kF => k_asm
      case kX => k_asm
      case kN => k_asm
      case kT => k_asm
      case kK => first | exact rfl | assumption
      case kD => ktr_room
      case kU => ktr_units

      case m2 => k_mem
      case m3 => k_mem
      case wwa => exact List.forall_mem_cons.mpr ⟨by decide, List.forall_mem_cons.mpr ⟨by omega, List.forall_mem_cons.mpr ⟨by omega, List.forall_mem_cons.mpr ⟨by omega, (fun _ h => nomatch h)⟩⟩⟩⟩
      case wwb => exact List.forall_mem_cons.mpr ⟨by decide, List.forall_mem_cons.mpr ⟨by omega, List.forall_mem_cons.mpr ⟨by omega, List.forall_mem_cons.mpr ⟨by omega, (fun _ h => nomatch h)⟩⟩⟩⟩
      intro t9 h9 tk9 F9 N9
      try dsimp only
      refine ⟨_, _, rfl, ⟨_, rfl⟩, F9, ?_⟩
      have N10 := news_sub N9 (fun q hq => List.Mem.tail _ hq)
      simpa only [List.cons_append, List.nil_append, List.append_assoc] using N10
    case fin =>
      clear F9 N9
      intro ys D h2 tk2 hl hR hD F5 N5
      obtain ⟨B, hB⟩ : ∃ B, BothIs B 4 [1, wa, wb, wc] [1, wd, we, wf] := ⟨_, ⟨rfl⟩⟩
      have i5 : IntsAre ys B := by
        have q := ints_of (hl.trans hc9) hR
        rw [hB.eq, bothP, told_drop4]
        exact q
      have b5 : Bnd 30 B := by
        rw [hB.eq]
        exact both4_bnd ba bb bc bd be bf
      have b1 : Bnd 30 [1, wa, wb, wc] := bnd_cons (by decide) (bnd_cons (bw ba) (bnd_cons (bw bb) (bnd_cons (bw bc) (bnd_nil))))
      have b2 : Bnd 30 [1, wd, we, wf] := bnd_cons (by decide) (bnd_cons (bw bd) (bnd_cons (bw be) (bnd_cons (bw bf) (bnd_nil))))
      have l5 : B.length = 4 := by
        rw [hB.eq, both4]
        rfl
      have l5a : 3 ≤ B.length := by rw [l5]; decide
      have l5b : B.length ≤ 4 := by rw [l5]; decide
      have a7 := allLt_in hD
      simp only [AllLt, and_true] at a7
      clear hD hR
      replace N5 := news_lst N5
      try dsimp only
      k_steps
      refine resume ?_
      rename Fr _ _ _ _ => F6
      rename News _ _ _ _ => N6
      refine' c_inv _ _ _ _ _ _ _ _ _ _ _ _ _ _ _ _ _ _ _ _ _ _ _ _ (B) _ ?kB ?kF ?kX ?kN ?kT ?kK ?kD ?kU ?mm i5 l5a l5b b5 ?_
      case kB => k_asm
      case kF => k_asm
      case kX => k_asm
      case kN => k_asm
      case kT => k_asm
      case kK => first | exact rfl | assumption
      case kD => ktr_room
      case kU => ktr_units

      case mm => k_mem
      intro q1 vs1 k1 ns1 h1 tk1 j1 e1 a1 F7 N7
      try dsimp only
      have z1 := allLt_in a1
      simp only [AllLt, and_true] at z1
      replace e1 : InvIs ns1 (B) := ⟨e1⟩
      clear a1 F6 N6
      k_steps
      refine resume ?_
      rename Fr _ _ _ _ => F6
      rename News _ _ _ _ => N6
      refine' c_inv _ _ _ _ _ _ _ _ _ _ _ _ _ _ _ _ _ _ _ _ _ _ _ _ ([1, wa, wb, wc]) _ ?kB ?kF ?kX ?kN ?kT ?kK ?kD ?kU ?mm i1 (Nat.le_of_ble_eq_true rfl) (Nat.le_of_ble_eq_true rfl) b1 ?_
      case kB => k_asm
      case kF => k_asm
      case kX => k_asm
      case kN => k_asm
      case kT => k_asm
      case kK => first | exact rfl | assumption
      case kD => ktr_room
      case kU => ktr_units

      case mm => k_mem
      intro q2 vs2 k2 ns2 h2 tk2 j2 e2 a2 F7 N7
      try dsimp only
      have z2 := allLt_in a2
      simp only [AllLt, and_true] at z2
      replace e2 : InvIs ns2 ([1, wa, wb, wc]) := ⟨e2⟩
      clear a2 F6 N6
      k_steps
      refine resume ?_
      rename Fr _ _ _ _ => F6
      rename News _ _ _ _ => N6
      refine' c_inv _ _ _ _ _ _ _ _ _ _ _ _ _ _ _ _ _ _ _ _ _ _ _ _ ([1, wd, we, wf]) _ ?kB ?kF ?kX ?kN ?kT ?kK ?kD ?kU ?mm i2 (Nat.le_of_ble_eq_true rfl) (Nat.le_of_ble_eq_true rfl) b2 ?_
      case kB => k_asm
      case kF => k_asm
      case kX => k_asm
      case kN => k_asm
      case kT => k_asm
      case kK => first | exact rfl | assumption
      case kD => ktr_room
      case kU => ktr_units

      case mm => k_mem
      intro q3 vs3 k3 ns3 h3 tk3 j3 e3 a3 F7 N7
      try dsimp only
      have z3 := allLt_in a3
      simp only [AllLt, and_true] at z3
      replace e3 : InvIs ns3 ([1, wd, we, wf]) := ⟨e3⟩
      clear a3 F6 N6
      k_steps
      have n2 : ns2.length = 4 := by rw [e2.eq, invP_len (Nat.le_of_ble_eq_true rfl)]; rfl
      have n3 : ns3.length = 4 := by rw [e3.eq, invP_len (Nat.le_of_ble_eq_true rfl)]; rfl
      have n23 : ns2.length = ns3.length := n2.trans n3.symm
      have n28 : ns2.length ≤ 8 := by rw [n2]; decide
      have hmm : ∀ a b, IntMulOk (ns2.getD a 0) (ns3.getD b 0) := by
        rw [e2.eq, e3.eq]
        exact invs_mul (n := 4) rfl rfl (by decide) (by decide) b1 b2
      refine resume ?_
      rename Fr _ _ _ _ => F6
      rename News _ _ _ _ => N6
      refine' c_prod _ _ _ _ _ _ _ _ _ _ _ _ _ _ _ _ _ _ _ _ _ _ _ _ _ _ ns2 ns3 _ _ ?kB ?kF ?kX ?kN ?kT ?kK ?kD ?kU ?mm1 ?mm2 j2 j3 n23 n28 hmm ?_
      case kB => k_asm
      case kF => k_asm
      case kX => k_asm
      case kN => k_asm
      case kT => k_asm
      case kK => first | exact rfl | assumption
      case kD => ktr_room
      case kU => ktr_units

      case mm1 => k_mem
      case mm2 => k_mem
      intro q4 vs4 k4 ns4 h4 tk4 j4 e4 a4 F8 N8
      try dsimp only
      have z4 := allLt_in a4
      simp only [AllLt, and_true] at z4
      clear a4 F6 N6
      have eE : ns1 = ns4 := by
        rw [e1.eq, e4, e2.eq, e3.eq, hB.eq]
        exact plain4 wa wb wc wd we wf
      clear e4
      subst eE
      k_steps
end
end Mine
open PySem PySem.W PyProof.Rows
theorem PySem.Challenge.cw_wj0066_01_holds : PySem.Challenge.rw_wj0066_01.Holds :=
  Mine.t_law
