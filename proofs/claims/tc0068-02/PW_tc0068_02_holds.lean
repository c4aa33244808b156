import PyProof.Rows.All
import Wide.All
import OpenK.AllK
import KE.KSuper
import Wide.FinOn
import PySem.Challenge.RW_tc0068_02
set_option Elab.async false
set_option compiler.extract_closed false
set_option compiler.reuse false
section
open PySem PySem.W PyProof.Rows
set_option Elab.async false
set_option maxRecDepth 100000
set_option maxHeartbeats 8000000
namespace Mine
noncomputable def st (s : String) : PySem.Str := PySem.Str.ofString s
noncomputable def nt (n : Nat) : Nat := n
noncomputable def nN : Option Nat := none
noncomputable def sN (n : Nat) : Option Nat := some n
noncomputable def nC : List (PySem.Str × Nat) := []
noncomputable def pN (a : PySem.Str) (n : Nat) : PySem.Str × Nat := (a, n)
noncomputable def de (P : Params) (k : String) (n : Nat) (v : Value) : DictEntry := .mk (PyData.keyHash P (st k)) (.str (st k) n) v
noncomputable def nth : List Stmt → Nat → Stmt
  | [], _ => .Pass default
  | x :: _, 0 => x
  | _ :: l, n + 1 => nth l n
noncomputable def inCls : Stmt → List Stmt
  | .ClassDef _ _ _ b .. => b
  | _ => []
noncomputable def pwBody : List Stmt := PySem.Challenge.pw_tc0068_02.main.body
noncomputable def fOf : Stmt → Arguments × FuncBody × Scope
  | .FunctionDef _ a b _ _ _ sc .. => (a, .stmts b, sc)
  | _ => default
noncomputable abbrev FdOf (s : Stmt) := { d : Arguments × FuncBody × Scope // fOf s = d }
noncomputable def fd0 : FdOf (nth pwBody 0) := ⟨(_, _, _), by conv => lhs; whnf⟩
noncomputable def fd2 : FdOf (nth pwBody 2) := ⟨(_, _, _), by conv => lhs; whnf⟩
noncomputable def fd3 : FdOf (nth pwBody 3) := ⟨(_, _, _), by conv => lhs; whnf⟩
noncomputable def fd4 : FdOf (nth pwBody 4) := ⟨(_, _, _), by conv => lhs; whnf⟩
noncomputable def fd8_0 : FdOf (nth (inCls (nth pwBody 8)) 0) := ⟨(_, _, _), by conv => lhs; whnf⟩
noncomputable def fd8_1 : FdOf (nth (inCls (nth pwBody 8)) 1) := ⟨(_, _, _), by conv => lhs; whnf⟩
noncomputable def fd8_2 : FdOf (nth (inCls (nth pwBody 8)) 2) := ⟨(_, _, _), by conv => lhs; whnf⟩
noncomputable def fd8_3 : FdOf (nth (inCls (nth pwBody 8)) 3) := ⟨(_, _, _), by conv => lhs; whnf⟩
noncomputable def fd8_4 : FdOf (nth (inCls (nth pwBody 8)) 4) := ⟨(_, _, _), by conv => lhs; whnf⟩
noncomputable def fd8_5 : FdOf (nth (inCls (nth pwBody 8)) 5) := ⟨(_, _, _), by conv => lhs; whnf⟩
noncomputable def fd8_6 : FdOf (nth (inCls (nth pwBody 8)) 6) := ⟨(_, _, _), by conv => lhs; whnf⟩
noncomputable def fd8_7 : FdOf (nth (inCls (nth pwBody 8)) 7) := ⟨(_, _, _), by conv => lhs; whnf⟩
noncomputable def fd8_8 : FdOf (nth (inCls (nth pwBody 8)) 8) := ⟨(_, _, _), by conv => lhs; whnf⟩
noncomputable def fd9_0 : FdOf (nth (inCls (nth pwBody 9)) 0) := ⟨(_, _, _), by conv => lhs; whnf⟩
noncomputable def fd9_1 : FdOf (nth (inCls (nth pwBody 9)) 1) := ⟨(_, _, _), by conv => lhs; whnf⟩
noncomputable def fd9_2 : FdOf (nth (inCls (nth pwBody 9)) 2) := ⟨(_, _, _), by conv => lhs; whnf⟩
noncomputable def fd9_3 : FdOf (nth (inCls (nth pwBody 9)) 3) := ⟨(_, _, _), by conv => lhs; whnf⟩
noncomputable def fd9_4 : FdOf (nth (inCls (nth pwBody 9)) 4) := ⟨(_, _, _), by conv => lhs; whnf⟩
noncomputable def fd9_5 : FdOf (nth (inCls (nth pwBody 9)) 5) := ⟨(_, _, _), by conv => lhs; whnf⟩
noncomputable def fd9_6 : FdOf (nth (inCls (nth pwBody 9)) 6) := ⟨(_, _, _), by conv => lhs; whnf⟩
noncomputable def fd9_7 : FdOf (nth (inCls (nth pwBody 9)) 7) := ⟨(_, _, _), by conv => lhs; whnf⟩
noncomputable def fd9_8 : FdOf (nth (inCls (nth pwBody 9)) 8) := ⟨(_, _, _), by conv => lhs; whnf⟩
noncomputable def fd11_1 : FdOf (nth (inCls (nth pwBody 11)) 1) := ⟨(_, _, _), by conv => lhs; whnf⟩
noncomputable def fd11_2 : FdOf (nth (inCls (nth pwBody 11)) 2) := ⟨(_, _, _), by conv => lhs; whnf⟩
noncomputable def fd11_3 : FdOf (nth (inCls (nth pwBody 11)) 3) := ⟨(_, _, _), by conv => lhs; whnf⟩
noncomputable def fd11_4 : FdOf (nth (inCls (nth pwBody 11)) 4) := ⟨(_, _, _), by conv => lhs; whnf⟩
noncomputable def fd11_5 : FdOf (nth (inCls (nth pwBody 11)) 5) := ⟨(_, _, _), by conv => lhs; whnf⟩
noncomputable def fd11_6 : FdOf (nth (inCls (nth pwBody 11)) 6) := ⟨(_, _, _), by conv => lhs; whnf⟩
noncomputable def fd11_7 : FdOf (nth (inCls (nth pwBody 11)) 7) := ⟨(_, _, _), by conv => lhs; whnf⟩
noncomputable def fd13 : FdOf (nth pwBody 13) := ⟨(_, _, _), by conv => lhs; whnf⟩
noncomputable def fd14 : FdOf (nth pwBody 14) := ⟨(_, _, _), by conv => lhs; whnf⟩
noncomputable def fd15 : FdOf (nth pwBody 15) := ⟨(_, _, _), by conv => lhs; whnf⟩
noncomputable def fd16 : FdOf (nth pwBody 16) := ⟨(_, _, _), by conv => lhs; whnf⟩
noncomputable def fd17 : FdOf (nth pwBody 17) := ⟨(_, _, _), by conv => lhs; whnf⟩
noncomputable def heap39 (P : Params) : Frag := by
  refine (?f : (K : List (Nat × Obj)) → ([
 ((nat_lit 2), (.mk .none nN (.dict #[] (nt 0)) #[])),
 ((nat_lit 3), (.mk (.type "dict") nN (.dict #[(de P "__name__" 165 (.str (st "law_tc0068_02") (nt 541))), (de P "__doc__" 166 .none), (de P "__package__" 167 .none), (de P "__loader__" 168 (.builtin "__main__.__loader__#opaque")), (de P "__spec__" 169 .none), (de P "__annotations__" 170 (.ref (nt 6))), (de P "__builtins__" 171 (.ref (nt 4))), (de P "__file__" 173 (.str (st "/claim/cut.py") (nt 172))), (de P "__cached__" 174 .none), (de P "_wall" 193 (.ref (nt 21))), (de P "_iter_escaped_chars" 205 (.ref (nt 28))), (de P "_strip_quoted_realnames" 217 (.ref (nt 35))), (de P "_check_parenthesis" 227 (.ref (nt 42))), (de P "NL" 231 (.str (st "\n") (nt 230))), (de P "EMPTYSTRING" 233 (.str (st "") (nt 232))), (de P "_ValueFormatter" 341 (.ref (nt 115))), (de P "_Accumulator" 437 (.ref (nt 199))), (de P "Whitespace" 540 (.ref (nt 265))), (de P "_law_first" 553 (.ref (nt 276))), (de P "_law_marks" 564 (.ref (nt 283))), (de P "_law_pieces" 570 (.ref (nt 288))), (de P "_law_witnesses" 576 (.ref (nt 293))), (de P "law" 582 (.ref (nt 298)))] (nt 23)) #[])),
 ((nat_lit 15), (.mk (.type "tuple") nN (.seq #[] (nt 0)) #[])),
 ((nat_lit 17), (.mk (.type "tuple") nN (.seq #[(.str (st "k") (nt 190))] (nt 0)) #[])),
 ((nat_lit 18), (.mk (.type "tuple") nN (.seq #[] (nt 0)) #[])),
 ((nat_lit 20), (.mk (.type "code") nN (.fields #[(.str (st "_wall") (nt 187)), (.str (st "_wall") (nt 188)), (.str (st "/claim/cut.py") (nt 189)), (.int 1 (nt 0)), (.int 1 (nt 0)), (.int 0 (nt 0)), (.int 0 (nt 0)), (.int 3 (nt 0)), (.ref (nt 15)), (.bool true), (.int 181 (nt 0)), (.ref (nt 16)), .none, (.ref (nt 17)), (.ref (nt 18)), (.ref (nt 19)), (.int 191 (nt 0)), (.int 1 (nt 0)), (.str (st "/claim/cut.py") (nt 192))]) #[])),
 ((nat_lit 21), (.mk (.type "function") nN (.func (.mk (st "_wall") (st "_wall") fd0.1.1 fd0.1.2.1 fd0.1.2.2 (nt 3) nC .none .none .none (.str (st "__main__") (nt 164)) nN (.ref (nt 20)) .none (nt 0))) #[])),
 ((nat_lit 22), (.mk (.type "tuple") nN (.seq #[] (nt 0)) #[])),
 ((nat_lit 24), (.mk (.type "tuple") nN (.seq #[(.str (st "addr") (nt 199)), (.str (st "pos") (nt 200)), (.str (st "escape") (nt 201)), (.str (st "ch") (nt 202))] (nt 0)) #[])),
 ((nat_lit 25), (.mk (.type "tuple") nN (.seq #[] (nt 0)) #[])),
 ((nat_lit 27), (.mk (.type "code") nN (.fields #[(.str (st "_iter_escaped_chars") (nt 196)), (.str (st "_iter_escaped_chars") (nt 197)), (.str (st "/claim/cut.py") (nt 198)), (.int 5 (nt 0)), (.int 1 (nt 0)), (.int 0 (nt 0)), (.int 0 (nt 0)), (.int 35 (nt 0)), (.ref (nt 22)), (.bool true), (.int 181 (nt 0)), (.ref (nt 23)), .none, (.ref (nt 24)), (.ref (nt 25)), (.ref (nt 26)), (.int 203 (nt 0)), (.int 5 (nt 0)), (.str (st "/claim/cut.py") (nt 204))]) #[])),
 ((nat_lit 28), (.mk (.type "function") nN (.func (.mk (st "_iter_escaped_chars") (st "_iter_escaped_chars") fd2.1.1 fd2.1.2.1 fd2.1.2.2 (nt 3) nC .none .none .none (.str (st "cpy313.email.utils") (nt 194)) nN (.ref (nt 27)) .none (nt 0))) #[])),
 ((nat_lit 29), (.mk (.type "tuple") nN (.seq #[] (nt 0)) #[])),
 ((nat_lit 31), (.mk (.type "tuple") nN (.seq #[(.str (st "addr") (nt 209)), (.str (st "start") (nt 210)), (.str (st "open_pos") (nt 211)), (.str (st "result") (nt 212)), (.str (st "pos") (nt 213)), (.str (st "ch") (nt 214))] (nt 0)) #[])),
 ((nat_lit 32), (.mk (.type "tuple") nN (.seq #[] (nt 0)) #[])),
 ((nat_lit 34), (.mk (.type "code") nN (.fields #[(.str (st "_strip_quoted_realnames") (nt 206)), (.str (st "_strip_quoted_realnames") (nt 207)), (.str (st "/claim/cut.py") (nt 208)), (.int 18 (nt 0)), (.int 1 (nt 0)), (.int 0 (nt 0)), (.int 0 (nt 0)), (.int 3 (nt 0)), (.ref (nt 29)), (.bool true), (.int 181 (nt 0)), (.ref (nt 30)), .none, (.ref (nt 31)), (.ref (nt 32)), (.ref (nt 33)), (.int 215 (nt 0)), (.int 18 (nt 0)), (.str (st "/claim/cut.py") (nt 216))]) #[])),
 ((nat_lit 35), (.mk (.type "function") nN (.func (.mk (st "_strip_quoted_realnames") (st "_strip_quoted_realnames") fd3.1.1 fd3.1.2.1 fd3.1.2.2 (nt 3) nC .none .none .none (.str (st "cpy313.email.utils") (nt 194)) nN (.ref (nt 34)) .none (nt 0))) #[])),
 ((nat_lit 36), (.mk (.type "tuple") nN (.seq #[] (nt 0)) #[])),
 ((nat_lit 38), (.mk (.type "tuple") nN (.seq #[(.str (st "addr") (nt 221)), (.str (st "opens") (nt 222)), (.str (st "pos") (nt 223)), (.str (st "ch") (nt 224))] (nt 0)) #[])),
 ((nat_lit 39), (.mk (.type "tuple") nN (.seq #[] (nt 0)) #[])),
 ((nat_lit 41), (.mk (.type "code") nN (.fields #[(.str (st "_check_parenthesis") (nt 218)), (.str (st "_check_parenthesis") (nt 219)), (.str (st "/claim/cut.py") (nt 220)), (.int 36 (nt 0)), (.int 1 (nt 0)), (.int 0 (nt 0)), (.int 0 (nt 0)), (.int 3 (nt 0)), (.ref (nt 36)), (.bool true), (.int 181 (nt 0)), (.ref (nt 37)), .none, (.ref (nt 38)), (.ref (nt 39)), (.ref (nt 40)), (.int 225 (nt 0)), (.int 36 (nt 0)), (.str (st "/claim/cut.py") (nt 226))]) #[])),
 ((nat_lit 42), (.mk (.type "function") nN (.func (.mk (st "_check_parenthesis") (st "_check_parenthesis") fd4.1.1 fd4.1.2.1 fd4.1.2.2 (nt 3) nC .none .none .none (.str (st "cpy313.email.utils") (nt 194)) nN (.ref (nt 41)) .none (nt 0))) #[])),
 ((nat_lit 50), (.mk (.type "tuple") nN (.seq #[] (nt 0)) #[])),
 ((nat_lit 52), (.mk (.type "tuple") nN (.seq #[(.str (st "self") (nt 249)), (.str (st "headerlen") (nt 250)), (.str (st "maxlen") (nt 251)), (.str (st "continuation_ws") (nt 252)), (.str (st "splitchars") (nt 253))] (nt 0)) #[])),
 ((nat_lit 53), (.mk (.type "tuple") nN (.seq #[] (nt 0)) #[])),
 ((nat_lit 55), (.mk (.type "code") nN (.fields #[(.str (st "__init__") (nt 246)), (.str (st "_ValueFormatter.__init__") (nt 247)), (.str (st "/claim/cut.py") (nt 248)), (.int 52 (nt 0)), (.int 5 (nt 0)), (.int 0 (nt 0)), (.int 0 (nt 0)), (.int 3 (nt 0)), (.ref (nt 50)), (.bool true), (.int 181 (nt 0)), (.ref (nt 51)), .none, (.ref (nt 52)), (.ref (nt 53)), (.ref (nt 54)), (.int 254 (nt 0)), (.int 52 (nt 0)), (.str (st "/claim/cut.py") (nt 255))]) #[])),
 ((nat_lit 56), (.mk (.type "function") nN (.func (.mk (st "__init__") (st "_ValueFormatter.__init__") fd8_0.1.1 fd8_0.1.2.1 fd8_0.1.2.2 (nt 3) nC .none .none .none (.str (st "cpy313.email.header") (nt 228)) nN (.ref (nt 55)) .none (nt 0))) #[])),
 ((nat_lit 57), (.mk (.type "tuple") nN (.seq #[] (nt 0)) #[])),
 ((nat_lit 59), (.mk (.type "tuple") nN (.seq #[(.str (st "self") (nt 260)), (.str (st "linesep") (nt 261))] (nt 0)) #[])),
 ((nat_lit 60), (.mk (.type "tuple") nN (.seq #[] (nt 0)) #[])),
 ((nat_lit 62), (.mk (.type "code") nN (.fields #[(.str (st "_str") (nt 257)), (.str (st "_ValueFormatter._str") (nt 258)), (.str (st "/claim/cut.py") (nt 259)), (.int 60 (nt 0)), (.int 2 (nt 0)), (.int 0 (nt 0)), (.int 0 (nt 0)), (.int 3 (nt 0)), (.ref (nt 57)), (.bool true), (.int 181 (nt 0)), (.ref (nt 58)), .none, (.ref (nt 59)), (.ref (nt 60)), (.ref (nt 61)), (.int 262 (nt 0)), (.int 60 (nt 0)), (.str (st "/claim/cut.py") (nt 263))]) #[])),
 ((nat_lit 63), (.mk (.type "function") nN (.func (.mk (st "_str") (st "_ValueFormatter._str") fd8_1.1.1 fd8_1.1.2.1 fd8_1.1.2.2 (nt 3) nC .none .none .none (.str (st "cpy313.email.header") (nt 228)) nN (.ref (nt 62)) .none (nt 0))) #[])),
 ((nat_lit 64), (.mk (.type "tuple") nN (.seq #[] (nt 0)) #[])),
 ((nat_lit 66), (.mk (.type "tuple") nN (.seq #[(.str (st "self") (nt 268))] (nt 0)) #[])),
 ((nat_lit 67), (.mk (.type "tuple") nN (.seq #[] (nt 0)) #[])),
 ((nat_lit 69), (.mk (.type "code") nN (.fields #[(.str (st "__str__") (nt 265)), (.str (st "_ValueFormatter.__str__") (nt 266)), (.str (st "/claim/cut.py") (nt 267)), (.int 64 (nt 0)), (.int 1 (nt 0)), (.int 0 (nt 0)), (.int 0 (nt 0)), (.int 3 (nt 0)), (.ref (nt 64)), (.bool true), (.int 181 (nt 0)), (.ref (nt 65)), .none, (.ref (nt 66)), (.ref (nt 67)), (.ref (nt 68)), (.int 269 (nt 0)), (.int 64 (nt 0)), (.str (st "/claim/cut.py") (nt 270))]) #[])),
 ((nat_lit 70), (.mk (.type "function") nN (.func (.mk (st "__str__") (st "_ValueFormatter.__str__") fd8_2.1.1 fd8_2.1.2.1 fd8_2.1.2.2 (nt 3) nC .none .none .none (.str (st "cpy313.email.header") (nt 228)) nN (.ref (nt 69)) .none (nt 0))) #[])),
 ((nat_lit 71), (.mk (.type "tuple") nN (.seq #[] (nt 0)) #[])),
 ((nat_lit 73), (.mk (.type "tuple") nN (.seq #[(.str (st "self") (nt 275)), (.str (st "end_of_line") (nt 276))] (nt 0)) #[])),
 ((nat_lit 74), (.mk (.type "tuple") nN (.seq #[] (nt 0)) #[])),
 ((nat_lit 76), (.mk (.type "code") nN (.fields #[(.str (st "newline") (nt 272)), (.str (st "_ValueFormatter.newline") (nt 273)), (.str (st "/claim/cut.py") (nt 274)), (.int 67 (nt 0)), (.int 1 (nt 0)), (.int 0 (nt 0)), (.int 0 (nt 0)), (.int 3 (nt 0)), (.ref (nt 71)), (.bool true), (.int 181 (nt 0)), (.ref (nt 72)), .none, (.ref (nt 73)), (.ref (nt 74)), (.ref (nt 75)), (.int 277 (nt 0)), (.int 67 (nt 0)), (.str (st "/claim/cut.py") (nt 278))]) #[])),
 ((nat_lit 77), (.mk (.type "function") nN (.func (.mk (st "newline") (st "_ValueFormatter.newline") fd8_3.1.1 fd8_3.1.2.1 fd8_3.1.2.2 (nt 3) nC .none .none .none (.str (st "cpy313.email.header") (nt 228)) nN (.ref (nt 76)) .none (nt 0))) #[])),
 ((nat_lit 78), (.mk (.type "tuple") nN (.seq #[] (nt 0)) #[])),
 ((nat_lit 80), (.mk (.type "tuple") nN (.seq #[(.str (st "self") (nt 283))] (nt 0)) #[])),
 ((nat_lit 81), (.mk (.type "tuple") nN (.seq #[] (nt 0)) #[])),
 ((nat_lit 83), (.mk (.type "code") nN (.fields #[(.str (st "add_transition") (nt 280)), (.str (st "_ValueFormatter.add_transition") (nt 281)), (.str (st "/claim/cut.py") (nt 282)), (.int 78 (nt 0)), (.int 1 (nt 0)), (.int 0 (nt 0)), (.int 0 (nt 0)), (.int 3 (nt 0)), (.ref (nt 78)), (.bool true), (.int 181 (nt 0)), (.ref (nt 79)), .none, (.ref (nt 80)), (.ref (nt 81)), (.ref (nt 82)), (.int 284 (nt 0)), (.int 78 (nt 0)), (.str (st "/claim/cut.py") (nt 285))]) #[])),
 ((nat_lit 84), (.mk (.type "function") nN (.func (.mk (st "add_transition") (st "_ValueFormatter.add_transition") fd8_4.1.1 fd8_4.1.2.1 fd8_4.1.2.2 (nt 3) nC .none .none .none (.str (st "cpy313.email.header") (nt 228)) nN (.ref (nt 83)) .none (nt 0))) #[])),
 ((nat_lit 85), (.mk (.type "tuple") nN (.seq #[] (nt 0)) #[])),
 ((nat_lit 87), (.mk (.type "tuple") nN (.seq #[(.str (st "self") (nt 290)), (.str (st "fws") (nt 291)), (.str (st "string") (nt 292)), (.str (st "charset") (nt 293))] (nt 0)) #[])),
 ((nat_lit 88), (.mk (.type "tuple") nN (.seq #[] (nt 0)) #[])),
 ((nat_lit 90), (.mk (.type "code") nN (.fields #[(.str (st "feed") (nt 287)), (.str (st "_ValueFormatter.feed") (nt 288)), (.str (st "/claim/cut.py") (nt 289)), (.int 81 (nt 0)), (.int 4 (nt 0)), (.int 0 (nt 0)), (.int 0 (nt 0)), (.int 3 (nt 0)), (.ref (nt 85)), (.bool true), (.int 181 (nt 0)), (.ref (nt 86)), .none, (.ref (nt 87)), (.ref (nt 88)), (.ref (nt 89)), (.int 294 (nt 0)), (.int 81 (nt 0)), (.str (st "/claim/cut.py") (nt 295))]) #[])),
 ((nat_lit 91), (.mk (.type "function") nN (.func (.mk (st "feed") (st "_ValueFormatter.feed") fd8_5.1.1 fd8_5.1.2.1 fd8_5.1.2.2 (nt 3) nC .none .none .none (.str (st "cpy313.email.header") (nt 228)) nN (.ref (nt 90)) .none (nt 0))) #[])),
 ((nat_lit 92), (.mk (.type "tuple") nN (.seq #[] (nt 0)) #[])),
 ((nat_lit 94), (.mk (.type "tuple") nN (.seq #[(.str (st "self") (nt 300))] (nt 0)) #[])),
 ((nat_lit 95), (.mk (.type "tuple") nN (.seq #[] (nt 0)) #[])),
 ((nat_lit 97), (.mk (.type "code") nN (.fields #[(.str (st "_maxlengths") (nt 297)), (.str (st "_ValueFormatter._maxlengths") (nt 298)), (.str (st "/claim/cut.py") (nt 299)), (.int 84 (nt 0)), (.int 1 (nt 0)), (.int 0 (nt 0)), (.int 0 (nt 0)), (.int 3 (nt 0)), (.ref (nt 92)), (.bool true), (.int 181 (nt 0)), (.ref (nt 93)), .none, (.ref (nt 94)), (.ref (nt 95)), (.ref (nt 96)), (.int 301 (nt 0)), (.int 84 (nt 0)), (.str (st "/claim/cut.py") (nt 302))]) #[])),
 ((nat_lit 98), (.mk (.type "function") nN (.func (.mk (st "_maxlengths") (st "_ValueFormatter._maxlengths") fd8_6.1.1 fd8_6.1.2.1 fd8_6.1.2.2 (nt 3) nC .none .none .none (.str (st "cpy313.email.header") (nt 228)) nN (.ref (nt 97)) .none (nt 0))) #[])),
 ((nat_lit 99), (.mk (.type "tuple") nN (.seq #[] (nt 0)) #[])),
 ((nat_lit 101), (.mk (.type "tuple") nN (.seq #[(.str (st "self") (nt 307)), (.str (st "fws") (nt 308)), (.str (st "string") (nt 309)), (.str (st "splitchars") (nt 310))] (nt 0)) #[])),
 ((nat_lit 102), (.mk (.type "tuple") nN (.seq #[] (nt 0)) #[])),
 ((nat_lit 104), (.mk (.type "code") nN (.fields #[(.str (st "_ascii_split") (nt 304)), (.str (st "_ValueFormatter._ascii_split") (nt 305)), (.str (st "/claim/cut.py") (nt 306)), (.int 87 (nt 0)), (.int 4 (nt 0)), (.int 0 (nt 0)), (.int 0 (nt 0)), (.int 3 (nt 0)), (.ref (nt 99)), (.bool true), (.int 181 (nt 0)), (.ref (nt 100)), .none, (.ref (nt 101)), (.ref (nt 102)), (.ref (nt 103)), (.int 311 (nt 0)), (.int 87 (nt 0)), (.str (st "/claim/cut.py") (nt 312))]) #[])),
 ((nat_lit 105), (.mk (.type "function") nN (.func (.mk (st "_ascii_split") (st "_ValueFormatter._ascii_split") fd8_7.1.1 fd8_7.1.2.1 fd8_7.1.2.2 (nt 3) nC .none .none .none (.str (st "cpy313.email.header") (nt 228)) nN (.ref (nt 104)) .none (nt 0))) #[])),
 ((nat_lit 106), (.mk (.type "tuple") nN (.seq #[] (nt 0)) #[])),
 ((nat_lit 108), (.mk (.type "tuple") nN (.seq #[(.str (st "self") (nt 317)), (.str (st "fws") (nt 318)), (.str (st "string") (nt 319)), (.str (st "ch") (nt 320)), (.str (st "i") (nt 321)), (.str (st "prevpart") (nt 322)), (.str (st "part") (nt 323)), (.str (st "remainder") (nt 324))] (nt 0)) #[])),
 ((nat_lit 109), (.mk (.type "tuple") nN (.seq #[] (nt 0)) #[])),
 ((nat_lit 111), (.mk (.type "code") nN (.fields #[(.str (st "_append_chunk") (nt 314)), (.str (st "_ValueFormatter._append_chunk") (nt 315)), (.str (st "/claim/cut.py") (nt 316)), (.int 90 (nt 0)), (.int 3 (nt 0)), (.int 0 (nt 0)), (.int 0 (nt 0)), (.int 3 (nt 0)), (.ref (nt 106)), (.bool true), (.int 181 (nt 0)), (.ref (nt 107)), .none, (.ref (nt 108)), (.ref (nt 109)), (.ref (nt 110)), (.int 325 (nt 0)), (.int 90 (nt 0)), (.str (st "/claim/cut.py") (nt 326))]) #[])),
 ((nat_lit 112), (.mk (.type "function") nN (.func (.mk (st "_append_chunk") (st "_ValueFormatter._append_chunk") fd8_8.1.1 fd8_8.1.2.1 fd8_8.1.2.2 (nt 3) nC .none .none .none (.str (st "cpy313.email.header") (nt 228)) nN (.ref (nt 111)) .none (nt 0))) #[])),
 ((nat_lit 113), (.mk (.type "tuple") nN (.seq #[(.str (st "_continuation_ws") (nt 328)), (.str (st "_continuation_ws_len") (nt 329)), (.str (st "_current_line") (nt 330)), (.str (st "_lines") (nt 331)), (.str (st "_maxlen") (nt 332)), (.str (st "_splitchars") (nt 333))] (nt 0)) #[])),
 ((nat_lit 114), (.mk (.type "dict") nN (.dict #[(de P "__module__" 241 (.str (st "cpy313.email.header") (nt 228))), (de P "__firstlineno__" 245 (.int 50 (nt 244))), (de P "__init__" 256 (.ref (nt 56))), (de P "_str" 264 (.ref (nt 63))), (de P "__str__" 271 (.ref (nt 70))), (de P "newline" 279 (.ref (nt 77))), (de P "add_transition" 286 (.ref (nt 84))), (de P "feed" 296 (.ref (nt 91))), (de P "_maxlengths" 303 (.ref (nt 98))), (de P "_ascii_split" 313 (.ref (nt 105))), (de P "_append_chunk" 327 (.ref (nt 112))), (de P "__static_attributes__" 334 (.ref (nt 113))), (de P "__dict__" 336 (.ref (nt 116))), (de P "__weakref__" 338 (.ref (nt 117))), (de P "__doc__" 339 .none)] (nt 4)) #[])),
 ((nat_lit 115), (.mk (.type "type") nN (.cls (.mk (st "_ValueFormatter") [(.type "object")] [(.ref (nt 115)), (.type "object")] (nt 114) (st "_ValueFormatter") true [] [] false none false)) #[none, none, (some (.str (st "_ValueFormatter") (nt 234))), (some (.str (st "_ValueFormatter") (nt 242))), (some (.builtin "object.__new__")), (some (.bool true))])),
 ((nat_lit 116), (.mk (.type "getset_descriptor") nN (.fields #[(.str (st "__dict__") (nt 335)), (.ref (nt 115)), (.builtin "function.__dict__"), (.builtin "function.__dict__#set")]) #[])),
 ((nat_lit 117), (.mk (.type "getset_descriptor") nN (.fields #[(.str (st "__weakref__") (nt 337)), (.ref (nt 115)), (.builtin "ExceptionGroup.__weakref__"), .none]) #[])),
 ((nat_lit 120), (.mk (.type "tuple") nN (.seq #[(.type "list")] (nt 0)) #[])),
 ((nat_lit 123), (.mk (.type "cell") nN (.cell (some (.ref (nt 199)))) #[])),
 ((nat_lit 128), (.mk (.type "tuple") nN (.seq #[(.int 0 (nt 354))] (nt 0)) #[])),
 ((nat_lit 129), (.mk (.type "tuple") nN (.seq #[(.ref (nt 123))] (nt 0)) #[])),
 ((nat_lit 130), (.mk (.type "tuple") nN (.seq #[(.str (st "__class__") (nt 358))] (nt 0)) #[])),
 ((nat_lit 132), (.mk (.type "tuple") nN (.seq #[(.str (st "self") (nt 359)), (.str (st "initial_size") (nt 360))] (nt 0)) #[])),
 ((nat_lit 133), (.mk (.type "tuple") nN (.seq #[] (nt 0)) #[])),
 ((nat_lit 135), (.mk (.type "code") nN (.fields #[(.str (st "__init__") (nt 355)), (.str (st "_Accumulator.__init__") (nt 356)), (.str (st "/claim/cut.py") (nt 357)), (.int 118 (nt 0)), (.int 2 (nt 0)), (.int 0 (nt 0)), (.int 0 (nt 0)), (.int 3 (nt 0)), (.ref (nt 130)), (.bool true), (.int 181 (nt 0)), (.ref (nt 131)), .none, (.ref (nt 132)), (.ref (nt 133)), (.ref (nt 134)), (.int 361 (nt 0)), (.int 118 (nt 0)), (.str (st "/claim/cut.py") (nt 362))]) #[])),
 ((nat_lit 136), (.mk (.type "function") nN (.func (.mk (st "__init__") (st "_Accumulator.__init__") fd9_0.1.1 fd9_0.1.2.1 fd9_0.1.2.2 (nt 3) ((pN (st "__class__") (nt 123)) :: nC) (.ref (nt 128)) .none .none (.str (st "cpy313.email.header") (nt 228)) nN (.ref (nt 135)) (.ref (nt 129)) (nt 0))) #[])),
 ((nat_lit 137), (.mk (.type "tuple") nN (.seq #[] (nt 0)) #[])),
 ((nat_lit 139), (.mk (.type "tuple") nN (.seq #[(.str (st "self") (nt 367)), (.str (st "fws") (nt 368)), (.str (st "string") (nt 369))] (nt 0)) #[])),
 ((nat_lit 140), (.mk (.type "tuple") nN (.seq #[] (nt 0)) #[])),
 ((nat_lit 142), (.mk (.type "code") nN (.fields #[(.str (st "push") (nt 364)), (.str (st "_Accumulator.push") (nt 365)), (.str (st "/claim/cut.py") (nt 366)), (.int 122 (nt 0)), (.int 3 (nt 0)), (.int 0 (nt 0)), (.int 0 (nt 0)), (.int 3 (nt 0)), (.ref (nt 137)), (.bool true), (.int 181 (nt 0)), (.ref (nt 138)), .none, (.ref (nt 139)), (.ref (nt 140)), (.ref (nt 141)), (.int 370 (nt 0)), (.int 122 (nt 0)), (.str (st "/claim/cut.py") (nt 371))]) #[])),
 ((nat_lit 143), (.mk (.type "function") nN (.func (.mk (st "push") (st "_Accumulator.push") fd9_1.1.1 fd9_1.1.2.1 fd9_1.1.2.2 (nt 3) nC .none .none .none (.str (st "cpy313.email.header") (nt 228)) nN (.ref (nt 142)) .none (nt 0))) #[])),
 ((nat_lit 144), (.mk (.type "tuple") nN (.seq #[(.int 0 (nt 373))] (nt 0)) #[])),
 ((nat_lit 145), (.mk (.type "tuple") nN (.seq #[] (nt 0)) #[])),
 ((nat_lit 147), (.mk (.type "tuple") nN (.seq #[(.str (st "self") (nt 377)), (.str (st "i") (nt 378)), (.str (st "popped") (nt 379))] (nt 0)) #[])),
 ((nat_lit 148), (.mk (.type "tuple") nN (.seq #[] (nt 0)) #[])),
 ((nat_lit 150), (.mk (.type "code") nN (.fields #[(.str (st "pop_from") (nt 374)), (.str (st "_Accumulator.pop_from") (nt 375)), (.str (st "/claim/cut.py") (nt 376)), (.int 125 (nt 0)), (.int 2 (nt 0)), (.int 0 (nt 0)), (.int 0 (nt 0)), (.int 3 (nt 0)), (.ref (nt 145)), (.bool true), (.int 181 (nt 0)), (.ref (nt 146)), .none, (.ref (nt 147)), (.ref (nt 148)), (.ref (nt 149)), (.int 380 (nt 0)), (.int 125 (nt 0)), (.str (st "/claim/cut.py") (nt 381))]) #[])),
 ((nat_lit 151), (.mk (.type "function") nN (.func (.mk (st "pop_from") (st "_Accumulator.pop_from") fd9_2.1.1 fd9_2.1.2.1 fd9_2.1.2.2 (nt 3) nC (.ref (nt 144)) .none .none (.str (st "cpy313.email.header") (nt 228)) nN (.ref (nt 150)) .none (nt 0))) #[])),
 ((nat_lit 152), (.mk (.type "tuple") nN (.seq #[(.ref (nt 123))] (nt 0)) #[])),
 ((nat_lit 153), (.mk (.type "tuple") nN (.seq #[(.str (st "__class__") (nt 386))] (nt 0)) #[])),
 ((nat_lit 155), (.mk (.type "tuple") nN (.seq #[(.str (st "self") (nt 387))] (nt 0)) #[])),
 ((nat_lit 156), (.mk (.type "tuple") nN (.seq #[] (nt 0)) #[])),
 ((nat_lit 158), (.mk (.type "code") nN (.fields #[(.str (st "pop") (nt 383)), (.str (st "_Accumulator.pop") (nt 384)), (.str (st "/claim/cut.py") (nt 385)), (.int 130 (nt 0)), (.int 1 (nt 0)), (.int 0 (nt 0)), (.int 0 (nt 0)), (.int 3 (nt 0)), (.ref (nt 153)), (.bool true), (.int 181 (nt 0)), (.ref (nt 154)), .none, (.ref (nt 155)), (.ref (nt 156)), (.ref (nt 157)), (.int 388 (nt 0)), (.int 130 (nt 0)), (.str (st "/claim/cut.py") (nt 389))]) #[])),
 ((nat_lit 159), (.mk (.type "function") nN (.func (.mk (st "pop") (st "_Accumulator.pop") fd9_3.1.1 fd9_3.1.2.1 fd9_3.1.2.2 (nt 3) ((pN (st "__class__") (nt 123)) :: nC) .none .none .none (.str (st "cpy313.email.header") (nt 228)) nN (.ref (nt 158)) (.ref (nt 152)) (nt 0))) #[])),
 ((nat_lit 160), (.mk (.type "tuple") nN (.seq #[] (nt 0)) #[])),
 ((nat_lit 162), (.mk (.type "tuple") nN (.seq #[(.str (st "self") (nt 394))] (nt 0)) #[])),
 ((nat_lit 163), (.mk (.type "tuple") nN (.seq #[] (nt 0)) #[])),
 ((nat_lit 165), (.mk (.type "code") nN (.fields #[(.str (st "__len__") (nt 391)), (.str (st "_Accumulator.__len__") (nt 392)), (.str (st "/claim/cut.py") (nt 393)), (.int 135 (nt 0)), (.int 1 (nt 0)), (.int 0 (nt 0)), (.int 0 (nt 0)), (.int 3 (nt 0)), (.ref (nt 160)), (.bool true), (.int 181 (nt 0)), (.ref (nt 161)), .none, (.ref (nt 162)), (.ref (nt 163)), (.ref (nt 164)), (.int 395 (nt 0)), (.int 135 (nt 0)), (.str (st "/claim/cut.py") (nt 396))]) #[])),
 ((nat_lit 166), (.mk (.type "function") nN (.func (.mk (st "__len__") (st "_Accumulator.__len__") fd9_4.1.1 fd9_4.1.2.1 fd9_4.1.2.2 (nt 3) nC .none .none .none (.str (st "cpy313.email.header") (nt 228)) nN (.ref (nt 165)) .none (nt 0))) #[])),
 ((nat_lit 167), (.mk (.type "tuple") nN (.seq #[] (nt 0)) #[])),
 ((nat_lit 169), (.mk (.type "tuple") nN (.seq #[(.str (st "self") (nt 401))] (nt 0)) #[])),
 ((nat_lit 170), (.mk (.type "tuple") nN (.seq #[] (nt 0)) #[])),
 ((nat_lit 172), (.mk (.type "code") nN (.fields #[(.str (st "__str__") (nt 398)), (.str (st "_Accumulator.__str__") (nt 399)), (.str (st "/claim/cut.py") (nt 400)), (.int 138 (nt 0)), (.int 1 (nt 0)), (.int 0 (nt 0)), (.int 0 (nt 0)), (.int 3 (nt 0)), (.ref (nt 167)), (.bool true), (.int 181 (nt 0)), (.ref (nt 168)), .none, (.ref (nt 169)), (.ref (nt 170)), (.ref (nt 171)), (.int 402 (nt 0)), (.int 138 (nt 0)), (.str (st "/claim/cut.py") (nt 403))]) #[])),
 ((nat_lit 173), (.mk (.type "function") nN (.func (.mk (st "__str__") (st "_Accumulator.__str__") fd9_5.1.1 fd9_5.1.2.1 fd9_5.1.2.2 (nt 3) nC .none .none .none (.str (st "cpy313.email.header") (nt 228)) nN (.ref (nt 172)) .none (nt 0))) #[])),
 ((nat_lit 174), (.mk (.type "tuple") nN (.seq #[.none] (nt 0)) #[])),
 ((nat_lit 175), (.mk (.type "tuple") nN (.seq #[] (nt 0)) #[])),
 ((nat_lit 177), (.mk (.type "tuple") nN (.seq #[(.str (st "self") (nt 408)), (.str (st "startval") (nt 409))] (nt 0)) #[])),
 ((nat_lit 178), (.mk (.type "tuple") nN (.seq #[] (nt 0)) #[])),
 ((nat_lit 180), (.mk (.type "code") nN (.fields #[(.str (st "reset") (nt 405)), (.str (st "_Accumulator.reset") (nt 406)), (.str (st "/claim/cut.py") (nt 407)), (.int 141 (nt 0)), (.int 2 (nt 0)), (.int 0 (nt 0)), (.int 0 (nt 0)), (.int 3 (nt 0)), (.ref (nt 175)), (.bool true), (.int 181 (nt 0)), (.ref (nt 176)), .none, (.ref (nt 177)), (.ref (nt 178)), (.ref (nt 179)), (.int 410 (nt 0)), (.int 141 (nt 0)), (.str (st "/claim/cut.py") (nt 411))]) #[])),
 ((nat_lit 181), (.mk (.type "function") nN (.func (.mk (st "reset") (st "_Accumulator.reset") fd9_6.1.1 fd9_6.1.2.1 fd9_6.1.2.2 (nt 3) nC (.ref (nt 174)) .none .none (.str (st "cpy313.email.header") (nt 228)) nN (.ref (nt 180)) .none (nt 0))) #[])),
 ((nat_lit 182), (.mk (.type "tuple") nN (.seq #[] (nt 0)) #[])),
 ((nat_lit 184), (.mk (.type "tuple") nN (.seq #[(.str (st "self") (nt 416))] (nt 0)) #[])),
 ((nat_lit 185), (.mk (.type "tuple") nN (.seq #[] (nt 0)) #[])),
 ((nat_lit 187), (.mk (.type "code") nN (.fields #[(.str (st "is_onlyws") (nt 413)), (.str (st "_Accumulator.is_onlyws") (nt 414)), (.str (st "/claim/cut.py") (nt 415)), (.int 147 (nt 0)), (.int 1 (nt 0)), (.int 0 (nt 0)), (.int 0 (nt 0)), (.int 3 (nt 0)), (.ref (nt 182)), (.bool true), (.int 181 (nt 0)), (.ref (nt 183)), .none, (.ref (nt 184)), (.ref (nt 185)), (.ref (nt 186)), (.int 417 (nt 0)), (.int 147 (nt 0)), (.str (st "/claim/cut.py") (nt 418))]) #[])),
 ((nat_lit 188), (.mk (.type "function") nN (.func (.mk (st "is_onlyws") (st "_Accumulator.is_onlyws") fd9_7.1.1 fd9_7.1.2.1 fd9_7.1.2.2 (nt 3) nC .none .none .none (.str (st "cpy313.email.header") (nt 228)) nN (.ref (nt 187)) .none (nt 0))) #[])),
 ((nat_lit 189), (.mk (.type "tuple") nN (.seq #[(.ref (nt 123))] (nt 0)) #[])),
 ((nat_lit 190), (.mk (.type "tuple") nN (.seq #[(.str (st "__class__") (nt 423))] (nt 0)) #[])),
 ((nat_lit 192), (.mk (.type "tuple") nN (.seq #[(.str (st "self") (nt 424))] (nt 0)) #[])),
 ((nat_lit 193), (.mk (.type "tuple") nN (.seq #[] (nt 0)) #[])),
 ((nat_lit 195), (.mk (.type "code") nN (.fields #[(.str (st "part_count") (nt 420)), (.str (st "_Accumulator.part_count") (nt 421)), (.str (st "/claim/cut.py") (nt 422)), (.int 150 (nt 0)), (.int 1 (nt 0)), (.int 0 (nt 0)), (.int 0 (nt 0)), (.int 3 (nt 0)), (.ref (nt 190)), (.bool true), (.int 181 (nt 0)), (.ref (nt 191)), .none, (.ref (nt 192)), (.ref (nt 193)), (.ref (nt 194)), (.int 425 (nt 0)), (.int 150 (nt 0)), (.str (st "/claim/cut.py") (nt 426))]) #[])),
 ((nat_lit 196), (.mk (.type "function") nN (.func (.mk (st "part_count") (st "_Accumulator.part_count") fd9_8.1.1 fd9_8.1.2.1 fd9_8.1.2.2 (nt 3) ((pN (st "__class__") (nt 123)) :: nC) .none .none .none (.str (st "cpy313.email.header") (nt 228)) nN (.ref (nt 195)) (.ref (nt 189)) (nt 0))) #[])),
 ((nat_lit 197), (.mk (.type "tuple") nN (.seq #[(.str (st "_initial_size") (nt 428))] (nt 0)) #[])),
 ((nat_lit 198), (.mk (.type "dict") nN (.dict #[(de P "__module__" 349 (.str (st "cpy313.email.header") (nt 228))), (de P "__firstlineno__" 353 (.int 116 (nt 352))), (de P "__init__" 363 (.ref (nt 136))), (de P "push" 372 (.ref (nt 143))), (de P "pop_from" 382 (.ref (nt 151))), (de P "pop" 390 (.ref (nt 159))), (de P "__len__" 397 (.ref (nt 166))), (de P "__str__" 404 (.ref (nt 173))), (de P "reset" 412 (.ref (nt 181))), (de P "is_onlyws" 419 (.ref (nt 188))), (de P "part_count" 427 (.ref (nt 196))), (de P "__static_attributes__" 429 (.ref (nt 197))), (de P "__dict__" 432 (.ref (nt 200))), (de P "__weakref__" 434 (.ref (nt 201))), (de P "__doc__" 435 .none)] (nt 5)) #[])),
 ((nat_lit 199), (.mk (.type "type") nN (.cls (.mk (st "_Accumulator") [(.type "list")] [(.ref (nt 199)), (.type "list"), (.type "object")] (nt 198) (st "_Accumulator") true [] [] false none false)) #[(some (.ref (nt 120))), none, (some (.str (st "_Accumulator") (nt 342))), (some (.str (st "_Accumulator") (nt 350))), (some (.builtin "list.__new__")), (some (.bool true))])),
 ((nat_lit 200), (.mk (.type "getset_descriptor") nN (.fields #[(.str (st "__dict__") (nt 431)), (.ref (nt 199)), (.builtin "function.__dict__"), (.builtin "function.__dict__#set")]) #[])),
 ((nat_lit 201), (.mk (.type "getset_descriptor") nN (.fields #[(.str (st "__weakref__") (nt 433)), (.ref (nt 199)), (.builtin "ExceptionGroup.__weakref__"), .none]) #[])),
 ((nat_lit 214), (.mk (.type "tuple") nN (.seq #[] (nt 0)) #[])),
 ((nat_lit 216), (.mk (.type "tuple") nN (.seq #[(.str (st "self") (nt 460)), (.str (st "ws") (nt 461)), (.str (st "S") (nt 462)), (.str (st "T") (nt 463)), (.str (st "count") (nt 464)), (.str (st "b") (nt 465)), (.str (st "n") (nt 466)), (.str (st "nt") (nt 467)), (.str (st "ch") (nt 468))] (nt 0)) #[])),
 ((nat_lit 217), (.mk (.type "tuple") nN (.seq #[] (nt 0)) #[])),
 ((nat_lit 219), (.mk (.type "code") nN (.fields #[(.str (st "__init__") (nt 457)), (.str (st "Whitespace.__init__") (nt 458)), (.str (st "/claim/cut.py") (nt 459)), (.int 156 (nt 0)), (.int 2 (nt 0)), (.int 0 (nt 0)), (.int 0 (nt 0)), (.int 3 (nt 0)), (.ref (nt 214)), (.bool true), (.int 181 (nt 0)), (.ref (nt 215)), .none, (.ref (nt 216)), (.ref (nt 217)), (.ref (nt 218)), (.int 469 (nt 0)), (.int 156 (nt 0)), (.str (st "/claim/cut.py") (nt 470))]) #[])),
 ((nat_lit 220), (.mk (.type "function") nN (.func (.mk (st "__init__") (st "Whitespace.__init__") fd11_1.1.1 fd11_1.1.2.1 fd11_1.1.2.2 (nt 3) nC .none .none .none (.str (st "cpy313.tabnanny") (nt 438)) nN (.ref (nt 219)) .none (nt 0))) #[])),
 ((nat_lit 221), (.mk (.type "tuple") nN (.seq #[] (nt 0)) #[])),
 ((nat_lit 223), (.mk (.type "tuple") nN (.seq #[(.str (st "self") (nt 475)), (.str (st "count") (nt 476)), (.str (st "trailing") (nt 477))] (nt 0)) #[])),
 ((nat_lit 224), (.mk (.type "tuple") nN (.seq #[] (nt 0)) #[])),
 ((nat_lit 226), (.mk (.type "code") nN (.fields #[(.str (st "longest_run_of_spaces") (nt 472)), (.str (st "Whitespace.longest_run_of_spaces") (nt 473)), (.str (st "/claim/cut.py") (nt 474)), (.int 179 (nt 0)), (.int 1 (nt 0)), (.int 0 (nt 0)), (.int 0 (nt 0)), (.int 3 (nt 0)), (.ref (nt 221)), (.bool true), (.int 181 (nt 0)), (.ref (nt 222)), .none, (.ref (nt 223)), (.ref (nt 224)), (.ref (nt 225)), (.int 478 (nt 0)), (.int 179 (nt 0)), (.str (st "/claim/cut.py") (nt 479))]) #[])),
 ((nat_lit 227), (.mk (.type "function") nN (.func (.mk (st "longest_run_of_spaces") (st "Whitespace.longest_run_of_spaces") fd11_2.1.1 fd11_2.1.2.1 fd11_2.1.2.2 (nt 3) nC .none .none .none (.str (st "cpy313.tabnanny") (nt 438)) nN (.ref (nt 226)) .none (nt 0))) #[])),
 ((nat_lit 228), (.mk (.type "tuple") nN (.seq #[] (nt 0)) #[])),
 ((nat_lit 230), (.mk (.type "tuple") nN (.seq #[(.str (st "self") (nt 484)), (.str (st "tabsize") (nt 485)), (.str (st "count") (nt 486)), (.str (st "trailing") (nt 487)), (.str (st "il") (nt 488)), (.str (st "i") (nt 489))] (nt 0)) #[])),
 ((nat_lit 231), (.mk (.type "tuple") nN (.seq #[] (nt 0)) #[])),
 ((nat_lit 233), (.mk (.type "code") nN (.fields #[(.str (st "indent_level") (nt 481)), (.str (st "Whitespace.indent_level") (nt 482)), (.str (st "/claim/cut.py") (nt 483)), (.int 183 (nt 0)), (.int 2 (nt 0)), (.int 0 (nt 0)), (.int 0 (nt 0)), (.int 3 (nt 0)), (.ref (nt 228)), (.bool true), (.int 181 (nt 0)), (.ref (nt 229)), .none, (.ref (nt 230)), (.ref (nt 231)), (.ref (nt 232)), (.int 490 (nt 0)), (.int 183 (nt 0)), (.str (st "/claim/cut.py") (nt 491))]) #[])),
 ((nat_lit 234), (.mk (.type "function") nN (.func (.mk (st "indent_level") (st "Whitespace.indent_level") fd11_3.1.1 fd11_3.1.2.1 fd11_3.1.2.2 (nt 3) nC .none .none .none (.str (st "cpy313.tabnanny") (nt 438)) nN (.ref (nt 233)) .none (nt 0))) #[])),
 ((nat_lit 235), (.mk (.type "tuple") nN (.seq #[] (nt 0)) #[])),
 ((nat_lit 237), (.mk (.type "tuple") nN (.seq #[(.str (st "self") (nt 496)), (.str (st "other") (nt 497))] (nt 0)) #[])),
 ((nat_lit 238), (.mk (.type "tuple") nN (.seq #[] (nt 0)) #[])),
 ((nat_lit 240), (.mk (.type "code") nN (.fields #[(.str (st "equal") (nt 493)), (.str (st "Whitespace.equal") (nt 494)), (.str (st "/claim/cut.py") (nt 495)), (.int 190 (nt 0)), (.int 2 (nt 0)), (.int 0 (nt 0)), (.int 0 (nt 0)), (.int 3 (nt 0)), (.ref (nt 235)), (.bool true), (.int 181 (nt 0)), (.ref (nt 236)), .none, (.ref (nt 237)), (.ref (nt 238)), (.ref (nt 239)), (.int 498 (nt 0)), (.int 190 (nt 0)), (.str (st "/claim/cut.py") (nt 499))]) #[])),
 ((nat_lit 241), (.mk (.type "function") nN (.func (.mk (st "equal") (st "Whitespace.equal") fd11_4.1.1 fd11_4.1.2.1 fd11_4.1.2.2 (nt 3) nC .none .none .none (.str (st "cpy313.tabnanny") (nt 438)) nN (.ref (nt 240)) .none (nt 0))) #[])),
 ((nat_lit 242), (.mk (.type "tuple") nN (.seq #[] (nt 0)) #[])),
 ((nat_lit 244), (.mk (.type "tuple") nN (.seq #[(.str (st "self") (nt 504)), (.str (st "other") (nt 505)), (.str (st "n") (nt 506)), (.str (st "a") (nt 507)), (.str (st "ts") (nt 508))] (nt 0)) #[])),
 ((nat_lit 245), (.mk (.type "tuple") nN (.seq #[] (nt 0)) #[])),
 ((nat_lit 247), (.mk (.type "code") nN (.fields #[(.str (st "not_equal_witness") (nt 501)), (.str (st "Whitespace.not_equal_witness") (nt 502)), (.str (st "/claim/cut.py") (nt 503)), (.int 193 (nt 0)), (.int 2 (nt 0)), (.int 0 (nt 0)), (.int 0 (nt 0)), (.int 3 (nt 0)), (.ref (nt 242)), (.bool true), (.int 181 (nt 0)), (.ref (nt 243)), .none, (.ref (nt 244)), (.ref (nt 245)), (.ref (nt 246)), (.int 509 (nt 0)), (.int 193 (nt 0)), (.str (st "/claim/cut.py") (nt 510))]) #[])),
 ((nat_lit 248), (.mk (.type "function") nN (.func (.mk (st "not_equal_witness") (st "Whitespace.not_equal_witness") fd11_5.1.1 fd11_5.1.2.1 fd11_5.1.2.2 (nt 3) nC .none .none .none (.str (st "cpy313.tabnanny") (nt 438)) nN (.ref (nt 247)) .none (nt 0))) #[])),
 ((nat_lit 249), (.mk (.type "tuple") nN (.seq #[] (nt 0)) #[])),
 ((nat_lit 251), (.mk (.type "tuple") nN (.seq #[(.str (st "self") (nt 515)), (.str (st "other") (nt 516))] (nt 0)) #[])),
 ((nat_lit 252), (.mk (.type "tuple") nN (.seq #[] (nt 0)) #[])),
 ((nat_lit 254), (.mk (.type "code") nN (.fields #[(.str (st "less") (nt 512)), (.str (st "Whitespace.less") (nt 513)), (.str (st "/claim/cut.py") (nt 514)), (.int 201 (nt 0)), (.int 2 (nt 0)), (.int 0 (nt 0)), (.int 0 (nt 0)), (.int 3 (nt 0)), (.ref (nt 249)), (.bool true), (.int 181 (nt 0)), (.ref (nt 250)), .none, (.ref (nt 251)), (.ref (nt 252)), (.ref (nt 253)), (.int 517 (nt 0)), (.int 201 (nt 0)), (.str (st "/claim/cut.py") (nt 518))]) #[])),
 ((nat_lit 255), (.mk (.type "function") nN (.func (.mk (st "less") (st "Whitespace.less") fd11_6.1.1 fd11_6.1.2.1 fd11_6.1.2.2 (nt 3) nC .none .none .none (.str (st "cpy313.tabnanny") (nt 438)) nN (.ref (nt 254)) .none (nt 0))) #[])),
 ((nat_lit 256), (.mk (.type "tuple") nN (.seq #[] (nt 0)) #[])),
 ((nat_lit 258), (.mk (.type "tuple") nN (.seq #[(.str (st "self") (nt 523)), (.str (st "other") (nt 524))] (nt 0)) #[])),
 ((nat_lit 259), (.mk (.type "tuple") nN (.seq #[] (nt 0)) #[])),
 ((nat_lit 261), (.mk (.type "code") nN (.fields #[(.str (st "not_less_witness") (nt 520)), (.str (st "Whitespace.not_less_witness") (nt 521)), (.str (st "/claim/cut.py") (nt 522)), (.int 204 (nt 0)), (.int 2 (nt 0)), (.int 0 (nt 0)), (.int 0 (nt 0)), (.int 3 (nt 0)), (.ref (nt 256)), (.bool true), (.int 181 (nt 0)), (.ref (nt 257)), .none, (.ref (nt 258)), (.ref (nt 259)), (.ref (nt 260)), (.int 525 (nt 0)), (.int 204 (nt 0)), (.str (st "/claim/cut.py") (nt 526))]) #[])),
 ((nat_lit 262), (.mk (.type "function") nN (.func (.mk (st "not_less_witness") (st "Whitespace.not_less_witness") fd11_7.1.1 fd11_7.1.2.1 fd11_7.1.2.2 (nt 3) nC .none .none .none (.str (st "cpy313.tabnanny") (nt 438)) nN (.ref (nt 261)) .none (nt 0))) #[])),
 ((nat_lit 263), (.mk (.type "tuple") nN (.seq #[(.str (st "is_simple") (nt 528)), (.str (st "n") (nt 529)), (.str (st "norm") (nt 530)), (.str (st "nt") (nt 531)), (.str (st "raw") (nt 532))] (nt 0)) #[])),
 ((nat_lit 264), (.mk (.type "dict") nN (.dict #[(de P "__module__" 447 (.str (st "cpy313.tabnanny") (nt 438))), (de P "__firstlineno__" 451 (.int 153 (nt 450))), (de P "S" 455 (.str (st " ") (nt 453))), (de P "T" 456 (.str (st "\t") (nt 454))), (de P "__init__" 471 (.ref (nt 220))), (de P "longest_run_of_spaces" 480 (.ref (nt 227))), (de P "indent_level" 492 (.ref (nt 234))), (de P "equal" 500 (.ref (nt 241))), (de P "not_equal_witness" 511 (.ref (nt 248))), (de P "less" 519 (.ref (nt 255))), (de P "not_less_witness" 527 (.ref (nt 262))), (de P "__static_attributes__" 533 (.ref (nt 263))), (de P "__dict__" 535 (.ref (nt 266))), (de P "__weakref__" 537 (.ref (nt 267))), (de P "__doc__" 538 .none)] (nt 4)) #[])),
 ((nat_lit 265), (.mk (.type "type") nN (.cls (.mk (st "Whitespace") [(.type "object")] [(.ref (nt 265)), (.type "object")] (nt 264) (st "Whitespace") true [] [] false none false)) #[none, none, (some (.str (st "Whitespace") (nt 440))), (some (.str (st "Whitespace") (nt 448))), (some (.builtin "object.__new__")), (some (.bool true))])),
 ((nat_lit 266), (.mk (.type "getset_descriptor") nN (.fields #[(.str (st "__dict__") (nt 534)), (.ref (nt 265)), (.builtin "function.__dict__"), (.builtin "function.__dict__#set")]) #[])),
 ((nat_lit 267), (.mk (.type "getset_descriptor") nN (.fields #[(.str (st "__weakref__") (nt 536)), (.ref (nt 265)), (.builtin "ExceptionGroup.__weakref__"), .none]) #[])),
 ((nat_lit 270), (.mk (.type "tuple") nN (.seq #[] (nt 0)) #[])),
 ((nat_lit 272), (.mk (.type "tuple") nN (.seq #[(.str (st "start") (nt 546)), (.str (st "size") (nt 547)), (.str (st "folder") (nt 548)), (.str (st "laid") (nt 549)), (.str (st "length") (nt 550))] (nt 0)) #[])),
 ((nat_lit 273), (.mk (.type "tuple") nN (.seq #[] (nt 0)) #[])),
 ((nat_lit 275), (.mk (.type "code") nN (.fields #[(.str (st "_law_first") (nt 543)), (.str (st "_law_first") (nt 544)), (.str (st "/claim/cut.py") (nt 545)), (.int 207 (nt 0)), (.int 2 (nt 0)), (.int 0 (nt 0)), (.int 0 (nt 0)), (.int 3 (nt 0)), (.ref (nt 270)), (.bool true), (.int 181 (nt 0)), (.ref (nt 271)), .none, (.ref (nt 272)), (.ref (nt 273)), (.ref (nt 274)), (.int 551 (nt 0)), (.int 207 (nt 0)), (.str (st "/claim/cut.py") (nt 552))]) #[])),
 ((nat_lit 276), (.mk (.type "function") nN (.func (.mk (st "_law_first") (st "_law_first") fd13.1.1 fd13.1.2.1 fd13.1.2.2 (nt 3) nC .none .none .none (.str (st "law_tc0068_02") (nt 541)) nN (.ref (nt 275)) .none (nt 0))) #[])),
 ((nat_lit 277), (.mk (.type "tuple") nN (.seq #[] (nt 0)) #[])),
 ((nat_lit 279), (.mk (.type "tuple") nN (.seq #[(.str (st "size") (nt 557)), (.str (st "marks") (nt 558)), (.str (st "start") (nt 559)), (.str (st "row") (nt 560)), (.str (st "pieces") (nt 561))] (nt 0)) #[])),
 ((nat_lit 280), (.mk (.type "tuple") nN (.seq #[] (nt 0)) #[])),
 ((nat_lit 282), (.mk (.type "code") nN (.fields #[(.str (st "_law_marks") (nt 554)), (.str (st "_law_marks") (nt 555)), (.str (st "/claim/cut.py") (nt 556)), (.int 216 (nt 0)), (.int 1 (nt 0)), (.int 0 (nt 0)), (.int 0 (nt 0)), (.int 3 (nt 0)), (.ref (nt 277)), (.bool true), (.int 181 (nt 0)), (.ref (nt 278)), .none, (.ref (nt 279)), (.ref (nt 280)), (.ref (nt 281)), (.int 562 (nt 0)), (.int 216 (nt 0)), (.str (st "/claim/cut.py") (nt 563))]) #[])),
 ((nat_lit 283), (.mk (.type "function") nN (.func (.mk (st "_law_marks") (st "_law_marks") fd14.1.1 fd14.1.2.1 fd14.1.2.2 (nt 3) nC .none .none .none (.str (st "law_tc0068_02") (nt 541)) nN (.ref (nt 282)) .none (nt 0))) #[])),
 ((nat_lit 284), (.mk (.type "tuple") nN (.seq #[] (nt 0)) #[])),
 ((nat_lit 287), (.mk (.type "code") nN (.fields #[(.str (st "_law_pieces") (nt 565)), (.str (st "_law_pieces") (nt 566)), (.str (st "/claim/cut.py") (nt 567)), (.int 224 (nt 0)), (.int 2 (nt 0)), (.int 0 (nt 0)), (.int 0 (nt 0)), (.int 3 (nt 0)), (.ref (nt 284)), (.bool true), (.int 181 (nt 0)), (.ref (nt 285)), .none, .none, .none, (.ref (nt 286)), (.int 568 (nt 0)), (.int 224 (nt 0)), (.str (st "/claim/cut.py") (nt 569))]) #[])),
 ((nat_lit 288), (.mk (.type "function") nN (.func (.mk (st "_law_pieces") (st "_law_pieces") fd15.1.1 fd15.1.2.1 fd15.1.2.2 (nt 3) nC .none .none .none (.str (st "law_tc0068_02") (nt 541)) nN (.ref (nt 287)) .none (nt 0))) #[])),
 ((nat_lit 289), (.mk (.type "tuple") nN (.seq #[] (nt 0)) #[])),
 ((nat_lit 292), (.mk (.type "code") nN (.fields #[(.str (st "_law_witnesses") (nt 571)), (.str (st "_law_witnesses") (nt 572)), (.str (st "/claim/cut.py") (nt 573)), (.int 227 (nt 0)), (.int 2 (nt 0)), (.int 0 (nt 0)), (.int 0 (nt 0)), (.int 3 (nt 0)), (.ref (nt 289)), (.bool true), (.int 181 (nt 0)), (.ref (nt 290)), .none, .none, .none, (.ref (nt 291)), (.int 574 (nt 0)), (.int 227 (nt 0)), (.str (st "/claim/cut.py") (nt 575))]) #[])),
 ((nat_lit 293), (.mk (.type "function") nN (.func (.mk (st "_law_witnesses") (st "_law_witnesses") fd16.1.1 fd16.1.2.1 fd16.1.2.2 (nt 3) nC .none .none .none (.str (st "law_tc0068_02") (nt 541)) nN (.ref (nt 292)) .none (nt 0))) #[])),
 ((nat_lit 294), (.mk (.type "tuple") nN (.seq #[] (nt 0)) #[])),
 ((nat_lit 297), (.mk (.type "code") nN (.fields #[(.str (st "law") (nt 577)), (.str (st "law") (nt 578)), (.str (st "/claim/cut.py") (nt 579)), (.int 231 (nt 0)), (.int 1 (nt 0)), (.int 0 (nt 0)), (.int 0 (nt 0)), (.int 3 (nt 0)), (.ref (nt 294)), (.bool true), (.int 181 (nt 0)), (.ref (nt 295)), .none, .none, .none, (.ref (nt 296)), (.int 580 (nt 0)), (.int 231 (nt 0)), (.str (st "/claim/cut.py") (nt 581))]) #[])),
 ((nat_lit 298), (.mk (.type "function") nN (.func (.mk (st "law") (st "law") fd17.1.1 fd17.1.2.1 fd17.1.2.2 (nt 3) nC .none .none .none (.str (st "law_tc0068_02") (nt 541)) nN (.ref (nt 297)) .none (nt 0))) #[]))] : List (Nat × Obj)) = K → Frag) ((nat_lit 2, ?o2) :: (nat_lit 3, ?o3) :: (nat_lit 15, ?o15) :: (nat_lit 17, ?o17) :: (nat_lit 18, ?o18) :: (nat_lit 20, ?o20) :: (nat_lit 21, ?o21) :: (nat_lit 22, ?o22) :: (nat_lit 24, ?o24) :: (nat_lit 25, ?o25) :: (nat_lit 27, ?o27) :: (nat_lit 28, ?o28) :: (nat_lit 29, ?o29) :: (nat_lit 31, ?o31) :: (nat_lit 32, ?o32) :: (nat_lit 34, ?o34) :: (nat_lit 35, ?o35) :: (nat_lit 36, ?o36) :: (nat_lit 38, ?o38) :: (nat_lit 39, ?o39) :: (nat_lit 41, ?o41) :: (nat_lit 42, ?o42) :: (nat_lit 50, ?o50) :: (nat_lit 52, ?o52) :: (nat_lit 53, ?o53) :: (nat_lit 55, ?o55) :: (nat_lit 56, ?o56) :: (nat_lit 57, ?o57) :: (nat_lit 59, ?o59) :: (nat_lit 60, ?o60) :: (nat_lit 62, ?o62) :: (nat_lit 63, ?o63) :: (nat_lit 64, ?o64) :: (nat_lit 66, ?o66) :: (nat_lit 67, ?o67) :: (nat_lit 69, ?o69) :: (nat_lit 70, ?o70) :: (nat_lit 71, ?o71) :: (nat_lit 73, ?o73) :: (nat_lit 74, ?o74) :: (nat_lit 76, ?o76) :: (nat_lit 77, ?o77) :: (nat_lit 78, ?o78) :: (nat_lit 80, ?o80) :: (nat_lit 81, ?o81) :: (nat_lit 83, ?o83) :: (nat_lit 84, ?o84) :: (nat_lit 85, ?o85) :: (nat_lit 87, ?o87) :: (nat_lit 88, ?o88) :: (nat_lit 90, ?o90) :: (nat_lit 91, ?o91) :: (nat_lit 92, ?o92) :: (nat_lit 94, ?o94) :: (nat_lit 95, ?o95) :: (nat_lit 97, ?o97) :: (nat_lit 98, ?o98) :: (nat_lit 99, ?o99) :: (nat_lit 101, ?o101) :: (nat_lit 102, ?o102) :: (nat_lit 104, ?o104) :: (nat_lit 105, ?o105) :: (nat_lit 106, ?o106) :: (nat_lit 108, ?o108) :: (nat_lit 109, ?o109) :: (nat_lit 111, ?o111) :: (nat_lit 112, ?o112) :: (nat_lit 113, ?o113) :: (nat_lit 114, ?o114) :: (nat_lit 115, ?o115) :: (nat_lit 116, ?o116) :: (nat_lit 117, ?o117) :: (nat_lit 120, ?o120) :: (nat_lit 123, ?o123) :: (nat_lit 128, ?o128) :: (nat_lit 129, ?o129) :: (nat_lit 130, ?o130) :: (nat_lit 132, ?o132) :: (nat_lit 133, ?o133) :: (nat_lit 135, ?o135) :: (nat_lit 136, ?o136) :: (nat_lit 137, ?o137) :: (nat_lit 139, ?o139) :: (nat_lit 140, ?o140) :: (nat_lit 142, ?o142) :: (nat_lit 143, ?o143) :: (nat_lit 144, ?o144) :: (nat_lit 145, ?o145) :: (nat_lit 147, ?o147) :: (nat_lit 148, ?o148) :: (nat_lit 150, ?o150) :: (nat_lit 151, ?o151) :: (nat_lit 152, ?o152) :: (nat_lit 153, ?o153) :: (nat_lit 155, ?o155) :: (nat_lit 156, ?o156) :: (nat_lit 158, ?o158) :: (nat_lit 159, ?o159) :: (nat_lit 160, ?o160) :: (nat_lit 162, ?o162) :: (nat_lit 163, ?o163) :: (nat_lit 165, ?o165) :: (nat_lit 166, ?o166) :: (nat_lit 167, ?o167) :: (nat_lit 169, ?o169) :: (nat_lit 170, ?o170) :: (nat_lit 172, ?o172) :: (nat_lit 173, ?o173) :: (nat_lit 174, ?o174) :: (nat_lit 175, ?o175) :: (nat_lit 177, ?o177) :: (nat_lit 178, ?o178) :: (nat_lit 180, ?o180) :: (nat_lit 181, ?o181) :: (nat_lit 182, ?o182) :: (nat_lit 184, ?o184) :: (nat_lit 185, ?o185) :: (nat_lit 187, ?o187) :: (nat_lit 188, ?o188) :: (nat_lit 189, ?o189) :: (nat_lit 190, ?o190) :: (nat_lit 192, ?o192) :: (nat_lit 193, ?o193) :: (nat_lit 195, ?o195) :: (nat_lit 196, ?o196) :: (nat_lit 197, ?o197) :: (nat_lit 198, ?o198) :: (nat_lit 199, ?o199) :: (nat_lit 200, ?o200) :: (nat_lit 201, ?o201) :: (nat_lit 214, ?o214) :: (nat_lit 216, ?o216) :: (nat_lit 217, ?o217) :: (nat_lit 219, ?o219) :: (nat_lit 220, ?o220) :: (nat_lit 221, ?o221) :: (nat_lit 223, ?o223) :: (nat_lit 224, ?o224) :: (nat_lit 226, ?o226) :: (nat_lit 227, ?o227) :: (nat_lit 228, ?o228) :: (nat_lit 230, ?o230) :: (nat_lit 231, ?o231) :: (nat_lit 233, ?o233) :: (nat_lit 234, ?o234) :: (nat_lit 235, ?o235) :: (nat_lit 237, ?o237) :: (nat_lit 238, ?o238) :: (nat_lit 240, ?o240) :: (nat_lit 241, ?o241) :: (nat_lit 242, ?o242) :: (nat_lit 244, ?o244) :: (nat_lit 245, ?o245) :: (nat_lit 247, ?o247) :: (nat_lit 248, ?o248) :: (nat_lit 249, ?o249) :: (nat_lit 251, ?o251) :: (nat_lit 252, ?o252) :: (nat_lit 254, ?o254) :: (nat_lit 255, ?o255) :: (nat_lit 256, ?o256) :: (nat_lit 258, ?o258) :: (nat_lit 259, ?o259) :: (nat_lit 261, ?o261) :: (nat_lit 262, ?o262) :: (nat_lit 263, ?o263) :: (nat_lit 264, ?o264) :: (nat_lit 265, ?o265) :: (nat_lit 266, ?o266) :: (nat_lit 267, ?o267) :: (nat_lit 270, ?o270) :: (nat_lit 272, ?o272) :: (nat_lit 273, ?o273) :: (nat_lit 275, ?o275) :: (nat_lit 276, ?o276) :: (nat_lit 277, ?o277) :: (nat_lit 279, ?o279) :: (nat_lit 280, ?o280) :: (nat_lit 282, ?o282) :: (nat_lit 283, ?o283) :: (nat_lit 284, ?o284) :: (nat_lit 287, ?o287) :: (nat_lit 288, ?o288) :: (nat_lit 289, ?o289) :: (nat_lit 292, ?o292) :: (nat_lit 293, ?o293) :: (nat_lit 294, ?o294) :: (nat_lit 297, ?o297) :: (nat_lit 298, ?o298) :: [] : List (Nat × Obj)) ?h
  case f => exact fun K _ => K
  case h =>
    dsimp only [st, de, nt, nN, sN, nC, pN, fd0, fd2, fd3, fd4, fd8_0, fd8_1, fd8_2, fd8_3, fd8_4, fd8_5, fd8_6, fd8_7, fd8_8, fd9_0, fd9_1, fd9_2, fd9_3, fd9_4, fd9_5, fd9_6, fd9_7, fd9_8, fd11_1, fd11_2, fd11_3, fd11_4, fd11_5, fd11_6, fd11_7, fd13, fd14, fd15, fd16, fd17]
    exact rfl
end Mine
end
section
open PySem PySem.W PyProof.Rows
set_option Elab.async false
set_option maxRecDepth 100000
set_option maxHeartbeats 8000000
namespace Mine
noncomputable def q02 : Program := PySem.W.view PySem.Challenge.pw_tc0068_02 [0,2,3,4,6,7,8,9,11,13,14,15,16,17]
noncomputable def loose02 : List PySem.Str := [PySem.Str.ofString "_Accumulator", PySem.Str.ofString "Whitespace"]
noncomputable def tab0 : Obj := { cls := .none, data := .fields #[] }
noncomputable def heapX (P : Params) : Frag := (161, tab0) :: (168, tab0) :: heap39 P
noncomputable def asX : List Addr := [161, 168, 2, 3, 15, 17, 18, 20, 21, 22, 24, 25, 27, 28, 29, 31, 32, 34, 35, 36, 38, 39, 41, 42, 50, 52, 53, 55, 56, 57, 59, 60, 62, 63, 64, 66, 67, 69, 70, 71, 73, 74, 76, 77, 78, 80, 81, 83, 84, 85, 87, 88, 90, 91, 92, 94, 95, 97, 98, 99, 101, 102, 104, 105, 106, 108, 109, 111, 112, 113, 114, 115, 116, 117, 120, 123, 128, 129, 130, 132, 133, 135, 136, 137, 139, 140, 142, 143, 144, 145, 147, 148, 150, 151, 152, 153, 155, 156, 158, 159, 160, 162, 163, 165, 166, 167, 169, 170, 172, 173, 174, 175, 177, 178, 180, 181, 182, 184, 185, 187, 188, 189, 190, 192, 193, 195, 196, 197, 198, 199, 200, 201, 214, 216, 217, 219, 220, 221, 223, 224, 226, 227, 228, 230, 231, 233, 234, 235, 237, 238, 240, 241, 242, 244, 245, 247, 248, 249, 251, 252, 254, 255, 256, 258, 259, 261, 262, 263, 264, 265, 266, 267, 270, 272, 273, 275, 276, 277, 279, 280, 282, 283, 284, 287, 288, 289, 292, 293, 294, 297, 298]
theorem leftO_run {p q : Program} {loose : List PySem.Str} {Xt : Shared → Bool} {α : Type} {Yf : Shared → α} {Ya : World → α} {N : Nat} {g0 : Bool} {H₀ : Params → Heap} {gs₀ : Array GenState} {d₀ : Drawn} {k₀ : Nat} {m₀ : Nat} {ann : Option Value} {M : Nat}
    (open_ : ∀ w : World, (fencedOpening treeTable p w N).map (fun s => (s.heap, s.gens, s.drawn, s.toks)) = some (H₀ w.params, gs₀, d₀, k₀))
    (size : ∀ w : World, ((H₀ w.params).isNs mainGlobals && gs₀.size == 0, (H₀ w.params).objs.size, (H₀ w.params).nsMap mainGlobals "__annotations__") = (true, m₀, ann))
    (run : ∀ (w : World) (os : OsState), (topRun treeTable p w m₀ ann M ⟨H₀ w.params, gs₀, d₀, k₀, os⟩ (topStub p)).map (fun s => ((staticsOk (importedModules p.main.body) (H₀ w.params) s.heap && namesBound p s.heap && gensDone s && laidKept (H₀ w.params) s.heap), openSeen q loose (importedModules p.main.body) Xt g0 s, Yf s)) = some (true, openGood q loose, Ya w))
    (le : Nat.ble M N = true) : LeftO p q loose Xt Yf Ya N g0 := fun w => by
  obtain ⟨⟨h, gs, d, k, os⟩, e, e'⟩ := Option.map_eq_some_iff.mp (open_ w)
  obtain ⟨rfl, rfl, rfl, rfl⟩ : h = H₀ w.params ∧ gs = gs₀ ∧ d = d₀ ∧ k = k₀ := by simpa using e'
  obtain ⟨z1, z2, z3⟩ : _ ∧ _ ∧ _ := by simpa only [Prod.mk.injEq] using size w
  obtain ⟨s, r0, r1⟩ := Option.map_eq_some_iff.mp (run w os)
  obtain ⟨l1, l2, l3⟩ : _ ∧ _ ∧ _ := by simpa only [Prod.mk.injEq] using r1
  have r := topRun_mono (N - M) _ _ _ _ r0
  rw [show M + (N - M) = N by have := Nat.le_of_ble_eq_true le; omega] at r
  have t : topFrom treeTable p w N ⟨H₀ w.params, gs, d, k, os⟩ = some s := by
    unfold topFrom
    dsimp only
    rw [z1, z2, z3, r]
    show (match staticsOk (importedModules p.main.body) (H₀ w.params) s.heap && namesBound p s.heap && gensDone s && laidKept (H₀ w.params) s.heap with | true => _ | false => _) = _
    rw [l1]
  unfold openEnds
  rw [e]
  show (topFrom treeTable p w N _).map _ = _
  rw [t]
  exact congrArg some (Prod.ext l2 l3)
theorem run02 : ∀ (w : World), (fun os => (topRun treeTable PySem.Challenge.pw_tc0068_02 w 11 (some (Value.ref 6)) 1836 ⟨boot_heap w.params, Array.mk [], boot_drawn, boot_toks, os⟩ (topStub PySem.Challenge.pw_tc0068_02)).map (fun s => ((staticsOk (importedModules PySem.Challenge.pw_tc0068_02.main.body) (boot_heap w.params) s.heap && namesBound PySem.Challenge.pw_tc0068_02 s.heap && gensDone s && laidKept (boot_heap w.params) s.heap), openSeen q02 loose02 (importedModules PySem.Challenge.pw_tc0068_02.main.body) (fun s => xlAt q02 [] s && recOk (RowW.records (OpenRow.toRowW (OpenLaw.row PySem.Challenge.rw_tc0068_02))) s) true s, asX.map s.heap.get?))) = fun _ => some (true, openGood q02 loose02, (heapX w.params).map fun p => some p.2) := by
  refine byRow2 "special-get-raises" ?_ ?_ <;>
    (intro w
     rewrite [PySem.W.Fast.te14082659384304107361, PySem.W.Fast.te14364793385576792824, PySem.W.Fast.te4187177175401517315, PySem.W.Fast.te5923862056798008813, PySem.W.R.mapR_eq]
     kernel_rfl)
theorem size02 : ∀ w : World, ((boot_heap w.params).isNs mainGlobals && (Array.mk [] : Array GenState).size == 0, (boot_heap w.params).objs.size, (boot_heap w.params).nsMap mainGlobals "__annotations__") = (true, 11, some (Value.ref 6)) := by
  intro w; kernel_rfl
theorem boot02 : ∀ w : World, (fencedOpening treeTable PySem.Challenge.pw_tc0068_02 w 3756).map (fun s => (s.heap, s.gens, s.drawn, s.toks)) = some (boot_heap w.params, Array.mk [], boot_drawn, boot_toks) :=
  boot_open (by kernel_rfl) (by decide) (fun s => by kernel_rfl)
theorem left02 : LeftO PySem.Challenge.pw_tc0068_02 q02 loose02 (fun s => xlAt q02 [] s && recOk (RowW.records (OpenRow.toRowW (OpenLaw.row PySem.Challenge.rw_tc0068_02))) s) (fun s => asX.map s.heap.get?) (fun w => (heapX w.params).map fun p => some p.2) 3756 true :=
  leftO_run boot02 size02 (fun w os => congrFun (run02 w) os) (by decide)
theorem hk02 : ∀ P, asX = (heapX P).map (·.1) := fun P => by kernel_rfl
theorem ok02 : OpenLaw.wellSaid PySem.Challenge.rw_tc0068_02 = true := by kernel_rfl
theorem imps02 : importsNone q02 = true := by
  rewrite [PySem.W.Fast.te2458874890965802552]
  kernel_rfl
theorem names02 : namesOk q02 (looseW q02 loose02) (namesW q02 loose02) = true := by
  rewrite [PySem.W.Fast.te17448422675489707002]
  kernel_rfl
theorem chains02 : (chainsOk q02 && opensWell PySem.Challenge.pw_tc0068_02 && (frees (OpenRow.toRowW (OpenLaw.row PySem.Challenge.rw_tc0068_02)) && (RowW.within (OpenRow.toRowW (OpenLaw.row PySem.Challenge.rw_tc0068_02))).isEmpty)) = true := by
  have a : chainsOk q02 = true := by kernel_rfl
  have b : opensWell PySem.Challenge.pw_tc0068_02 = true := by kernel_rfl
  have c : (frees (OpenRow.toRowW (OpenLaw.row PySem.Challenge.rw_tc0068_02)) && (RowW.within (OpenRow.toRowW (OpenLaw.row PySem.Challenge.rw_tc0068_02))).isEmpty) = true := by kernel_rfl
  rw [a, b, c]; rfl
theorem whole02 : PySem.Challenge.pw_tc0068_02.tablesWhole = true := by kernel_rfl
end Mine
end
section
open PySem PySem.W PyProof.Rows
namespace Mine
theorem rm0 {a c R : Nat} (h : a + c < R) : a < R := Nat.lt_of_le_of_lt (Nat.le_add_right a c) h
theorem rm1 {a b c R : Nat} (h : a + c < R) (k : b ≤ c) : a + b < R := Nat.lt_of_le_of_lt (Nat.add_le_add_left k a) h
theorem rm2 {a b d c R : Nat} (h : a + c < R) (k : b + d ≤ c) : a + b + d < R := by omega
theorem rm3 {a b d e c R : Nat} (h : a + c < R) (k : b + d + e ≤ c) : a + b + d + e < R := by omega
theorem rm4 {a b d e f c R : Nat} (h : a + c < R) (k : b + d + e + f ≤ c) : a + b + d + e + f < R := by omega
theorem ltT {a c d : Nat} (h : a < c) (k : c ≤ d) : a < d := Nat.lt_of_lt_of_le h k
theorem leT {a c d : Nat} (h : a ≤ c) (k : c ≤ d) : a ≤ d := Nat.le_trans h k
theorem ltT' {a c d : Nat} (h : a ≤ c) (k : c < d) : a < d := Nat.lt_of_le_of_lt h k
theorem opq {G : Prop} (k : ∀ P : Prop, (G → P) → P) : G := k G id
theorem exo1.{u0} {A0 : Sort u0} {p : A0 → Prop} {G : Prop} (h : ∃ x0 : A0,  p x0) (k : ∀ (x0 : A0), p x0 → G) : G := by
  obtain ⟨x0, h⟩ := h
  exact k x0 h
theorem exo2.{u0,u1} {A0 : Sort u0} {A1 : Sort u1} {p : A0 → A1 → Prop} {G : Prop} (h : ∃ x0 : A0, ∃ x1 : A1,  p x0 x1) (k : ∀ (x0 : A0) (x1 : A1), p x0 x1 → G) : G := by
  obtain ⟨x0, x1, h⟩ := h
  exact k x0 x1 h
theorem exo3.{u0,u1,u2} {A0 : Sort u0} {A1 : Sort u1} {A2 : Sort u2} {p : A0 → A1 → A2 → Prop} {G : Prop} (h : ∃ x0 : A0, ∃ x1 : A1, ∃ x2 : A2,  p x0 x1 x2) (k : ∀ (x0 : A0) (x1 : A1) (x2 : A2), p x0 x1 x2 → G) : G := by
  obtain ⟨x0, x1, x2, h⟩ := h
  exact k x0 x1 x2 h
theorem exo4.{u0,u1,u2,u3} {A0 : Sort u0} {A1 : Sort u1} {A2 : Sort u2} {A3 : Sort u3} {p : A0 → A1 → A2 → A3 → Prop} {G : Prop} (h : ∃ x0 : A0, ∃ x1 : A1, ∃ x2 : A2, ∃ x3 : A3,  p x0 x1 x2 x3) (k : ∀ (x0 : A0) (x1 : A1) (x2 : A2) (x3 : A3), p x0 x1 x2 x3 → G) : G := by
  obtain ⟨x0, x1, x2, x3, h⟩ := h
  exact k x0 x1 x2 x3 h
theorem exo5.{u0,u1,u2,u3,u4} {A0 : Sort u0} {A1 : Sort u1} {A2 : Sort u2} {A3 : Sort u3} {A4 : Sort u4} {p : A0 → A1 → A2 → A3 → A4 → Prop} {G : Prop} (h : ∃ x0 : A0, ∃ x1 : A1, ∃ x2 : A2, ∃ x3 : A3, ∃ x4 : A4,  p x0 x1 x2 x3 x4) (k : ∀ (x0 : A0) (x1 : A1) (x2 : A2) (x3 : A3) (x4 : A4), p x0 x1 x2 x3 x4 → G) : G := by
  obtain ⟨x0, x1, x2, x3, x4, h⟩ := h
  exact k x0 x1 x2 x3 x4 h
theorem exo6.{u0,u1,u2,u3,u4,u5} {A0 : Sort u0} {A1 : Sort u1} {A2 : Sort u2} {A3 : Sort u3} {A4 : Sort u4} {A5 : Sort u5} {p : A0 → A1 → A2 → A3 → A4 → A5 → Prop} {G : Prop} (h : ∃ x0 : A0, ∃ x1 : A1, ∃ x2 : A2, ∃ x3 : A3, ∃ x4 : A4, ∃ x5 : A5,  p x0 x1 x2 x3 x4 x5) (k : ∀ (x0 : A0) (x1 : A1) (x2 : A2) (x3 : A3) (x4 : A4) (x5 : A5), p x0 x1 x2 x3 x4 x5 → G) : G := by
  obtain ⟨x0, x1, x2, x3, x4, x5, h⟩ := h
  exact k x0 x1 x2 x3 x4 x5 h
theorem exo7.{u0,u1,u2,u3,u4,u5,u6} {A0 : Sort u0} {A1 : Sort u1} {A2 : Sort u2} {A3 : Sort u3} {A4 : Sort u4} {A5 : Sort u5} {A6 : Sort u6} {p : A0 → A1 → A2 → A3 → A4 → A5 → A6 → Prop} {G : Prop} (h : ∃ x0 : A0, ∃ x1 : A1, ∃ x2 : A2, ∃ x3 : A3, ∃ x4 : A4, ∃ x5 : A5, ∃ x6 : A6,  p x0 x1 x2 x3 x4 x5 x6) (k : ∀ (x0 : A0) (x1 : A1) (x2 : A2) (x3 : A3) (x4 : A4) (x5 : A5) (x6 : A6), p x0 x1 x2 x3 x4 x5 x6 → G) : G := by
  obtain ⟨x0, x1, x2, x3, x4, x5, x6, h⟩ := h
  exact k x0 x1 x2 x3 x4 x5 x6 h
theorem exo8.{u0,u1,u2,u3,u4,u5,u6,u7} {A0 : Sort u0} {A1 : Sort u1} {A2 : Sort u2} {A3 : Sort u3} {A4 : Sort u4} {A5 : Sort u5} {A6 : Sort u6} {A7 : Sort u7} {p : A0 → A1 → A2 → A3 → A4 → A5 → A6 → A7 → Prop} {G : Prop} (h : ∃ x0 : A0, ∃ x1 : A1, ∃ x2 : A2, ∃ x3 : A3, ∃ x4 : A4, ∃ x5 : A5, ∃ x6 : A6, ∃ x7 : A7,  p x0 x1 x2 x3 x4 x5 x6 x7) (k : ∀ (x0 : A0) (x1 : A1) (x2 : A2) (x3 : A3) (x4 : A4) (x5 : A5) (x6 : A6) (x7 : A7), p x0 x1 x2 x3 x4 x5 x6 x7 → G) : G := by
  obtain ⟨x0, x1, x2, x3, x4, x5, x6, x7, h⟩ := h
  exact k x0 x1 x2 x3 x4 x5 x6 x7 h
theorem exo9.{u0,u1,u2,u3,u4,u5,u6,u7,u8} {A0 : Sort u0} {A1 : Sort u1} {A2 : Sort u2} {A3 : Sort u3} {A4 : Sort u4} {A5 : Sort u5} {A6 : Sort u6} {A7 : Sort u7} {A8 : Sort u8} {p : A0 → A1 → A2 → A3 → A4 → A5 → A6 → A7 → A8 → Prop} {G : Prop} (h : ∃ x0 : A0, ∃ x1 : A1, ∃ x2 : A2, ∃ x3 : A3, ∃ x4 : A4, ∃ x5 : A5, ∃ x6 : A6, ∃ x7 : A7, ∃ x8 : A8,  p x0 x1 x2 x3 x4 x5 x6 x7 x8) (k : ∀ (x0 : A0) (x1 : A1) (x2 : A2) (x3 : A3) (x4 : A4) (x5 : A5) (x6 : A6) (x7 : A7) (x8 : A8), p x0 x1 x2 x3 x4 x5 x6 x7 x8 → G) : G := by
  obtain ⟨x0, x1, x2, x3, x4, x5, x6, x7, x8, h⟩ := h
  exact k x0 x1 x2 x3 x4 x5 x6 x7 x8 h
theorem exo10.{u0,u1,u2,u3,u4,u5,u6,u7,u8,u9} {A0 : Sort u0} {A1 : Sort u1} {A2 : Sort u2} {A3 : Sort u3} {A4 : Sort u4} {A5 : Sort u5} {A6 : Sort u6} {A7 : Sort u7} {A8 : Sort u8} {A9 : Sort u9} {p : A0 → A1 → A2 → A3 → A4 → A5 → A6 → A7 → A8 → A9 → Prop} {G : Prop} (h : ∃ x0 : A0, ∃ x1 : A1, ∃ x2 : A2, ∃ x3 : A3, ∃ x4 : A4, ∃ x5 : A5, ∃ x6 : A6, ∃ x7 : A7, ∃ x8 : A8, ∃ x9 : A9,  p x0 x1 x2 x3 x4 x5 x6 x7 x8 x9) (k : ∀ (x0 : A0) (x1 : A1) (x2 : A2) (x3 : A3) (x4 : A4) (x5 : A5) (x6 : A6) (x7 : A7) (x8 : A8) (x9 : A9), p x0 x1 x2 x3 x4 x5 x6 x7 x8 x9 → G) : G := by
  obtain ⟨x0, x1, x2, x3, x4, x5, x6, x7, x8, x9, h⟩ := h
  exact k x0 x1 x2 x3 x4 x5 x6 x7 x8 x9 h
theorem ando2 {p0 p1 G : Prop} (h : p0 ∧ p1) (k : p0 → p1 → G) : G := k h.1 h.2
theorem ando3 {p0 p1 p2 G : Prop} (h : p0 ∧ p1 ∧ p2) (k : p0 → p1 → p2 → G) : G := k h.1 h.2.1 h.2.2
theorem ando4 {p0 p1 p2 p3 G : Prop} (h : p0 ∧ p1 ∧ p2 ∧ p3) (k : p0 → p1 → p2 → p3 → G) : G := k h.1 h.2.1 h.2.2.1 h.2.2.2
theorem ando5 {p0 p1 p2 p3 p4 G : Prop} (h : p0 ∧ p1 ∧ p2 ∧ p3 ∧ p4) (k : p0 → p1 → p2 → p3 → p4 → G) : G := k h.1 h.2.1 h.2.2.1 h.2.2.2.1 h.2.2.2.2
theorem ando6 {p0 p1 p2 p3 p4 p5 G : Prop} (h : p0 ∧ p1 ∧ p2 ∧ p3 ∧ p4 ∧ p5) (k : p0 → p1 → p2 → p3 → p4 → p5 → G) : G := k h.1 h.2.1 h.2.2.1 h.2.2.2.1 h.2.2.2.2.1 h.2.2.2.2.2
theorem ando7 {p0 p1 p2 p3 p4 p5 p6 G : Prop} (h : p0 ∧ p1 ∧ p2 ∧ p3 ∧ p4 ∧ p5 ∧ p6) (k : p0 → p1 → p2 → p3 → p4 → p5 → p6 → G) : G := k h.1 h.2.1 h.2.2.1 h.2.2.2.1 h.2.2.2.2.1 h.2.2.2.2.2.1 h.2.2.2.2.2.2
theorem ando8 {p0 p1 p2 p3 p4 p5 p6 p7 G : Prop} (h : p0 ∧ p1 ∧ p2 ∧ p3 ∧ p4 ∧ p5 ∧ p6 ∧ p7) (k : p0 → p1 → p2 → p3 → p4 → p5 → p6 → p7 → G) : G := k h.1 h.2.1 h.2.2.1 h.2.2.2.1 h.2.2.2.2.1 h.2.2.2.2.2.1 h.2.2.2.2.2.2.1 h.2.2.2.2.2.2.2
theorem ando9 {p0 p1 p2 p3 p4 p5 p6 p7 p8 G : Prop} (h : p0 ∧ p1 ∧ p2 ∧ p3 ∧ p4 ∧ p5 ∧ p6 ∧ p7 ∧ p8) (k : p0 → p1 → p2 → p3 → p4 → p5 → p6 → p7 → p8 → G) : G := k h.1 h.2.1 h.2.2.1 h.2.2.2.1 h.2.2.2.2.1 h.2.2.2.2.2.1 h.2.2.2.2.2.2.1 h.2.2.2.2.2.2.2.1 h.2.2.2.2.2.2.2.2
theorem ando10 {p0 p1 p2 p3 p4 p5 p6 p7 p8 p9 G : Prop} (h : p0 ∧ p1 ∧ p2 ∧ p3 ∧ p4 ∧ p5 ∧ p6 ∧ p7 ∧ p8 ∧ p9) (k : p0 → p1 → p2 → p3 → p4 → p5 → p6 → p7 → p8 → p9 → G) : G := k h.1 h.2.1 h.2.2.1 h.2.2.2.1 h.2.2.2.2.1 h.2.2.2.2.2.1 h.2.2.2.2.2.2.1 h.2.2.2.2.2.2.2.1 h.2.2.2.2.2.2.2.2.1 h.2.2.2.2.2.2.2.2.2
theorem ando11 {p0 p1 p2 p3 p4 p5 p6 p7 p8 p9 p10 G : Prop} (h : p0 ∧ p1 ∧ p2 ∧ p3 ∧ p4 ∧ p5 ∧ p6 ∧ p7 ∧ p8 ∧ p9 ∧ p10) (k : p0 → p1 → p2 → p3 → p4 → p5 → p6 → p7 → p8 → p9 → p10 → G) : G := k h.1 h.2.1 h.2.2.1 h.2.2.2.1 h.2.2.2.2.1 h.2.2.2.2.2.1 h.2.2.2.2.2.2.1 h.2.2.2.2.2.2.2.1 h.2.2.2.2.2.2.2.2.1 h.2.2.2.2.2.2.2.2.2.1 h.2.2.2.2.2.2.2.2.2.2
theorem ando12 {p0 p1 p2 p3 p4 p5 p6 p7 p8 p9 p10 p11 G : Prop} (h : p0 ∧ p1 ∧ p2 ∧ p3 ∧ p4 ∧ p5 ∧ p6 ∧ p7 ∧ p8 ∧ p9 ∧ p10 ∧ p11) (k : p0 → p1 → p2 → p3 → p4 → p5 → p6 → p7 → p8 → p9 → p10 → p11 → G) : G := k h.1 h.2.1 h.2.2.1 h.2.2.2.1 h.2.2.2.2.1 h.2.2.2.2.2.1 h.2.2.2.2.2.2.1 h.2.2.2.2.2.2.2.1 h.2.2.2.2.2.2.2.2.1 h.2.2.2.2.2.2.2.2.2.1 h.2.2.2.2.2.2.2.2.2.2.1 h.2.2.2.2.2.2.2.2.2.2.2
theorem sub_cons {α : Type} {a : α} {l m : List α} (h : a ∈ m) (t : ∀ x, x ∈ l → x ∈ m) : ∀ x, x ∈ a :: l → x ∈ m := List.forall_mem_cons.mpr ⟨h, t⟩
theorem exi2.{u0,u1} {A0 : Sort u0} {A1 : Sort u1} {p : A0 → A1 → Prop} (x0 : A0) (x1 : A1) (h : p x0 x1) : ∃ x0 : A0, ∃ x1 : A1,  p x0 x1 := ⟨x0, x1, h⟩
theorem exi3.{u0,u1,u2} {A0 : Sort u0} {A1 : Sort u1} {A2 : Sort u2} {p : A0 → A1 → A2 → Prop} (x0 : A0) (x1 : A1) (x2 : A2) (h : p x0 x1 x2) : ∃ x0 : A0, ∃ x1 : A1, ∃ x2 : A2,  p x0 x1 x2 := ⟨x0, x1, x2, h⟩
theorem exi4.{u0,u1,u2,u3} {A0 : Sort u0} {A1 : Sort u1} {A2 : Sort u2} {A3 : Sort u3} {p : A0 → A1 → A2 → A3 → Prop} (x0 : A0) (x1 : A1) (x2 : A2) (x3 : A3) (h : p x0 x1 x2 x3) : ∃ x0 : A0, ∃ x1 : A1, ∃ x2 : A2, ∃ x3 : A3,  p x0 x1 x2 x3 := ⟨x0, x1, x2, x3, h⟩
theorem exi5.{u0,u1,u2,u3,u4} {A0 : Sort u0} {A1 : Sort u1} {A2 : Sort u2} {A3 : Sort u3} {A4 : Sort u4} {p : A0 → A1 → A2 → A3 → A4 → Prop} (x0 : A0) (x1 : A1) (x2 : A2) (x3 : A3) (x4 : A4) (h : p x0 x1 x2 x3 x4) : ∃ x0 : A0, ∃ x1 : A1, ∃ x2 : A2, ∃ x3 : A3, ∃ x4 : A4,  p x0 x1 x2 x3 x4 := ⟨x0, x1, x2, x3, x4, h⟩
theorem exi6.{u0,u1,u2,u3,u4,u5} {A0 : Sort u0} {A1 : Sort u1} {A2 : Sort u2} {A3 : Sort u3} {A4 : Sort u4} {A5 : Sort u5} {p : A0 → A1 → A2 → A3 → A4 → A5 → Prop} (x0 : A0) (x1 : A1) (x2 : A2) (x3 : A3) (x4 : A4) (x5 : A5) (h : p x0 x1 x2 x3 x4 x5) : ∃ x0 : A0, ∃ x1 : A1, ∃ x2 : A2, ∃ x3 : A3, ∃ x4 : A4, ∃ x5 : A5,  p x0 x1 x2 x3 x4 x5 := ⟨x0, x1, x2, x3, x4, x5, h⟩
theorem exi7.{u0,u1,u2,u3,u4,u5,u6} {A0 : Sort u0} {A1 : Sort u1} {A2 : Sort u2} {A3 : Sort u3} {A4 : Sort u4} {A5 : Sort u5} {A6 : Sort u6} {p : A0 → A1 → A2 → A3 → A4 → A5 → A6 → Prop} (x0 : A0) (x1 : A1) (x2 : A2) (x3 : A3) (x4 : A4) (x5 : A5) (x6 : A6) (h : p x0 x1 x2 x3 x4 x5 x6) : ∃ x0 : A0, ∃ x1 : A1, ∃ x2 : A2, ∃ x3 : A3, ∃ x4 : A4, ∃ x5 : A5, ∃ x6 : A6,  p x0 x1 x2 x3 x4 x5 x6 := ⟨x0, x1, x2, x3, x4, x5, x6, h⟩
theorem exi8.{u0,u1,u2,u3,u4,u5,u6,u7} {A0 : Sort u0} {A1 : Sort u1} {A2 : Sort u2} {A3 : Sort u3} {A4 : Sort u4} {A5 : Sort u5} {A6 : Sort u6} {A7 : Sort u7} {p : A0 → A1 → A2 → A3 → A4 → A5 → A6 → A7 → Prop} (x0 : A0) (x1 : A1) (x2 : A2) (x3 : A3) (x4 : A4) (x5 : A5) (x6 : A6) (x7 : A7) (h : p x0 x1 x2 x3 x4 x5 x6 x7) : ∃ x0 : A0, ∃ x1 : A1, ∃ x2 : A2, ∃ x3 : A3, ∃ x4 : A4, ∃ x5 : A5, ∃ x6 : A6, ∃ x7 : A7,  p x0 x1 x2 x3 x4 x5 x6 x7 := ⟨x0, x1, x2, x3, x4, x5, x6, x7, h⟩
theorem exi9.{u0,u1,u2,u3,u4,u5,u6,u7,u8} {A0 : Sort u0} {A1 : Sort u1} {A2 : Sort u2} {A3 : Sort u3} {A4 : Sort u4} {A5 : Sort u5} {A6 : Sort u6} {A7 : Sort u7} {A8 : Sort u8} {p : A0 → A1 → A2 → A3 → A4 → A5 → A6 → A7 → A8 → Prop} (x0 : A0) (x1 : A1) (x2 : A2) (x3 : A3) (x4 : A4) (x5 : A5) (x6 : A6) (x7 : A7) (x8 : A8) (h : p x0 x1 x2 x3 x4 x5 x6 x7 x8) : ∃ x0 : A0, ∃ x1 : A1, ∃ x2 : A2, ∃ x3 : A3, ∃ x4 : A4, ∃ x5 : A5, ∃ x6 : A6, ∃ x7 : A7, ∃ x8 : A8,  p x0 x1 x2 x3 x4 x5 x6 x7 x8 := ⟨x0, x1, x2, x3, x4, x5, x6, x7, x8, h⟩
theorem exi10.{u0,u1,u2,u3,u4,u5,u6,u7,u8,u9} {A0 : Sort u0} {A1 : Sort u1} {A2 : Sort u2} {A3 : Sort u3} {A4 : Sort u4} {A5 : Sort u5} {A6 : Sort u6} {A7 : Sort u7} {A8 : Sort u8} {A9 : Sort u9} {p : A0 → A1 → A2 → A3 → A4 → A5 → A6 → A7 → A8 → A9 → Prop} (x0 : A0) (x1 : A1) (x2 : A2) (x3 : A3) (x4 : A4) (x5 : A5) (x6 : A6) (x7 : A7) (x8 : A8) (x9 : A9) (h : p x0 x1 x2 x3 x4 x5 x6 x7 x8 x9) : ∃ x0 : A0, ∃ x1 : A1, ∃ x2 : A2, ∃ x3 : A3, ∃ x4 : A4, ∃ x5 : A5, ∃ x6 : A6, ∃ x7 : A7, ∃ x8 : A8, ∃ x9 : A9,  p x0 x1 x2 x3 x4 x5 x6 x7 x8 x9 := ⟨x0, x1, x2, x3, x4, x5, x6, x7, x8, x9, h⟩
end Mine
end
section
open PySem PySem.W PyProof.Rows
set_option Elab.async false
set_option maxRecDepth 100000
set_option maxHeartbeats 8000000
namespace Mine
local macro_rules | `(tactic| tb_rel) => `(tactic| first | decide | ((with_reducible show (_ : Nat) ≠ _); first | (apply Nat.ne_of_gt; (first | assumption | (apply And.left; (iterate 12 (first | done | assumption | apply And.right)); done))) | (apply Nat.ne_of_lt; (first | assumption | (apply And.left; (iterate 12 (first | done | assumption | apply And.right)); done)))) | ((with_reducible show (_ : Nat) < _); first | exact rm1 ‹_› (by decide) | exact rm2 ‹_› (by decide) | exact rm3 ‹_› (by decide) | exact rm4 ‹_› (by decide) | exact rm0 ‹_› | exact ltT ‹_› (by decide) | exact ltT' ‹_› (by decide) | (first | assumption | (apply And.left; (iterate 12 (first | done | assumption | apply And.right)); done))) | ((with_reducible show (_ : Nat) ≤ _); first | exact leT ‹_› (by decide) | (apply Nat.le_of_lt; (first | assumption | (apply And.left; (iterate 12 (first | done | assumption | apply And.right)); done)))))
local macro_rules | `(tactic| omega) => `(tactic| tb_rel)
local macro_rules | `(tactic| k_lt $h:ident) => `(tactic| (replace $h := allLt_of $h; dsimp only [AllLt] at $h:ident; (try simp only [and_true] at $h:ident)))
open Lean in
local macro_rules
  | `(tactic| obtain ⟨$ps,*⟩ := $e:term) => do
    let ps := ps.getElems
    let n := ps.size
    if n < 2 then Macro.throwUnsupported
    let plain (p : Syntax) : Option Syntax := if p[1].getNumArgs == 0 && p[0][0].getNumArgs == 1 && p[0][0][0].isOfKind ``Lean.Parser.Tactic.rcasesPat.one && p[0][0][0][0].getId != `rfl then some p[0][0][0][0] else none
    let tup (p : Syntax) : Bool := p[1].getNumArgs == 0 && p[0][0].getNumArgs == 1 && p[0][0][0].isOfKind ``Lean.Parser.Tactic.rcasesPat.tuple
    let mut alts : Array (TSyntax `tactic) := #[]
    let clr ← if e.raw.isIdent then `(tactic| try clear $(⟨e.raw⟩):ident) else `(tactic| skip)
    for j in [0:n] do
      for ex in [true, false] do
        let k := if ex then n - 1 - j else n - j
        if k < (if ex then 1 else 2) || k > (if ex then 10 else 12) then continue
        let l := mkIdent (`Mine ++ Name.mkSimple (s!"{if ex then "exo" else "ando"}{k}"))
        let m := if ex then k + 1 else k
        let mut vs : Array (TSyntax `term) := #[]
        let mut ts : Array (TSyntax `tactic) := #[]
        for i in [0:m] do
          let v : Ident ← (do let s ← `(w); pure (mkIdent (s.raw.getId ++ Name.mkSimple s!"v{i}")))
          let last := i + 1 == m && m < n
          match (if last then none else plain ps[i]!.raw) with
          | some x => vs := vs.push ⟨x⟩
          | none =>
            vs := vs.push ⟨v⟩
            if last then
              let rest : TSyntaxArray `Lean.Parser.Tactic.rcasesPatLo := ps.extract i n
              ts := ts.push (← `(tactic| obtain ⟨$rest,*⟩ := $v:ident))
            else
              let p := ps[i]!
              if tup p.raw then
                let m : TSyntax `Lean.Parser.Tactic.rcasesPatMed := ⟨p.raw[0]⟩
                ts := ts.push (← `(tactic| obtain $m:rcasesPatMed := $v:ident))
              else ts := ts.push (← `(tactic| rcases $v:ident with $p))
        let ts2 := #[← `(tactic| refine $l $e ?_), clr, ← `(tactic| intro $[$vs:term]*)] ++ ts
        alts := alts.push (← `(tactic| ($[$ts2:tactic];*)))
    if n < 4 then `(tactic| first $[| $alts:tactic]*)
    else `(tactic| (refine opq ?_; intro Po backo; (first $[| $alts:tactic]*); all_goals (refine backo ?_; clear backo Po)))
open Lean in
def exiAlts (xs : Array (TSyntax `term)) (mk : TSyntax `term → MacroM (TSyntax `tactic)) : MacroM (TSyntax `tactic) := do
  let n := xs.size
  if n < 3 then Macro.throwUnsupported
  let mut alts : Array (TSyntax `tactic) := #[]
  for j in [0:n] do
    let k := n - 1 - j
    if k < 2 || k > 10 then continue
    let l := mkIdent (`Mine ++ Name.mkSimple s!"exi{k}")
    let a : Array (TSyntax `term) := xs.extract 0 k
    let b : Array (TSyntax `term) := xs.extract k n
    let last ← if b.size == 1 then pure b[0]! else `(⟨$b,*⟩)
    alts := alts.push (← mk (← `($l $a* $last)))
  `(tactic| first $[| $alts:tactic]*)
local macro_rules
  | `(tactic| refine ⟨$xs,*⟩) => exiAlts xs.getElems fun t => `(tactic| refine $t)
  | `(tactic| refine' ⟨$xs,*⟩) => exiAlts xs.getElems fun t => `(tactic| refine' $t)
  | `(tactic| exact ⟨$xs,*⟩) => exiAlts xs.getElems fun t => `(tactic| exact $t)
section
theorem calm1 {M : PySem.Model} {A : PySem.Around} {Q : Unit → PySem.Shared → Prop} {E : PySem.Value → PySem.Shared → Prop} {s : PySem.Shared} (h : Q () s) : PySem.wpAny M A (pure ()) Q E s := by
  w_top off
  first | (walk1; done) | exact PySem.wpAny_pure h
section
variable {M : Model} {A : Around} {R : GenEnd} {Y : Protocol} {n : Nat} {s₀ : Shared} {c : Code} {fs : List Frame} {s : Shared} {env : Env}
  {K : Flow → Sem Fin} {H : Value → Sem Fin} {gd : Bool → Bool} {lv : List Value → List Value}

noncomputable def Nay : Value → Shared → Prop := fun _ _ => False

theorem seg_cmd {α : Type} {m : Sem α} {K : α → Sem Fin} {H : Value → Sem Fin} {gd lv}
    (h : wpAny M (A.over c fs) m (fun a s' => Seg M A R Y n s₀ c (K a) fs s') Nay s) : Seg M A R Y n s₀ c (m.wrap K H gd lv) fs s :=
  seg_wrap (wpAny_mono h (fun _ _ x => x) fun _ _ x => False.elim x)

theorem seg_If {test : Expr} {body orelse : List Stmt} {pos : Pos}
    (h : wpAny M (A.over c fs) (isTrue test env (eval test env)) (fun b s' =>
      if b then Seg M A R Y n s₀ c ((execs body env).wrap K H gd lv) fs s' else Seg M A R Y n s₀ c ((execs orelse env).wrap K H gd lv) fs s') Nay s) :
    Seg M A R Y n s₀ c ((exec (.If test body orelse pos) env).wrap K H gd lv) fs s := by
  rw [exec_If]
  show Seg M A R Y n s₀ c (.at pos fun _ => ((isTrue test env (eval test env)) >>= fun b => if b then execs body env else execs orelse env).wrap K H gd lv) fs s
  refine seg_at ?_
  rw [Sem.bind_eq_wrap', Sem.wrap_wrap]
  refine seg_cmd (wpAny_mono h (fun b s' hb => ?_) fun _ _ x => x)
  cases b <;> exact hb

/-- what stands behind a call of a loop's own activation -/
noncomputable def behindOwn (env : Env) (K : Flow → Sem Fin) (H : Value → Sem Fin) (gd : Bool → Bool) (lv : List Value → List Value) (r : Result) : Sem Fin :=
  ((match r with | .ok f => (.pure f : Sem Flow) | .error e => .raise e).onRaise fun (x : Value) => do
        if (← field x 1) == Value.none then unsupported "frame.own-activation:exception-without-traceback"
        setFlight x env.frame).wrap K H gd lv

theorem seg_For {target iter : Expr} {body orelse : List Stmt} {pos : Pos}
    (h : wpAny M (A.over c fs) (eval iter env) (fun x s₁ => wpAny M (A.over c fs) (pyIter x) (fun it s₂ =>
      ∀ p, Seg M A R Y n s₀ (.forLoop target it body orelse env) (M.den (.forLoop target it body orelse env)) (.ret (behindOwn env K H gd lv) none (gd false) (lv []) c p [] :: fs) s₂) Nay s₁) Nay s)
    (hs : ∀ x, foldedSetIterable iter env x = pure x) :
    Seg M A R Y n s₀ c ((exec (.For target iter body orelse pos) env).wrap K H gd lv) fs s := by
  rw [exec_For]
  show Seg M A R Y n s₀ c (.at pos fun _ => ((eval iter env) >>= fun x0 => foldedSetIterable iter env x0 >>= fun x => standAt iter.pos >>= fun _ =>
    (holding [x] (pyIter x)) >>= fun it => runOwn (.forLoop target it body orelse env) env).wrap K H gd lv) fs s
  refine seg_at ?_
  rw [Sem.bind_eq_wrap', Sem.wrap_wrap]
  refine seg_cmd (wpAny_mono h (fun x s₁ h₁ => ?_) fun _ _ x => x)
  rw [hs, Sem.bind_eq_wrap', Sem.wrap_wrap]
  show Seg M A R Y n s₀ c (.at iter.pos fun _ => ((holding [x] (pyIter x)) >>= fun it => runOwn (.forLoop target it body orelse env) env).wrap K H gd lv) fs s₁
  refine seg_at ?_
  rw [Sem.bind_eq_wrap', Sem.wrap_wrap]
  refine seg_cmd (wpAny_holding (wpAny_mono h₁ (fun it s₂ h₂ => ?_) fun _ _ x => x))
  exact seg_call h₂

noncomputable def loopK (c : Code) : Flow → Sem Fin := fun f => match f with
  | .next | .cont => .pure (.again c)
  | .brk => .pure (.done .next)
  | .ret v => .pure (.done (.ret v))
noncomputable def loopH (env : Env) : Value → Sem Fin := fun e => (do noteFrame e env; theTreesLotGoes e : Sem Unit).wrap (fun _ => .raise e) .raise id id
end

section
variable {prog : Program} {w : World} {A : Around} {R : GenEnd} {Y : Protocol} {n : Nat} {s₀ : Shared} {fs : List Frame} {s : Shared} {env : Env}

theorem seg_forTurn {target : Expr} {it : Value} {body : List Stmt}
    (h : wpAny (model prog w) (A.over (.forLoop target it body [] env) fs) (pyNext it) (fun r s₁ => match r with
      | none => Seg (model prog w) A R Y n s₀ (.block [] env) (leafOf (.ok .next)) fs s₁
      | some v => wpAny (model prog w) (A.over (.forLoop target it body [] env) fs) (letOwnedTupleGo target it v) (fun _ s₂ =>
          wpAny (model prog w) (A.over (.forLoop target it body [] env) fs) (assign target env v) (fun _ s₃ =>
            Seg (model prog w) A R Y n s₀ (.forLoop target it body [] env) ((execs body env).wrap (loopK (.forLoop target it body [] env)) (loopH env) id id) fs s₃) Nay s₂) Nay s₁) Nay s) :
    Seg (model prog w) A R Y n s₀ (.forLoop target it body [] env) ((model prog w).den (.forLoop target it body [] env)) fs s := by
  show Seg _ A R Y n s₀ _ ((forTurn target it body [] env).onRaise (fun x => do noteFrame x env; theTreesLotGoes x)) fs s
  unfold forTurn
  rw [Sem.onRaise_eq_wrap]
  show Seg _ A R Y n s₀ _ (.at target.pos fun _ => (((pyNext it).onRaise (fun _ => standAt { target.pos with line := 0 })) >>= fun r => match r with
    | none => again (.block [] env)
    | some v => letOwnedTupleGo target it v >>= fun _ => assign target env v >>= fun _ => execs body env >>= fun f => match f with
      | .next | .cont => again (.forLoop target it body [] env)
      | .brk => pure (.done .next)
      | .ret v => pure (.done (.ret v))).wrap .pure (fun e => (do noteFrame e env; theTreesLotGoes e : Sem Unit).bind fun _ => .raise e) id id) fs s
  refine seg_at ?_
  rw [Sem.bind_eq_wrap', Sem.wrap_wrap]
  refine seg_cmd (wpAny_onRaise (wpAny_mono h (fun r s₁ h₁ => ?_) fun _ _ x => False.elim x))
  cases r with
  | none =>
    show Seg _ A R Y n s₀ _ (.pure (.again (.block [] env))) fs s₁
    exact seg_again rfl h₁
  | some v =>
    show Seg _ A R Y n s₀ _ ((letOwnedTupleGo target it v >>= fun _ => assign target env v >>= fun _ => execs body env >>= fun f => match f with
      | .next | .cont => again (.forLoop target it body [] env)
      | .brk => pure (.done .next)
      | .ret v => pure (.done (.ret v))).wrap _ _ id id) fs s₁
    rw [Sem.bind_eq_wrap', Sem.wrap_wrap]
    refine seg_cmd (wpAny_mono h₁ (fun _ s₂ h₂ => ?_) fun _ _ x => x)
    rw [Sem.bind_eq_wrap', Sem.wrap_wrap]
    refine seg_cmd (wpAny_mono h₂ (fun _ s₃ h₃ => ?_) fun _ _ x => x)
    rw [Sem.bind_eq_wrap', Sem.wrap_wrap]
    rw [Sem.wrap_congr (execs body env) _ _ (K' := loopK (.forLoop target it body [] env)) (H' := loopH env) (fun f => by cases f <;> rfl)
      (fun e => by first | exact Sem.bind_eq_wrap _ _ | rfl)]
    exact h₃
end
end
section
theorem calm2 {M : PySem.Model} {A : PySem.Around} {Q : Unit → PySem.Shared → Prop} {E : PySem.Value → PySem.Shared → Prop} {s : PySem.Shared} (h : Q () s) : PySem.wpAny M A (pure ()) Q E s := by
  w_top off
  first | (walk1; done) | exact PySem.wpAny_pure h
noncomputable def bsl : Str := Str.ofString "\\"
/-- what the generator hands out: place and unit -/
noncomputable def units : Nat → List Nat → Bool → List (Nat × Str)
  | i, [], true => [(i - 1, bsl)]
  | _, [], false => []
  | i, c :: r, true => (i, bsl ++ ⟨#[c]⟩) :: units (i + 1) r false
  | i, c :: r, false => if c = 92 then units (i + 1) r true else (i, ⟨#[c]⟩) :: units (i + 1) r false

/-- does an escape stand open at the end? -/
noncomputable def escAt : List Nat → Bool → Bool
  | [], e => e
  | _ :: r, true => escAt r false
  | c :: r, false => escAt r (decide (c = 92))

noncomputable def genScope : Scope := {
  kind := ScopeKind.function,
  names := [
    (Str.ofString "addr", NameKind.local),
    (Str.ofString "pos", NameKind.local),
    (Str.ofString "escape", NameKind.local),
    (Str.ofString "ch", NameKind.local),
    (Str.ofString "enumerate", NameKind.globalImplicit)],
  isGenerator := true, isCoroutine := false, more := [] }

noncomputable abbrev genEnv (L a : Addr) (cd : Value) : Env := envOf (Str.ofString "_iter_escaped_chars") genScope L a cd

noncomputable def genLoopBody (q : Nat → Pos) : List Stmt := [
  .If (.Name (Str.ofString "escape") (q 7)) [
      .Expr (.Yield (some (.Tuple [.Name (Str.ofString "pos") (q 8), .BinOp (.Constant (.str (Str.ofString "\\")) 0 (q 9)) .Add (.Name (Str.ofString "ch") (q 10)) (q 11)] 0 (q 12))) (q 13)) (q 14),
      .Assign [.Name (Str.ofString "escape") (q 15)] (.Constant (.bool false) 0 (q 16)) (q 17)]
    [ .If (.Compare (.Name (Str.ofString "ch") (q 18)) [.Eq] [.Constant (.str (Str.ofString "\\")) 0 (q 19)] (q 20))
        [.Assign [.Name (Str.ofString "escape") (q 21)] (.Constant (.bool true) 0 (q 22)) (q 23)]
        [.Expr (.Yield (some (.Tuple [.Name (Str.ofString "pos") (q 24), .Name (Str.ofString "ch") (q 25)] 0 (q 26))) (q 27)) (q 28)] (q 29)] (q 30)]
noncomputable def genTarget (q : Nat → Pos) : Expr := .Tuple [.Name (Str.ofString "pos") (q 31), .Name (Str.ofString "ch") (q 32)] 0 (q 33)
noncomputable def genBehind (q : Nat → Pos) : List Stmt := [
  .If (.Name (Str.ofString "escape") (q 40))
    [.Expr (.Yield (some (.Tuple [.Name (Str.ofString "pos") (q 41), .Constant (.str (Str.ofString "\\")) 0 (q 42)] 0 (q 43))) (q 44)) (q 45)] [] (q 46)]
noncomputable def genBody (q : Nat → Pos) : List Stmt :=
  .Assign [.Name (Str.ofString "pos") (q 0)] (.Constant (.int 0) 0 (q 1)) (q 2) ::
  .Assign [.Name (Str.ofString "escape") (q 3)] (.Constant (.bool false) 0 (q 4)) (q 5) ::
  .For (genTarget q) (.Call (.Name (Str.ofString "enumerate") (q 34)) [.Name (Str.ofString "addr") (q 35)] [] (q 36)) (genLoopBody q) [] (q 37) ::
  genBehind q

structure Went (priv : List Addr) (s s' : Shared) : Prop where
  heap : ∀ b o, b ∉ priv → s.heap.get? b = some o → s'.heap.get? b = some o
  gens : s'.gens = s.gens
  drawn : s'.drawn = s.drawn
  os : s'.os = s.os

theorem Went.refl {priv : List Addr} {s : Shared} : Went priv s s := ⟨fun _ _ _ e => e, rfl, rfl, rfl⟩
theorem Went.trans {priv : List Addr} {s s' s'' : Shared} (a : Went priv s s') (b : Went priv s' s'') : Went priv s s'' :=
  ⟨fun x o n e => b.heap x o n (a.heap x o n e), b.gens.trans a.gens, b.drawn.trans a.drawn, b.os.trans a.os⟩
theorem Went.step {priv : List Addr} {s s' : Shared} {h : Heap} {tk : Nat} (a : Went priv s s') (k : ∀ b o, b ∉ priv → s'.heap.get? b = some o → h.get? b = some o) : Went priv s { s' with heap := h, toks := tk } :=
  ⟨fun x o n e => k x o n (a.heap x o n e), a.gens, a.drawn, a.os⟩

/-- the end of the generator -/
noncomputable def GenR (priv : List Addr) : GenEnd := fun n s₀ r s₁ => r = .ok (.ret .none) ∧ (n = 0 ∧ Went priv s₀ s₁)
/-- what it hands out when n are still to come -/
noncomputable def GenY (h₀ : Heap) (priv : List Addr) (U : List (Nat × Str)) : Protocol := fun n s₀ v s' kap =>
  ∃ (T : Addr) (p : Nat) (u : Str) (tp tu : Tok), U.reverse[n]? = some (p, u) ∧ v = .ref T ∧ s'.heap.IsTuple T #[.int p tp, .str u tu] ∧ Went priv s₀ s' ∧ (∀ b ∈ priv, ∃ o, s'.heap.get? b = some o) ∧
    ∀ s'', (∀ b ∈ priv, ∀ o, s'.heap.get? b = some o → s''.heap.get? b = some o) → (∀ b o, h₀.get? b = some o → s''.heap.get? b = some o) → kap (.send .none) s''

theorem at_reverse {α : Type} (pre tl : List α) (x : α) : (pre ++ x :: tl).reverse[tl.length]? = some x := by
  rw [List.reverse_append, List.reverse_cons]
  simp

section
variable {prog : Program} {w : World} {A : Around} {h₀ : Heap} {fs : List Frame} {L a : Addr} {cd : Value} {priv : List Addr} {U : List (Nat × Str)} {s₀ s : Shared} {c : Code} {m : Str → Option Value}
  {K : Flow → Sem Fin} {H : Value → Sem Fin} {q : Nat → Pos} {n : Nat}

/-- the pair that is handed out -/
theorem gen_pair {x y : Expr} {k : Nat} {pos : Pos} {p : Nat} {u : Str} {Q : Value → Shared → Prop} {A' : Around} (env : Env)
    (hxy : backTo pos (starEach [x, y] env) = [(false, eval x env), (false, eval y env)])
    (hx : ∀ Q' : Value → Shared → Prop, (∀ t tk, Q' (.int p t) { s with toks := tk }) → wpAny (model prog w) A' (eval x env) Q' Nay s)
    (hy : ∀ tk (Q' : Value → Shared → Prop), (∀ t tk', Q' (.str u t) { s with toks := tk' }) → wpAny (model prog w) A' (eval y env) Q' Nay { s with toks := tk })
    (h : ∀ T h' tk tp tu, h'.IsTuple T #[.int p tp, .str u tu] → (∀ b o, s.heap.get? b = some o → h'.get? b = some o) → Q (.ref T) { s with heap := h', toks := tk }) :
    wpAny (model prog w) A' (eval (.Tuple [x, y] k pos) env) Q Nay s := by
  refine wpAny_Tuple ?_
  rw [hxy]
  refine Calls.spliced_cons (hx _ fun t tk => Calls.spliced_cons (hy tk _ fun t' tk' => Calls.spliced_nil ?_))
  refine ⟨by show 2 ≤ sizeLine; decide, ?_⟩
  exact h _ _ _ t t' ⟨_, Heap.get?_push_size _ rfl, rfl, 0, rfl⟩ fun b o e => Heap.get?_push_of_some _ e

theorem seg_yieldE {A : Around} {R : GenEnd} {Y : Protocol} {env : Env} {K : Flow → Sem Fin} {H : Value → Sem Fin} {e : Expr} {ypos pos : Pos} (hfs : splitAtGen fs = none) (hfg : fs.any Frame.guarded = false)
    (h : wpAny (model prog w) (A.over c fs) (eval e env) (fun v s' => ∀ kap : Resume → Shared → Prop,
        (∀ s'', Seg (model prog w) A R Y n s'' c (K .next) fs s'' → kap (.send .none) s'') → Y n s₀ v s' kap) Nay s) (hco : env.scope.isCoroutine = false := by rfl) (hi : interactive env = false := by rfl) :
    Seg (model prog w) A R Y (n + 1) s₀ c ((exec (.Expr (.Yield (some e) ypos) pos) env).wrap K H id id) fs s :=
  seg_Expr_Yield hfs rfl hfg (wpAny_mono h (fun _ _ k kap hk => k kap fun s'' z => hk .none s'' z) fun _ _ x => False.elim x) hco hi

theorem stW {A : Around} {M : Model} {E : Value → Shared → Prop} {x : Str} {v : Value} {Q : Unit → Shared → Prop} (F : Fr h₀ L s.heap m)
    (h : ∀ h', Fr h₀ L h' (fun y => if y = x then some v else m y) → Heap.SameBut L s.heap h' → Q () { s with heap := h', toks := s.toks + 1 })
    (hl : (genEnv L a cd).kindOf x = some .local := by rfl) :
    wpAny M A (storeName (genEnv L a cd) x v) Q E s :=
  wpAny_storeName_local hl F.ns (fun h' hn hs => h h' (F.set hn hs) hs) (by rfl)

noncomputable abbrev genC (q : Nat → Pos) (I L a : Addr) (cd : Value) : Code := .forLoop (genTarget q) (.ref I) (genLoopBody q) [] (genEnv L a cd)

theorem gen_loop {fp wr : List Addr} {I : Addr} {x : Str} {Pt : Nat → Array Value → Prop} {St : Nat → Heap → Prop} {Mid : Nat → Addr → Heap → Prop}
    (W : WalksT prog w (A.over (genC q I L a cd) fs) I fp wr x.cps.size Pt St Mid)
    (hPt : ∀ i vals, Pt i vals → ∃ t c u, x.cps[i]? = some c ∧ vals = #[.int i t, .str ⟨#[c]⟩ u])
    (hLive : ∀ i h, St i h → ∀ b ∈ fp, ∃ o, h.get? b = some o) (hLf : L ∉ fp) (hwr : ∀ b ∈ wr, h₀.get? b = none) (hh : (A.over (genC q I L a cd) fs).handled = none)
    (hfs : splitAtGen fs = none) (hfg : fs.any Frame.guarded = false)
    (fin : ∀ (m : Str → Option Value) s₀ s, Fr h₀ L s.heap m → m (Str.ofString "escape") = some (.bool false) → Went (L :: fp) s₀ s →
      Seg (model prog w) A (GenR (L :: fp)) (GenY h₀ (L :: fp) U) 0 s₀ (.block [] (genEnv L a cd)) (leafOf (.ok .next)) fs s) :
    ∀ (k i : Nat) (esc : Bool) (m : Str → Option Value) (pre : List (Nat × Str)) (s₀ s : Shared), i + k = x.cps.size → escAt (x.cps.toList.drop i) esc = false → U = pre ++ units i (x.cps.toList.drop i) esc →
      Fr h₀ L s.heap m → m (Str.ofString "escape") = some (.bool esc) → St i s.heap → Went (L :: fp) s₀ s →
      Seg (model prog w) A (GenR (L :: fp)) (GenY h₀ (L :: fp) U) (units i (x.cps.toList.drop i) esc).length s₀ (genC q I L a cd) ((model prog w).den (genC q I L a cd)) fs s := by
  have hLw : L ∉ wr := fun h => hLf (W.sub _ h)
  have old : ∀ b o, h₀.get? b = some o → b ∉ wr := fun b o e hb => by rw [hwr b hb] at e; cases e
  intro k
  induction k with
  | zero =>
    intro i esc m pre s₀ s hi hesc hU F he hst hw
    have hi' : i = x.cps.size := by omega
    subst hi'
    have hd : x.cps.toList.drop x.cps.size = [] := by simp
    rw [hd] at hU hesc ⊢
    have hesc' : esc = false := hesc
    subst hesc'
    refine seg_forTurn (W.done _ _ _ hst fun h' tk hk => ?_)
    exact fin m s₀ _ ⟨F.ns.at' fun o e => hk _ o hLw e, fun b o e => hk b o (old b o e) (F.keep b o e), F.above⟩ he (hw.step fun b o hb e => hk b o (fun h => hb (List.mem_cons_of_mem _ (W.sub b h))) e)
  | succ k ih =>
    intro i esc m pre s₀ s hi hesc hU F he hst hw
    have hlt : i < x.cps.size := by omega
    refine seg_forTurn (W.item i _ _ _ hlt hst fun T vals h₁ tk₁ hPt₁ _ hT hMid hk₁ => ?_)
    obtain ⟨t, ch, u, hch, rfl⟩ := hPt i vals hPt₁
    have hdrop : x.cps.toList.drop i = ch :: x.cps.toList.drop (i + 1) := by
      rw [List.drop_eq_getElem_cons (by simpa using hlt)]
      congr 1
      have := hch
      rw [Array.getElem?_eq_getElem hlt] at this
      simpa using Option.some.inj this
    refine W.go _ 0 _ i T _ _ _ hMid fun h₂ hst₂ hk₂ => ?_
    have ht₂ : h₂.IsTuple T #[.int i t, .str ⟨#[ch]⟩ u] := hT.at fun o e => hk₂ T o (W.apart i T h₁ hMid) e
    refine wpAny_assign_Tuple hh ht₂ rfl rfl fun h₃ hx₃ => ?_
    replace hx₃ : Heap.ExtBut h₂.objs.size h₂ h₃ := hx₃
    have up₃ : ∀ b o, h₂.get? b = some o → h₃.get? b = some o := fun b o x => hx₃ b o (Nat.ne_of_lt (Heap.lt_size x)) x
    have kp : ∀ b o, b ∉ wr → s.heap.get? b = some o → h₃.get? b = some o := fun b o hb e => up₃ b o (hk₂ b o hb (hk₁ b o hb e))
    have F₃ : Fr h₀ L h₃ m := ⟨F.ns.at' fun o e => kp _ o hLw e, fun b o e => kp b o (old b o e) (F.keep b o e), F.above⟩
    show wpAny _ _ (do holding [Value.str ⟨#[ch]⟩ u] (assign (.Name (Str.ofString "pos") (q 31)) (genEnv L a cd) (Value.int i t)); do holding [] (assign (.Name (Str.ofString "ch") (q 32)) (genEnv L a cd) (Value.str ⟨#[ch]⟩ u)); pure ()) _ _ _
    refine wpAny_bind (wpAny_holding (wpAny_assign_Name (wpAny_storeName_local (by rfl) F₃.ns (fun h₄ hn₄ hs₄ => ?_) (by rfl))))
    replace hs₄ : Heap.SameBut L h₃ h₄ := hs₄
    have F₄ := F₃.set hn₄ hs₄
    refine wpAny_bind (wpAny_holding (wpAny_assign_Name (wpAny_storeName_local (by rfl) F₄.ns (fun h₅ hn₅ hs₅ => wpAny_pure ?_) (by rfl))))
    replace hs₅ : Heap.SameBut L h₄ h₅ := hs₅
    have F₅ := F₄.set hn₅ hs₅
    have hst₅ : St (i + 1) h₅ := W.frame _ _ _ hst₂ fun b hb o e => hs₅.extBut b o (fun q => hLf (q ▸ hb)) (hs₄.extBut b o (fun q => hLf (q ▸ hb)) (up₃ b o e))
    have kp₅ : ∀ b o, b ∉ L :: fp → s.heap.get? b = some o → h₅.get? b = some o := fun b o hb e =>
      hs₅.extBut b o (fun z => hb (z ▸ List.mem_cons_self ..)) (hs₄.extBut b o (fun z => hb (z ▸ List.mem_cons_self ..)) (kp b o (fun z => hb (List.mem_cons_of_mem _ (W.sub b z))) e))
    clear hn₄ hn₅ F₃ F₄ F hst₂ hMid hT ht₂ hst hs₄ hs₅ hx₃ up₃ kp hk₁ hk₂ hPt₁
    rw [hdrop] at hU hesc ⊢
    have we : ∀ {tk : Nat}, Went (L :: fp) s₀ { s with heap := h₅, toks := tk } := hw.step kp₅
    have live₅ : ∀ b ∈ L :: fp, ∃ o, h₅.get? b = some o := fun b hb => by
      rcases List.mem_cons.mp hb with rfl | hb
      · obtain ⟨o, _, _, e, _⟩ := F₅.ns; exact ⟨o, e⟩
      · exact hLive _ _ hst₅ b hb
    -- where a turn ends
    have turn : ∀ (esc' : Bool) (m' : Str → Option Value) (pre' : List (Nat × Str)) (s₀' s' : Shared), escAt (x.cps.toList.drop (i + 1)) esc' = false → U = pre' ++ units (i + 1) (x.cps.toList.drop (i + 1)) esc' → Fr h₀ L s'.heap m' →
        m' (Str.ofString "escape") = some (.bool esc') → St (i + 1) s'.heap → Went (L :: fp) s₀' s' →
        Seg (model prog w) A (GenR (L :: fp)) (GenY h₀ (L :: fp) U) (units (i + 1) (x.cps.toList.drop (i + 1)) esc').length s₀' (genC q I L a cd) (.pure (.again (genC q I L a cd))) fs s' :=
      fun esc' m' pre' s₀' s' hesc' hU' F' he' hst' hw' => seg_again rfl (ih (i + 1) esc' m' pre' s₀' s' (by omega) hesc' hU' F' he' hst' hw')
    have he₅ : (fun y => if y = Str.ofString "ch" then some (Value.str ⟨#[ch]⟩ u) else if y = Str.ofString "pos" then some (Value.int i t) else m y) (Str.ofString "escape") = some (.bool esc) := by
      rw [← he]; rfl
    refine seg_execs_cons (seg_If ?_)
    refine wpAny_isTrue_value (ld F₅ he₅ (wpAny_truthy_bool ?_))
    cases esc with
    | true =>
      rw [if_pos rfl]
      simp only [units] at hU ⊢
      rw [List.length_cons]
      refine seg_execs_cons (seg_yieldE hfs hfg ?_)
      refine gen_pair (p := i) (u := bsl ++ ⟨#[ch]⟩) (genEnv L a cd) rfl (fun Q' hQ' => by exact ld (x := Str.ofString "pos") F₅ (v := .int i t) rfl (hQ' t _)) (fun tk Q' hQ' => by
        refine wpAny_BinOp (wpAny_Constant_str (ld (x := Str.ofString "ch") F₅ (v := .str ⟨#[ch]⟩ u) rfl (SB.add (fun t' k' => hQ' t' k') (by show 1 + 1 ≤ sizeLine; decide))))) (fun T' h₆ tk tp tu hT' hk₆ => ?_)
      intro kap hkap
      refine ⟨T', i, bsl ++ ⟨#[ch]⟩, tp, tu, ?_, rfl, hT', we.trans (Went.step .refl fun b o _ e => hk₆ b o e), fun b hb => (live₅ b hb).elim fun o e => ⟨o, hk₆ b o e⟩, fun s'' hp'' hb'' => hkap s'' ?_⟩
      · rw [hU]; exact at_reverse _ _ _
      · have F'' : Fr h₀ L s''.heap _ := ⟨(F₅.ns.keeps hk₆).at' (hp'' L (List.mem_cons_self ..)), hb'', F₅.above⟩
        have hst'' : St (i + 1) s''.heap := W.frame _ _ _ hst₅ fun b hb o e => hp'' b (List.mem_cons_of_mem _ hb) o (hk₆ b o e)
        refine seg_execs_cons (seg_cmd (wpAny_Assign_Name (wpAny_Constant_bool (stW F'' fun h₇ F₇ hs₇ => ?_))))
        refine turn false _ (pre ++ [(i, bsl ++ ⟨#[ch]⟩)]) _ _ hesc (by rw [hU, List.append_assoc]; rfl) F₇ rfl ?_ (Went.step .refl fun b o hb e => hs₇.extBut b o (fun z => hb (z ▸ List.mem_cons_self ..)) e)
        exact W.frame _ _ _ hst'' fun b hb o e => hs₇.extBut b o (fun z => hLf (z ▸ hb)) e
    | false =>
      rw [if_neg Bool.false_ne_true]
      refine seg_execs_cons (seg_If ?_)
      refine wpAny_isTrue_Compare1 (ld (x := Str.ofString "ch") F₅ (v := .str ⟨#[ch]⟩ u) rfl (wpAny_Constant_str (P.eq_str (wpAny_truthy_bool ?_))))
      have hb : ((⟨#[ch]⟩ : Str).cps.toList == (Str.ofString "\\").cps.toList) = decide (ch = 92) := by
        rw [show (Str.ofString "\\").cps.toList = [92] from by decide +kernel]
        show ([ch] == [92]) = _
        rw [Bool.eq_iff_iff]; simp
      rw [hb]
      by_cases h92 : ch = 92
      · rw [decide_eq_true h92, if_pos rfl]
        rw [units, if_pos h92] at hU ⊢
        refine seg_execs_cons (seg_cmd (wpAny_Assign_Name (wpAny_Constant_bool (stW F₅ fun h₇ F₇ hs₇ => ?_))))
        refine turn true _ pre _ _ (by simpa [escAt, h92] using hesc) hU F₇ rfl ?_ (Went.step (s' := { s with heap := h₅, toks := _ }) we fun b o hb e => hs₇.extBut b o (fun z => hb (z ▸ List.mem_cons_self ..)) e)
        exact W.frame _ _ _ hst₅ fun b hb o e => hs₇.extBut b o (fun z => hLf (z ▸ hb)) e
      · rw [decide_eq_false h92, if_neg Bool.false_ne_true]
        rw [units, if_neg h92] at hU ⊢
        rw [List.length_cons]
        refine seg_execs_cons (seg_yieldE hfs hfg ?_)
        refine gen_pair (p := i) (u := ⟨#[ch]⟩) (genEnv L a cd) rfl (fun Q' hQ' => by exact ld (x := Str.ofString "pos") F₅ (v := .int i t) rfl (hQ' t _)) (fun tk Q' hQ' => by exact ld (x := Str.ofString "ch") F₅ (v := .str ⟨#[ch]⟩ u) rfl (hQ' _ _)) (fun T' h₆ tk tp tu hT' hk₆ => ?_)
        intro kap hkap
        refine ⟨T', i, ⟨#[ch]⟩, tp, tu, ?_, rfl, hT', we.trans (Went.step .refl fun b o _ e => hk₆ b o e), fun b hb => (live₅ b hb).elim fun o e => ⟨o, hk₆ b o e⟩, fun s'' hp'' hb'' => hkap s'' ?_⟩
        · rw [hU]; exact at_reverse _ _ _
        · have F'' : Fr h₀ L s''.heap _ := ⟨(F₅.ns.keeps hk₆).at' (hp'' L (List.mem_cons_self ..)), hb'', F₅.above⟩
          have hst'' : St (i + 1) s''.heap := W.frame _ _ _ hst₅ fun b hb o e => hp'' b (List.mem_cons_of_mem _ hb) o (hk₆ b o e)
          exact turn false _ (pre ++ [(i, ⟨#[ch]⟩)]) _ _ (by simpa [escAt, h92] using hesc) (by rw [hU, List.append_assoc]; rfl) F'' he₅ hst'' .refl
end
end
section
theorem calm3 {M : PySem.Model} {A : PySem.Around} {Q : Unit → PySem.Shared → Prop} {E : PySem.Value → PySem.Shared → Prop} {s : PySem.Shared} (h : Q () s) : PySem.wpAny M A (pure ()) Q E s := by
  w_top off
  first | (walk1; done) | exact PySem.wpAny_pure h
section
variable {prog : Program} {w : World} {A : Around} {h₀ : Heap} {L a : Addr} {cd : Value} {s₀ s : Shared} {m : Str → Option Value} {q : Nat → Pos}

/-- the name `enumerate` in the generator's frame -/
noncomputable def EnumName (prog : Program) (w : World) (h₀ : Heap) (L a : Addr) (cd : Value) : Prop :=
  ∀ (A : Around) (s : Shared) (m : Str → Option Value) (p : Pos) (Q : Value → Shared → Prop), Fr h₀ L s.heap m → Q (.type "enumerate") s → wpAny (model prog w) A (eval (.Name (Str.ofString "enumerate") p) (genEnv L a cd)) Q Nay s

theorem gen_fresh {x : Str} {tx : Tok} (hh : A.handled = none) (hEn : EnumName prog w h₀ L a cd) (F : Fr h₀ L s.heap m) (hm : m (Str.ofString "addr") = some (.str x tx)) (hx : escAt x.cps.toList false = false) :
    Seg (model prog w) A (GenR [L, s.heap.objs.size + 1, s.heap.objs.size]) (GenY h₀ [L, s.heap.objs.size + 1, s.heap.objs.size] (units 0 x.cps.toList false)) (units 0 x.cps.toList false).length s
      (.func (genBody q) (genEnv L a cd)) ((model prog w).den (.func (genBody q) (genEnv L a cd))) [] s := by
  refine seg_func ?_
  refine seg_execs_cons (seg_cmd (wpAny_Assign_Name (wpAny_Constant_int (stW F fun h₁ F₁ hs₁ => ?_))))
  refine seg_execs_cons (seg_cmd (wpAny_Assign_Name (wpAny_Constant_bool (stW F₁ fun h₂ F₂ hs₂ => ?_))))
  have hsz : h₂.objs.size = s.heap.objs.size := hs₂.1.trans hs₁.1
  have hL : L < s.heap.objs.size := F.ns.lt
  refine seg_execs_cons (seg_For ?_ (fun _ => rfl))
  refine Call_Name (trees := [(false, eval (.Name (Str.ofString "addr") (q 35)) (genEnv L a cd))]) rfl (hEn _ _ _ _ _ F₂ ?_)
  refine PySem.callWith_type1 (ld (x := Str.ofString "addr") F₂ (v := .str x tx) hm (call_enumerate_str fun h₃ he hit _ hk => ?_))
  replace he : IsEnum h₃ (h₂.objs.size + 1) h₂.objs.size 0 .none := he
  replace hit : h₃.IsStrIter h₂.objs.size (strIterType x) x tx 0 := hit
  replace hk : ∀ b o, h₂.get? b = some o → h₃.get? b = some o := hk
  rw [hsz] at he hit
  have F₃ : Fr h₀ L h₃ _ := ⟨F₂.ns.keeps hk, fun b o e => hk b o (F₂.keep b o e), F₂.above⟩
  have hg : ∀ b o, b ∉ [L] → s.heap.get? b = some o → h₃.get? b = some o := fun b o hb e => hk b o (hs₂.extBut b o (fun z => hb (by simp [z])) (hs₁.extBut b o (fun z => hb (by simp [z])) e))
  show wpAny _ _ (pyIter (.ref (h₂.objs.size + 1))) _ _ _
  rw [hsz]
  refine wpAny_pyIter_enum he fun p => ?_
  have hLf : L ∉ [s.heap.objs.size + 1, s.heap.objs.size] := fun hm => by
    rcases List.mem_cons.mp hm with e | hm
    · exact Nat.ne_of_lt (Nat.lt_succ_of_lt hL) e
    · exact Nat.ne_of_lt hL (List.mem_singleton.mp hm)
  have ab : h₀.objs.size ≤ s.heap.objs.size := Nat.le_trans F.above (Nat.le_of_lt hL)
  have hwr : ∀ b ∈ [s.heap.objs.size + 1, s.heap.objs.size], h₀.get? b = none := fun b hb => by
    rcases List.mem_cons.mp hb with rfl | hb
    · exact Heap.get?_none_of_le (Nat.le_succ_of_le ab)
    · rw [List.mem_singleton.mp hb]; exact Heap.get?_none_of_le ab
  have main : ∀ {St : Nat → Heap → Prop}, Draws prog w (A.over (genC q (s.heap.objs.size + 1) L a cd) [.ret (behindOwn (genEnv L a cd) (fun f => match f with
      | .next => (execs (genBehind q) (genEnv L a cd)).wrap (fun f => .pure (.done (.ret (match f with | .ret v => v | _ => .none)))) (fun e => (leaving (genEnv L a cd) e).wrap (fun _ => .raise e) .raise id id) id id
      | f => .pure (.done (.ret (match f with | .ret v => v | _ => .none)))) (fun e => (leaving (genEnv L a cd) e).wrap (fun _ => .raise e) .raise id id) id id) none (id false) (id []) (.func (genBody q) (genEnv L a cd)) p []]).in1
        s.heap.objs.size [s.heap.objs.size] x.cps.size (fun i v => ∃ c u, x.cps[i]? = some c ∧ v = .str ⟨#[c]⟩ u) St → St 0 h₃ →
      Seg (model prog w) A (GenR [L, s.heap.objs.size + 1, s.heap.objs.size]) (GenY h₀ [L, s.heap.objs.size + 1, s.heap.objs.size] (units 0 x.cps.toList false)) (units 0 x.cps.toList false).length s
        (genC q (s.heap.objs.size + 1) L a cd) ((model prog w).den (genC q (s.heap.objs.size + 1) L a cd)) [.ret (behindOwn (genEnv L a cd) (fun f => match f with
      | .next => (execs (genBehind q) (genEnv L a cd)).wrap (fun f => .pure (.done (.ret (match f with | .ret v => v | _ => .none)))) (fun e => (leaving (genEnv L a cd) e).wrap (fun _ => .raise e) .raise id id) id id
      | f => .pure (.done (.ret (match f with | .ret v => v | _ => .none)))) (fun e => (leaving (genEnv L a cd) e).wrap (fun _ => .raise e) .raise id id) id id) none (id false) (id []) (.func (genBody q) (genEnv L a cd)) p []]
        { s with heap := h₃, toks := s.toks + 1 + 1 + 1 } := by
    intro St D h0
    have W := WalksT.enumerateD D (s.heap.objs.size + 1) (Nat.succ_ne_self _) (fun hm => Nat.succ_ne_self _ (List.mem_singleton.mp hm)) (List.mem_singleton_self _)
    have := gen_loop (U := units 0 x.cps.toList false) (h₀ := h₀) W (fun i vals => by (intro wq1; obtain ⟨t, v, ⟨c, u, hc, rfl⟩, rfl⟩ := wq1); exact ⟨t, c, u, hc, rfl⟩) (fun i h st b hb => ?_) hLf hwr (by show A.handled = none; exact hh) rfl rfl ?_
      x.cps.size 0 false _ [] s { s with heap := h₃, toks := s.toks + 1 + 1 + 1 } (by omega) (by simpa using hx) (by simp) F₃ rfl ⟨⟨_, he⟩, h0⟩ ⟨fun b o hb e => hg b o (fun z => hb (by rw [List.mem_singleton.mp z]; exact List.mem_cons_self ..)) e, rfl, rfl, rfl⟩
    · simpa using this
    · rcases List.mem_cons.mp hb with rfl | hb
      · exact ⟨_, st.1.choose_spec⟩
      · rw [List.mem_singleton.mp hb]; exact D.live _ _ st.2
    · intro m' s₀' s' F' he' hw'
      refine seg_leaf (.ok .next) ?_
      show Seg (model prog w) A _ _ _ s₀' (.func (genBody q) (genEnv L a cd)) ((execs (genBehind q) (genEnv L a cd)).wrap _ _ id id) [] s'
      refine seg_execs_cons (seg_If ?_)
      refine wpAny_isTrue_value (ld (x := Str.ofString "escape") F' he' (wpAny_truthy_bool ?_))
      rw [if_neg Bool.false_ne_true]
      exact seg_end (.ok (.ret .none)) ⟨rfl, rfl, hw'⟩
  cases ha : x.cps.all (· < 128)
  · exact main (Draws.strWide (by show A.handled = none; exact hh) _ x tx) (by simpa [strIterType, ha] using hit)
  · exact main (Draws.strAscii (by show A.handled = none; exact hh) _ x tx) (by simpa [strIterType, ha] using hit)
end
end
section
theorem calm4 {M : PySem.Model} {A : PySem.Around} {Q : Unit → PySem.Shared → Prop} {E : PySem.Value → PySem.Shared → Prop} {s : PySem.Shared} (h : Q () s) : PySem.wpAny M A (pure ()) Q E s := by
  w_top off
  first | (walk1; done) | exact PySem.wpAny_pure h
section
variable {prog : Program} {w : World} {A : Around} {E : Value → Shared → Prop} {h₀ : Heap} {s : Shared}

/-- one more of a generator function's: what is left behind is bare -/
theorem next_gen {a : Addr} {g n : Nat} {gs : GenState} {P : Nat → Shared → Shared → Prop} {Y : Protocol} {Q : Option Value → Shared → Prop} (hh : A.handled = none)
    (hl : s.heap.NoLimit) (hroom : A.depth < recursionLimit) (hg : s.heap.IsGen a g) (hgs : s.gens[g]? = some gs)
    (hgo : gs.Goes (model prog w) A.in1 (fun n s₀ r s₁ => r = .ok (.ret .none) ∧ P n s₀ s₁) Y n (.send .none) (s.setGen g .running))
    (hY : ∀ v s₁ gs', gs'.bare = true → Y (n - 1) (s.setGen g .running) v s₁ (fun r' s'' => match n with
        | 0 => False
        | m + 1 => gs'.Goes (model prog w) A.in1 (fun n s₀ r s₁ => r = .ok (.ret .none) ∧ P n s₀ s₁) Y m r' s'') → Q (some v) (s₁.setGen g gs'))
    (hP : ∀ s₁, P n (s.setGen g .running) s₁ → ∀ h', (∀ b o, s₁.heap.get? b = some o → h'.get? b = some o) → Q none { s₁.setGen g .finished with heap := h' }) :
    wpAny (model prog w) A (pyNext (.ref a)) Q E s := by
  unfold pyNext
  refine wpAny_bind (wpAny_attempt (wpAny_callSpecial?_slot (name := Str.ofString "__next__") hg.typeIs slot_gen_next
    (wpAny_call_entry slot_gen_next hg.typeIs entry_gen_next ?_ (args_gen_next _))))
  show wpAny _ A.in1 (Builtin.Generator.genWake (.ref a) (.send .none)) _ _ s
  unfold Builtin.Generator.genWake
  refine wpAny_bind (wpAny_holding (wpAny_genNumber hg (wpAny_bind (wpAny_genState hgs ?_))))
  have ends : ∀ (x : Result) (s₁ : Shared), x = .ok (.ret .none) ∧ P n (s.setGen g .running) s₁ → ∀ (h' : Heap) (e : Addr), (∀ b o, s₁.heap.get? b = some o → h'.get? b = some o) → (∃ o, h'.get? e = some o ∧ o.cls = .type "StopIteration") →
      wpAny (model prog w) A (do if ← isInstance (.ref e) (.type "StopIteration") then pure none else throw (.ref e)) Q E { s₁.setGen g .finished with heap := h' } := fun x s₁ hx h' e hk he => by
    refine wpAny_bind (wpAny_isInstance (T := "StopIteration") (b := true) he isSubtype_stop ?_)
    exact wpAny_pure (hP s₁ hx.2 h' hk)
  cases gs with
  | running => exact hgo.elim
  | finished => exact hgo.elim
  | _ =>
    refine wpAny_bind (wpAny_roomToWake hl hroom ?_)
    show wpAny _ A.in1 (.resume g (.send .none) [] _) _ _ s
    refine wpAny_resumeQ hgs hgo (fun x s₁ hx => ?_) (fun v s₁ gs' hb hv => wpAny_pure ⟨v, rfl, wpAny_pure (hY v s₁ gs' hb hv)⟩)
    have hx0 := hx.1
    subst hx0
    show wpAny _ A.in1 (newExc (.type "StopIteration") [] >>= _) _ _ _
    refine wpAny_bind ?_
    simp only [newExc, newTuple]
    refine wpAny_bind (wpAny_newObj_type ?_ (by size_fits))
    refine wpAny_bind (m := firstArgMember _ _) (wpAny_of_eq (a := Value.none) (by first | rfl | (simp only [firstArgMember]; rfl)) ?_)
    refine wpAny_newObj_type ?_ (by size_fits)
    simp only [raiseNew]
    refine wpAny_bind (wpAny_bind (wpAny_handled ?_))
    rw [show A.in1.handled = none from hh]
    refine wpAny_throw ?_
    exact ends _ s₁ hx _ _ (fun b o hb => Heap.get?_push_of_some _ (Heap.get?_push_of_some _ hb)) ⟨_, Heap.get?_push_size _ rfl, rfl⟩
end

/-- a generator that is still to hand out U; what it owns lies at priv -/
noncomputable def GenGoes (prog : Program) (w : World) (A : Around) (h₀ : Heap) (U : List (Nat × Str)) (priv : List Addr) (gs : GenState) (H : Heap) : Prop :=
  (gs.bare = true ∧ ∀ b ∈ priv, ∃ o, H.get? b = some o) ∧ ((∃ (q : Nat → Pos) (L a : Addr) (cd : Value) (x : Str) (tx : Tok) (m : Str → Option Value), EnumName prog w h₀ L a cd ∧ gs = .fresh (.func (genBody q) (genEnv L a cd)) ∧ priv = [L] ∧
      U = units 0 x.cps.toList false ∧ Fr h₀ L H m ∧ m (Str.ofString "addr") = some (.str x tx) ∧ escAt x.cps.toList false = false) ∨
    (∃ V pre, V = pre ++ U ∧ ∀ s'', (∀ b ∈ priv, ∀ o, H.get? b = some o → s''.heap.get? b = some o) → (∀ b o, h₀.get? b = some o → s''.heap.get? b = some o) →
      gs.Goes (model prog w) A.in1 (GenR priv) (GenY h₀ priv V) U.length (.send .none) s''))

theorem GenGoes.keeps {prog : Program} {w : World} {A : Around} {h₀ : Heap} {U : List (Nat × Str)} {priv : List Addr} {gs : GenState} {H H' : Heap} (X : GenGoes prog w A h₀ U priv gs H)
    (hp : ∀ b ∈ priv, ∀ o, H.get? b = some o → H'.get? b = some o) (hb : ∀ b o, h₀.get? b = some o → H'.get? b = some o) : GenGoes prog w A h₀ U priv gs H' := by
  refine ⟨⟨X.1.1, fun b hb => (X.1.2 b hb).elim fun o e => ⟨o, hp b hb o e⟩⟩, X.2.imp ?_ ?_⟩
  · (intro wq2; obtain ⟨q, L, a, cd, x, tx, m, hE, rfl, rfl, rfl, F, hm, hx⟩ := wq2)
    exact ⟨q, L, a, cd, x, tx, m, hE, rfl, rfl, rfl, ⟨F.ns.at' (hp L (List.mem_singleton_self _)), hb, F.above⟩, hm, hx⟩
  · (intro wq3; obtain ⟨V, pre, hV, hG⟩ := wq3)
    refine ⟨V, pre, hV, fun s'' h1 h2 => hG s'' (fun b hb' o e => h1 b hb' o (hp b hb' o e)) h2⟩


section
variable {prog : Program} {w : World} {A : Around} {E : Value → Shared → Prop} {h₀ : Heap} {s : Shared}
theorem setGen_setGen {s s₁ : Shared} {g : Nat} {x y : GenState} (h : s₁.gens = (s.setGen g x).gens) : (s₁.setGen g y).gens = s.gens.setIfInBounds g y := by
  show s₁.gens.setIfInBounds g y = _
  rw [h]
  show (s.gens.setIfInBounds g x).setIfInBounds g y = _
  apply Array.ext'
  simp

theorem gen_next {a : Addr} {g : Nat} {gs : GenState} {U : List (Nat × Str)} {priv : List Addr} {Q : Option Value → Shared → Prop} (hh : A.handled = none) (hl : s.heap.NoLimit) (hroom : A.depth < recursionLimit)
    (hg : s.heap.IsGen a g) (hgs : s.gens[g]? = some gs) (hk0 : ∀ b o, h₀.get? b = some o → s.heap.get? b = some o) (hpriv : ∀ b ∈ priv, h₀.get? b = none) (G : GenGoes prog w A h₀ U priv gs s.heap)
    (hend : ∀ s', U = [] → Went priv s { s' with gens := s.gens } → s'.gens = s.gens.setIfInBounds g .finished → Q none s')
    (hmore : ∀ p u U' T tp tu priv' gs' s', U = (p, u) :: U' → s'.heap.IsTuple T #[.int (p : Nat) tp, .str u tu] → Went priv s { s' with gens := s.gens } → s'.gens = s.gens.setIfInBounds g gs' →
      (∀ b ∈ priv', b ∈ priv ∨ s.heap.get? b = none) → GenGoes prog w A h₀ U' priv' gs' s'.heap → Q (some (.ref T)) s') :
    wpAny (model prog w) A (pyNext (.ref a)) Q E s := by
  have core : ∀ (V pre : List (Nat × Str)) (priv' : List Addr), V = pre ++ U → (∀ b ∈ priv', b ∈ priv ∨ s.heap.get? b = none) →
      gs.Goes (model prog w) A.in1 (GenR priv') (GenY h₀ priv' V) U.length (.send .none) (s.setGen g .running) → wpAny (model prog w) A (pyNext (.ref a)) Q E s := by
    intro V pre priv' hV hpr hgo
    have hn' : ∀ b ∈ priv', h₀.get? b = none := fun b hb => by
      rcases hpr b hb with h | h
      · exact hpriv b h
      · cases q : h₀.get? b with
        | none => rfl
        | some o => rw [hk0 b o q] at h; cases h
    have out : ∀ b o, b ∉ priv → s.heap.get? b = some o → b ∉ priv' := fun b o hb e hb' => by
      rcases hpr b hb' with h | h
      · exact hb h
      · rw [h] at e; cases e
    refine next_gen hh hl hroom hg hgs hgo (fun v s₁ gs' hb hy => ?_) (fun s₁ hp h' hk => ?_)
    · obtain ⟨T, p, u, tp, tu, hat, rfl, hT, hw, hlive, hkap⟩ := hy
      cases hU : U with
      | nil =>
        rw [hU] at hkap
        exact (hkap s₁ (fun _ _ _ e => e) (fun b o e => hw.heap b o (fun hb' => by rw [hn' b hb'] at e; cases e) (hk0 b o e))).elim
      | cons z U' =>
        subst hU
        have hz : (p, u) = z := by
          have := at_reverse pre U' z
          rw [← hV] at this
          rw [show (z :: U').length - 1 = U'.length from rfl] at hat
          rw [hat] at this
          exact Option.some.inj this
        subst hz
        refine hmore p u U' T tp tu priv' gs' _ rfl hT ⟨fun b o hb e => hw.heap b o (out b o hb e) e, rfl, hw.drawn, hw.os⟩ (setGen_setGen hw.gens) hpr ⟨⟨hb, hlive⟩, .inr ⟨V, pre ++ [(p, u)], by rw [hV, List.append_assoc]; rfl, fun s'' h1 h2 => ?_⟩⟩
        exact hkap s'' h1 h2
    · refine hend _ (List.eq_nil_of_length_eq_zero hp.1) ⟨fun b o hb e => hk b o (hp.2.heap b o (out b o hb e) e), rfl, hp.2.drawn, hp.2.os⟩ ?_
      exact setGen_setGen hp.2.gens
  rcases G.2 with ⟨q, L, a', cd, x, tx, m, hE, rfl, rfl, rfl, F, hm, hx⟩ | ⟨V, pre, hV, hG⟩
  · refine core _ [] [L, s.heap.objs.size + 1, s.heap.objs.size] rfl (fun b hb => ?_) ⟨rfl, ?_⟩
    · rcases List.mem_cons.mp hb with rfl | hb
      · exact .inl (List.mem_singleton_self _)
      · refine .inr (Heap.get?_none_of_le ?_)
        rcases List.mem_cons.mp hb with rfl | hb
        · exact Nat.le_succ _
        · rw [List.mem_singleton.mp hb]; exact Nat.le_refl _
    · exact gen_fresh (s := s.setGen g .running) (A := A.in1) hh hE F hm hx
  · exact core V pre priv hV (fun b hb => .inl hb) (hG _ (fun _ _ _ e => e) hk0)
end
end
section
theorem calm5 {M : PySem.Model} {A : PySem.Around} {Q : Unit → PySem.Shared → Prop} {E : PySem.Value → PySem.Shared → Prop} {s : PySem.Shared} (h : Q () s) : PySem.wpAny M A (pure ()) Q E s := by
  w_top off
  first | (walk1; done) | exact PySem.wpAny_pure h
/-- the generators: one of them moved on, bare -/
noncomputable def GenMoved (gs gs' : Array GenState) : Prop := AllBare gs → AllBare gs'
theorem GenMoved.refl {gs : Array GenState} : GenMoved gs gs := id
theorem GenMoved.trans {a b c : Array GenState} (x : GenMoved a b) (y : GenMoved b c) : GenMoved a c := y ∘ x
theorem GenMoved.push {gs : Array GenState} {x : GenState} (h : x.bare = true) : GenMoved gs (gs.push x) := fun y => y.push h
theorem GenMoved.set {gs : Array GenState} {g : Nat} {x : GenState} (h : x.bare = true) : GenMoved gs (gs.setIfInBounds g x) := fun y z hz => by
  obtain ⟨i, hi⟩ := Array.mem_iff_getElem?.mp hz
  rw [Array.getElem?_setIfInBounds] at hi
  split at hi
  · split at hi
    · cases hi; exact h
    · cases hi
  · exact y z (Array.mem_iff_getElem?.mpr ⟨i, hi⟩)

theorem get_set {gs : Array GenState} {g : Nat} {x : GenState} (h : g < gs.size) : (gs.setIfInBounds g x)[g]? = some x := by simp [h]

/-- how a turn of a loop ends -/
noncomputable def TurnEnd (h₀ : Heap) (L : Addr) (J : (Str → Option Value) → List (Addr × Obj) → Prop) (own : List (Addr × Obj)) (s₁ s₂ : Shared) : Prop :=
  ∃ h' tk m' news', s₂ = { s₁ with heap := h', toks := tk } ∧ Fr h₀ L h' m' ∧ News h₀ L h' news' ∧ (∀ p ∈ own, p ∈ news') ∧ J m' news'
noncomputable def TurnPost (h₀ : Heap) (L : Addr) (J : (Str → Option Value) → List (Addr × Obj) → Prop) (own : List (Addr × Obj)) (s₁ : Shared) (R : Result → Shared → Prop) (f : Flow) (s₂ : Shared) : Prop :=
  match f with
  | .ret v => R (.ok (.ret v)) s₂
  | .brk => R (.ok .next) s₂
  | _ => TurnEnd h₀ L J own s₁ s₂

section
variable {prog : Program} {w : World} {A : Around} {s : Shared} {env : Env} {h₀ : Heap}

theorem letGo_gen {target : Expr} {ag : Addr} {g : Nat} {A : Around} {E : Value → Shared → Prop} {Q : Unit → Shared → Prop} {T : Addr} {items : Array Value} (hg : s.heap.IsGen ag g) (hT : s.heap.IsTuple T items) (h : Q () s) :
    wpAny (model prog w) A (letOwnedTupleGo target (.ref ag) (.ref T)) Q E s := by
  obtain ⟨o, nm, qn, ho, hc, hd, _⟩ := hg
  obtain ⟨oT, hoT, _⟩ := hT
  unfold letOwnedTupleGo
  split
  · refine wpAny_bind (wpAny_load ho ?_)
    rw [hc, hd]
    exact wpAny_pure h
  · refine wpAny_bind (wpAny_load ho ?_)
    rw [hc, hd]
    exact wpAny_pure h
  · exact wpAny_pure h

theorem gen_for {R : Result → Shared → Prop} {xi xc : Str} {pk pv pt : Pos} {x1 : Nat} {body : List Stmt} {ag : Addr} {g : Nat} {gs : GenState} {U : List (Nat × Str)} {priv : List Addr}
    {m : Str → Option Value} {news : List (Addr × Obj)} (hh : A.handled = none) (hl : h₀.NoLimit) (hroom : A.depth < recursionLimit)
    (hxi : env.kindOf xi = some .local) (hxc : env.kindOf xc = some .local) (hp : (env.scope.kind == .class || (env.scope.kind == .module && env.locals != env.globals)) = false)
    (F : Fr h₀ env.locals s.heap m) (N : News h₀ env.locals s.heap news) (hpn : ∀ b ∈ ag :: priv, h₀.get? b = none) (hag : ag ∉ priv) (hLf : env.locals ∉ ag :: priv)
    (hon : ∀ p ∈ news, p.1 ∉ ag :: priv) (hg : s.heap.IsGen ag g) (hgs : s.gens[g]? = some gs) (G : GenGoes prog w A h₀ U priv gs s.heap)
    (J : List (Nat × Str) → (Str → Option Value) → List (Addr × Obj) → Prop) (h0 : J [] m news)
    (step : ∀ pre p u post m₁ news₁ own₁ s₁ tp tu, U = pre ++ (p, u) :: post → J pre m₁ news₁ → (∃ h gg tk, s₁ = { s with heap := h, gens := gg, toks := tk } ∧ GenMoved s.gens gg) →
      (∀ p ∈ own₁, ∀ q ∈ news₁, p.1 ≠ q.1) →
      Fr h₀ env.locals s₁.heap (fun y => if y = xc then some (.str u tu) else if y = xi then some (.int (p : Nat) tp) else m₁ y) → News h₀ env.locals s₁.heap (news₁ ++ own₁) →
      wpAny (model prog w) A (execs body env) (TurnPost h₀ env.locals (fun m₂ news₂ => ∃ news₃, (∀ q ∈ news₃, q ∈ news₂) ∧ (∀ p ∈ own₁, ∀ q ∈ news₃, p.1 ≠ q.1) ∧ J (pre ++ [(p, u)]) m₂ news₃) own₁ s₁ R) (notedBy (model prog w) A env fun e s' => R (.error e) s') s₁)
    (hR : ∀ h' gg tk m' news', Fr h₀ env.locals h' m' → News h₀ env.locals h' news' → J U m' news' → GenMoved s.gens gg → R (.ok .next) { s with heap := h', gens := gg, toks := tk }) :
    codeAny (model prog w) A (.forLoop (.Tuple [.Name xi pk, .Name xc pv] x1 pt) (.ref ag) body [] env) R s := by
  have hgz : g < s.gens.size := by
    rcases Nat.lt_or_ge g s.gens.size with h | h
    · exact h
    · rw [Array.getElem?_eq_none h] at hgs; cases hgs
  refine codeAny_forLoop_any
    (fun k s' => ∃ h' gg tk m' news' priv' gs' pre post, s' = { s with heap := h', gens := gg, toks := tk } ∧ Fr h₀ env.locals h' m' ∧ News h₀ env.locals h' news' ∧ (∀ b ∈ ag :: priv', h₀.get? b = none) ∧ ag ∉ priv' ∧ env.locals ∉ ag :: priv' ∧
      (∀ p ∈ news', p.1 ∉ ag :: priv') ∧ h'.IsGen ag g ∧ gg[g]? = some gs' ∧ GenMoved s.gens gg ∧ GenGoes prog w A h₀ post priv' gs' h' ∧ U = pre ++ post ∧ J pre m' news' ∧ k = post.length) ?_ U.length
    ⟨s.heap, s.gens, s.toks, m, news, priv, gs, [], U, rfl, F, N, hpn, hag, hLf, hon, hg, hgs, .refl, G, rfl, h0, rfl⟩
  (intro k s' wq4; obtain ⟨H, gg, tk, m', news', priv', gs', pre, post, rfl, F', N', hpn', hag', hLf', hon', hg', hgs', hgm, G', hU, hJ, rfl⟩ := wq4)
  have hLp : env.locals ∉ priv' := fun z => hLf' (List.mem_cons_of_mem _ z)
  have old : ∀ b o, h₀.get? b = some o → b ∉ priv' := fun b o e hb => by rw [hpn' b (List.mem_cons_of_mem _ hb)] at e; cases e
  have next : ∀ {s'' : Shared}, Went priv' { s with heap := H, gens := gg, toks := tk } { s'' with gens := gg } → Fr h₀ env.locals s''.heap m' ∧ News h₀ env.locals s''.heap news' := fun {s''} W =>
    ⟨⟨F'.ns.at' fun o e => W.heap _ o hLp e, fun b o e => W.heap b o (old b o e) (F'.keep b o e), F'.above⟩, fun p hp => ⟨W.heap _ _ (fun z => hon' p hp (List.mem_cons_of_mem _ z)) (N' p hp).1, (N' p hp).2⟩⟩
  refine gen_next hh (hl.keeps F'.keep) hroom hg' hgs' F'.keep (fun b hb => hpn' b (List.mem_cons_of_mem _ hb)) G' (fun s'' hnil W hgn => ?_) (fun p u U' T tp tu priv'' gs'' s'' hcons hT W hgn hpr G'' => ?_)
  · subst hnil
    obtain ⟨h'', g'', d'', t'', o''⟩ := s''
    obtain ⟨F₁, N₁⟩ := next W
    obtain ⟨_, _, hd, ho⟩ := W
    dsimp only at hd ho hgn F₁ N₁
    subst hd ho hgn
    rw [List.append_nil] at hU
    subst hU
    exact wpAny_execs_nil (hR h'' _ t'' m' news' F₁ N₁ hJ (hgm.trans (.set rfl)))
  · subst hcons
    obtain ⟨h₁, g'', d'', t₁, o''⟩ := s''
    obtain ⟨F₁, N₁⟩ := next W
    obtain ⟨hW, _, hd, ho⟩ := W
    dsimp only at hd ho hgn F₁ N₁ hT hW G''
    subst hd ho hgn
    have hg₁ : h₁.IsGen ag g := by
      obtain ⟨o, nm, qn, e, r⟩ := hg'
      exact ⟨o, nm, qn, hW ag o hag' e, r⟩
    obtain ⟨oG, _, _, hoG, _⟩ := id hg'
    have hgg : g < gg.size := by
      rcases Nat.lt_or_ge g gg.size with h | h
      · exact h
      · rw [Array.getElem?_eq_none h] at hgs'; cases hgs'
    obtain ⟨oL, _, _, hoL, _⟩ := id F'.ns
    have hpn'' : ∀ b ∈ ag :: priv'', h₀.get? b = none := fun b hb => by
      rcases List.mem_cons.mp hb with rfl | hb
      · exact hpn' _ (List.mem_cons_self ..)
      · rcases hpr b hb with h | h
        · exact hpn' b (List.mem_cons_of_mem _ h)
        · cases q : h₀.get? b with
          | none => rfl
          | some o => rw [show Heap.get? H b = some o from F'.keep b o q] at h; cases h
    have fresh : ∀ b o, H.get? b = some o → b ∉ priv' → b ∉ priv'' := fun b o e hb hb'' => by
      rcases hpr b hb'' with h | h
      · exact hb h
      · rw [show Heap.get? H b = some o from e] at h; cases h
    have hag'' : ag ∉ priv'' := fresh ag oG hoG hag'
    have hLf'' : env.locals ∉ ag :: priv'' := fun hm => by
      rcases List.mem_cons.mp hm with e | hm
      · exact hLf' (e ▸ List.mem_cons_self ..)
      · exact fresh _ oL hoL hLp hm
    have hon'' : ∀ p ∈ news', p.1 ∉ ag :: priv'' := fun p hp hm => by
      rcases List.mem_cons.mp hm with e | hm
      · exact hon' p hp (e ▸ List.mem_cons_self ..)
      · exact fresh _ _ (N' p hp).1 (fun z => hon' p hp (List.mem_cons_of_mem _ z)) hm
    refine letGo_gen hg₁ hT ?_
    refine wpAny_assign_Tuple hh hT rfl rfl fun h₃ hx₃ => ?_
    replace hx₃ : Heap.ExtBut h₁.objs.size h₁ h₃ := hx₃
    have up₃ : ∀ b o, h₁.get? b = some o → h₃.get? b = some o := fun b o x => hx₃ b o (Nat.ne_of_lt (Heap.lt_size x)) x
    have F₃ : Fr h₀ env.locals h₃ m' := ⟨F₁.ns.keeps up₃, fun b o e => up₃ b o (F₁.keep b o e), F₁.above⟩
    have N₃ : News h₀ env.locals h₃ news' := fun p hp => ⟨up₃ _ _ (N₁ p hp).1, (N₁ p hp).2⟩
    show wpAny _ A (do holding [Value.str u tu] (assign (.Name xi pk) env (Value.int p tp)); do holding [] (assign (.Name xc pv) env (Value.str u tu)); pure ()) _ _ _
    refine wpAny_bind (wpAny_holding (wpAny_assign_Name (wpAny_storeName_local hxi F₃.ns (fun h₄ hn₄ hs₄ => ?_) hp)))
    replace hs₄ : Heap.SameBut env.locals h₃ h₄ := hs₄
    have F₄ := F₃.set hn₄ hs₄
    refine wpAny_bind (wpAny_holding (wpAny_assign_Name (wpAny_storeName_local hxc F₄.ns (fun h₅ hn₅ hs₅ => wpAny_pure ?_) hp)))
    replace hs₅ : Heap.SameBut env.locals h₄ h₅ := hs₅
    have F₅ := F₄.set hn₅ hs₅
    have N₅ : News h₀ env.locals h₅ news' := (N₃.set hs₄).set hs₅
    have up₅ : ∀ b o, b ≠ env.locals → h₁.get? b = some o → h₅.get? b = some o := fun b o hb e => hs₅.extBut b o hb (hs₄.extBut b o hb (up₃ b o e))
    have hg₅ : h₅.IsGen ag g := by
      obtain ⟨o, nm, qn, e, r⟩ := hg₁
      exact ⟨o, nm, qn, up₅ ag o (fun z => hLf'' (by rw [← z]; exact List.mem_cons_self ..)) e, r⟩
    have G₅ := G''.keeps (H' := h₅) (fun b hb o e => up₅ b o (fun z => hLf'' (by rw [← z]; exact List.mem_cons_of_mem _ hb)) e) F₅.keep
    have hgm₅ : GenMoved s.gens (gg.setIfInBounds g gs'') := hgm.trans (.set G''.1.1)
    refine wpAny_mono (step pre p u U' m' news' (ownOf h₀ (ag :: priv'') h₅) _ tp tu hU hJ ⟨_, _, _, rfl, hgm₅⟩ (fun x hx q hq e => hon'' q hq (e ▸ ownOf_sub x hx)) F₅ (N₅.append (news_ownOf hLf''))) (fun f s₃ hpost => ?_) fun _ _ e => e
    have go : TurnEnd h₀ env.locals (fun m₂ news₂ => ∃ news₃, (∀ q ∈ news₃, q ∈ news₂) ∧ (∀ p ∈ ownOf h₀ (ag :: priv'') h₅, ∀ q ∈ news₃, p.1 ≠ q.1) ∧ J (pre ++ [(p, u)]) m₂ news₃) (ownOf h₀ (ag :: priv'') h₅) { s with heap := h₅, gens := gg.setIfInBounds g gs'', toks := t₁ + 1 + 1 } s₃ →
        ∃ m, m < ((p, u) :: U').length ∧ ∃ h' gg tk m' news' priv' gs' pre post, s₃ = { s with heap := h', gens := gg, toks := tk } ∧ Fr h₀ env.locals h' m' ∧ News h₀ env.locals h' news' ∧ (∀ b ∈ ag :: priv', h₀.get? b = none) ∧ ag ∉ priv' ∧ env.locals ∉ ag :: priv' ∧
      (∀ p ∈ news', p.1 ∉ ag :: priv') ∧ h'.IsGen ag g ∧ gg[g]? = some gs' ∧ GenMoved s.gens gg ∧ GenGoes prog w A h₀ post priv' gs' h' ∧ U = pre ++ post ∧ J pre m' news' ∧ m = post.length := by
      (intro wq5; obtain ⟨h₆, t₆, m₆, n₆, rfl, F₆, N₆, ho₆, n₇, hsub, hdis, hJ₆⟩ := wq5)
      have kp : ∀ b ∈ ag :: priv'', ∀ o, h₅.get? b = some o → h₆.get? b = some o := fun b hb o e => (N₆ _ (ho₆ _ (mem_ownOf hb (hpn'' b hb) e))).1
      refine ⟨U'.length, Nat.lt_succ_self _, h₆, _, t₆, m₆, n₇, priv'', gs'', pre ++ [(p, u)], U', rfl, F₆, fun q hq => N₆ q (hsub q hq), hpn'', hag'', hLf'', fun q hq hm => ?_, ?_, get_set hgg, hgm₅, G₅.keeps (fun b hb o e => kp b (List.mem_cons_of_mem _ hb) o e) F₆.keep, by rw [hU, List.append_assoc]; rfl, hJ₆, rfl⟩
      · obtain ⟨o, e⟩ : ∃ o, h₅.get? q.1 = some o := by
          rcases List.mem_cons.mp hm with z | hm
          · obtain ⟨o, _, _, e, _⟩ := hg₅; exact ⟨o, by rw [z]; exact e⟩
          · exact G₅.1.2 _ hm
        exact hdis _ (mem_ownOf hm (hpn'' _ hm) e) q hq rfl
      · obtain ⟨o, nm, qn, e, r⟩ := hg₅
        exact ⟨o, nm, qn, kp ag (List.mem_cons_self ..) o e, r⟩
    cases f with
    | ret v => exact hpost
    | brk => exact hpost
    | next => exact go hpost
    | cont => exact go hpost
end
end
section
theorem calm6 {M : PySem.Model} {A : PySem.Around} {Q : Unit → PySem.Shared → Prop} {E : PySem.Value → PySem.Shared → Prop} {s : PySem.Shared} (h : Q () s) : PySem.wpAny M A (pure ()) Q E s := by
  w_top off
  first | (walk1; done) | exact PySem.wpAny_pure h
/-- the places of the generator's text, which begins at line o -/
noncomputable def gq (o : Nat) (i : Nat) : Pos :=
  let p (l c l' c' : Nat) : Pos := ⟨o + l, c, o + l', c'⟩
  match i with
  | 0 => p 1 4 1 7 | 1 => p 1 10 1 11 | 2 => p 1 4 1 11
  | 3 => p 2 4 2 10 | 4 => p 2 13 2 18 | 5 => p 2 4 2 18
  | 7 => p 4 11 4 17
  | 8 => p 5 19 5 22 | 9 => p 5 24 5 28 | 10 => p 5 31 5 33 | 11 => p 5 24 5 33 | 12 => p 5 18 5 34 | 13 => p 5 12 5 34 | 14 => p 5 12 5 34
  | 15 => p 6 12 6 18 | 16 => p 6 21 6 26 | 17 => p 6 12 6 26
  | 18 => p 7 13 7 15 | 19 => p 7 19 7 23 | 20 => p 7 13 7 23
  | 21 => p 8 12 8 18 | 22 => p 8 21 8 25 | 23 => p 8 12 8 25
  | 24 => p 10 19 10 22 | 25 => p 10 24 10 26 | 26 => p 10 18 10 27 | 27 => p 10 12 10 27 | 28 => p 10 12 10 27
  | 29 => p 7 8 10 27 | 30 => p 4 8 10 27
  | 31 => p 3 8 3 11 | 32 => p 3 13 3 15 | 33 => p 3 8 3 15 | 34 => p 3 19 3 28 | 35 => p 3 29 3 33 | 36 => p 3 19 3 34 | 37 => p 3 4 10 27
  | 40 => p 11 7 11 13 | 41 => p 12 15 12 18 | 42 => p 12 20 12 24 | 43 => p 12 14 12 25 | 44 => p 12 8 12 25 | 45 => p 12 8 12 25 | 46 => p 11 4 12 25
  | _ => ⟨0, 0, 0, 0⟩

section
variable {prog : Program} {w : World} {A : Around} {E : Value → Shared → Prop} {s : Shared} {h₀ : Heap} {L f : Addr} {m mg mb : Str → Option Value} {news : List (Addr × Obj)} {K : Frag} {p : Program} {loose : List Str} {mean : ExcName → Option Value}

theorem enum_name {Lg a : Addr} {cd : Value} (X : K.In h₀) (T : TopRead p loose mg mb h₀) (e : nsIn K mainGlobals (Str.ofString "enumerate") = some none) : EnumName prog w h₀ Lg a cd := fun A s m pos Q F h =>
  name_B (cn := Str.ofString "_iter_escaped_chars") (cs := genScope) F X T e boot_enumerate (by decide) h

/-- a generator of the program's has been made -/
structure GenMade (prog : Program) (w : World) (A : Around) (h₀ : Heap) (L : Addr) (news : List (Addr × Obj)) (U : List (Nat × Str)) (ag Lg : Addr) (g : Nat) (gs : GenState) (s : Shared) : Prop where
  isGen : s.heap.IsGen ag g
  gen : s.gens[g]? = some gs
  goes : GenGoes prog w A h₀ U [Lg] gs s.heap
  fresh : ∀ b ∈ ag :: [Lg], h₀.get? b = none
  apart : ag ∉ [Lg]
  off : L ∉ ag :: [Lg]
  ledger : ∀ q ∈ news, q.1 ∉ ag :: [Lg]

theorem gen_make (q : Nat → Pos) {name qual : Str} {body : List Stmt} {scope : Scope} {params : Arguments} {dV kV doc pm cdv ct oc : Value} {an od : Option Addr} {osl : Array (Option Value)} {x : Str} {tx : Tok} {Q : Value → Shared → Prop}
    (F : Fr h₀ L s.heap m) (N : News h₀ L s.heap news) (X : K.In h₀) (T : Top p loose mean mg mb h₀) (hroom : A.depth < recursionLimit)
    (ho : K.lookup f = some ⟨oc, od, .func (fnOf name qual params body scope dV kV doc pm an cdv ct), osl⟩)
    (hname : name = Str.ofString "_iter_escaped_chars") (hqual : qual = Str.ofString "_iter_escaped_chars") (hbody : body = genBody q) (hscope : scope = genScope)
    (hcd : codeIn K cdv qual = true) (hen : nsIn K mainGlobals (Str.ofString "enumerate") = some none)
    (hbind : bindArgs (fnOf name qual params body scope dV kV doc pm an cdv ct) ⟨[.str x tx], []⟩ = pure [(Str.ofString "addr", .str x tx)])
    (hx : escAt x.cps.toList false = false)
    (h : ∀ ag Lg g gs h' gg tk, Fr h₀ L h' m → News h₀ L h' news → GenMoved s.gens gg → GenMade prog w A h₀ L news (units 0 x.cps.toList false) ag Lg g gs { s with heap := h', gens := gg, toks := tk } →
      Q (.ref ag) { s with heap := h', gens := gg, toks := tk }) :
    wpAny (model prog w) A (call (.ref f) [.str x tx]) Q E s := by
  subst hname hqual hbody hscope
  have hF := F.keep f _ (X _ _ ho)
  refine wpAny_call (codeAny_call_generator (body := genBody q) hroom hF rfl rfl rfl rfl (codeRec_of (X.keeps F.keep) hcd) ?_)
  rw [hbind]
  refine wpAny_pure (wpAny_newFunctionEnv (by show ∀ x ∈ genScope.names, x.2 ≠ NameKind.cell; decide) (by intro y hy; rw [List.mem_singleton.mp hy]; rfl) (fun h₁ hns hsb => ?_) rfl)
  replace hns : h₁.Ns s.heap.objs.size _ := hns
  replace hsb : Heap.SameBut s.heap.objs.size (s.heap.push { cls := .type "frame", data := .dict #[] }) h₁ := hsb
  have hz : h₁.objs.size = s.heap.objs.size + 1 := by rw [hsb.1, Heap.size_push]
  have hk₁ : ∀ b o, s.heap.get? b = some o → h₁.get? b = some o := fun b o e => hsb.extBut b o (Nat.ne_of_lt (Heap.lt_size e)) (Heap.get?_push_of_some _ e)
  refine ⟨(T.nolimit.keeps F.keep).keeps hk₁, ?_⟩
  have hL : L < s.heap.objs.size := F.ns.lt
  have ab : h₀.objs.size ≤ s.heap.objs.size := Nat.le_trans F.above (Nat.le_of_lt hL)
  have hk₂ : ∀ b o, s.heap.get? b = some o → (h₁.push { cls := .type "generator", data := .fields #[.int s.gens.size 0, .str (Str.ofString "_iter_escaped_chars") (s.toks + 1), .str (Str.ofString "_iter_escaped_chars") (s.toks + 1 + 1)] }).get? b = some o := fun b o e => Heap.get?_push_of_some _ (hk₁ b o e)
  have hlive : ∃ o, (h₁.push { cls := .type "generator", data := .fields #[.int s.gens.size 0, .str (Str.ofString "_iter_escaped_chars") (s.toks + 1), .str (Str.ofString "_iter_escaped_chars") (s.toks + 1 + 1)] }).get? s.heap.objs.size = some o := by
    obtain ⟨o, _, _, e, _⟩ := hns; exact ⟨o, Heap.get?_push_of_some _ e⟩
  refine h h₁.objs.size s.heap.objs.size s.gens.size (.fresh (.func (genBody q) (genEnv s.heap.objs.size f cdv))) _ _ _ ⟨F.ns.keeps hk₂, fun b o e => hk₂ b o (F.keep b o e), F.above⟩ (fun x hx => ⟨hk₂ _ _ (N x hx).1, (N x hx).2⟩) (.push rfl)
    ⟨⟨_, _, _, Heap.get?_push_size _ rfl, rfl, rfl, rfl⟩, by (refine (Array.getElem?_push_size ..).trans ?_; rfl), ⟨⟨rfl, fun b hb => by rw [List.mem_singleton.mp hb]; exact hlive⟩, .inl ⟨q, s.heap.objs.size, f, cdv, x, tx, _, enum_name X (topRead_of T) hen, rfl, rfl, rfl, ⟨hns.keeps fun b o e => Heap.get?_push_of_some _ e, fun b o e => hk₂ b o (F.keep b o e), ab⟩, rfl, hx⟩⟩, ?_, ?_, ?_, ?_⟩
  · intro b hb
    rcases List.mem_cons.mp hb with rfl | hb
    · exact Heap.get?_none_of_le (by rw [hz]; exact Nat.le_succ_of_le ab)
    · rw [List.mem_singleton.mp hb]; exact Heap.get?_none_of_le ab
  · intro hm
    have := List.mem_singleton.mp hm
    rw [hz] at this
    exact Nat.succ_ne_self _ this
  · intro hm
    rcases List.mem_cons.mp hm with e | hm
    · exact Nat.ne_of_lt (Nat.lt_succ_of_lt hL) (e.trans hz)
    · exact Nat.ne_of_lt hL (List.mem_singleton.mp hm)
  · intro y hy hm
    have hy1 : y.1 < s.heap.objs.size := Heap.lt_size (N y hy).1
    rcases List.mem_cons.mp hm with e | hm
    · exact Nat.ne_of_lt (Nat.lt_succ_of_lt hy1) (e.trans hz)
    · exact Nat.ne_of_lt hy1 (List.mem_singleton.mp hm)
end
end
section
theorem calm7 {M : PySem.Model} {A : PySem.Around} {Q : Unit → PySem.Shared → Prop} {E : PySem.Value → PySem.Shared → Prop} {s : PySem.Shared} (h : Q () s) : PySem.wpAny M A (pure ()) Q E s := by
  w_top off
  first | (walk1; done) | exact PySem.wpAny_pure h
noncomputable def quo : Str := Str.ofString "\""
/-- what the loop of _strip_quoted_realnames keeps: start, open_pos, result -/
noncomputable def qstep (cut : Nat → Nat → Str) (S : Nat × Option Nat × List Str) (pu : Nat × Str) : Nat × Option Nat × List Str :=
  if (pu.2 == quo) = true then match S.2.1 with
    | none => (S.1, some pu.1, S.2.2)
    | some k => (pu.1 + 1, none, if S.1 = k then S.2.2 else S.2.2 ++ [cut S.1 k])
  else S
noncomputable def qfold (cut : Nat → Nat → Str) (pre : List (Nat × Str)) : Nat × Option Nat × List Str := pre.foldl (qstep cut) (0, none, [])
noncomputable def opV (t : Tok) : Option Nat → Value
  | none => .none
  | some k => .int (k : Nat) t

theorem map4 (m : Str → Option Value) {a b c d : Str} {va vb vc vd : Value} (ha : m a = some va) (hb : m b = some vb) (hc : m c = some vc) (hd : m d = some vd) :
    m = fun y => if y = a then some va else if y = b then some vb else if y = c then some vc else if y = d then some vd else m y := by
  funext y
  split
  · rename_i h; rw [h]; exact ha
  · split
    · rename_i h; rw [h]; exact hb
    · split
      · rename_i h; rw [h]; exact hc
      · split
        · rename_i h; rw [h]; exact hd
        · rfl
theorem allLt_ne {d : Addr} : ∀ {l : List (Addr × Obj)}, AllLt d l → ∀ p ∈ l, p.1 ≠ d
  | [], _, _, h => nomatch h
  | q :: l, h, p, hm => by
    rcases List.mem_cons.mp hm with e | hm
    · rw [e]; exact Nat.ne_of_lt h.1
    · exact allLt_ne h.2 p hm
theorem qfold_snoc (cut : Nat → Nat → Str) (pre : List (Nat × Str)) (pu : Nat × Str) : qfold cut (pre ++ [pu]) = qstep cut (qfold cut pre) pu := by
  unfold qfold; rw [List.foldl_append]; rfl
/-- what holds between the turns of the loop in _strip_quoted_realnames -/
noncomputable def StripJ (x : Str) (lr : Addr) (news : List (Addr × Obj)) (S : Nat × Option Nat × List Str) (k : Nat) (m₁ : Str → Option Value) (n₁ : List (Addr × Obj)) : Prop :=
  ∃ ts to nn vs ta, n₁ = (lr, W.listOf vs nn) :: news ∧ m₁ (Str.ofString "start") = some (.int (S.1 : Nat) ts) ∧ m₁ (Str.ofString "open_pos") = some (opV to S.2.1) ∧
        m₁ (Str.ofString "result") = some (.ref lr) ∧ m₁ (Str.ofString "addr") = some (.str x ta) ∧ StrsAre vs.toList S.2.2 ∧ vs.size ≤ k
theorem strip_end {g : Heap} {L lr : Addr} {x : Str} {news own₁ tl : List (Addr × Obj)} {S : Nat × Option Nat × List Str} {k : Nat} {s₁ : Shared} {R : Result → Shared → Prop} {h' : Heap} {tk nn : Nat} {m' : Str → Option Value} {vs : Array Value} {ts to ta : Tok}
    (F : Fr g L h' m') (N : News g L h' ((lr, W.listOf vs nn) :: tl)) (htl : news ++ own₁ = tl) (hlr : ∀ p ∈ own₁, p.1 ≠ lr) (hdis : ∀ p ∈ own₁, ∀ q ∈ news, p.1 ≠ q.1)
    (e1 : m' (Str.ofString "start") = some (.int (S.1 : Nat) ts)) (e2 : m' (Str.ofString "open_pos") = some (opV to S.2.1)) (e3 : m' (Str.ofString "result") = some (.ref lr)) (e4 : m' (Str.ofString "addr") = some (.str x ta)) (hS : StrsAre vs.toList S.2.2) (hz : vs.size ≤ k) :
    TurnPost g L (fun m₂ news₂ => ∃ news₃, (∀ q ∈ news₃, q ∈ news₂) ∧ (∀ p ∈ own₁, ∀ q ∈ news₃, p.1 ≠ q.1) ∧ StripJ x lr news S k m₂ news₃) own₁ s₁ R .next { s₁ with heap := h', toks := tk } := by
  subst htl
  refine ⟨h', tk, m', _, rfl, F, N, fun p hp => by simp [hp], (lr, W.listOf vs nn) :: news, fun q hq => ?_, fun p hp q hq => ?_, ts, to, nn, vs, ta, rfl, e1, e2, e3, e4, hS, hz⟩
  · rcases List.mem_cons.mp hq with e | hq
    · rw [e]; exact List.mem_cons_self ..
    · exact List.mem_cons_of_mem _ (List.mem_append_left _ hq)
  · rcases List.mem_cons.mp hq with e | hq
    · rw [e]; exact hlr p hp
    · exact hdis p hp q hq
noncomputable abbrev cutOf (x : Str) : Nat → Nat → Str := fun a b => Txt.slice x (some (a : Int)) (some (b : Int))
/-- what _strip_quoted_realnames gives back -/
noncomputable def stripQ (x : Str) : Str :=
  if (Builtin.Str.occurrences x quo 0 x.length 1).isEmpty = true then x else
    let S := qfold (cutOf x) (units 0 x.cps.toList false)
    Txt.join (Str.ofString "") (if S.1 < x.length then S.2.2 ++ [Txt.slice x (some (S.1 : Int)) none] else S.2.2)
theorem stripQ_pos {x : Str} (h : (Builtin.Str.occurrences x quo 0 x.length 1).isEmpty = true) : stripQ x = x := by unfold stripQ; exact if_pos h
theorem stripQ_neg {x : Str} (h : (Builtin.Str.occurrences x quo 0 x.length 1).isEmpty = false) : stripQ x =
    Txt.join (Str.ofString "") (if (qfold (cutOf x) (units 0 x.cps.toList false)).1 < x.length then (qfold (cutOf x) (units 0 x.cps.toList false)).2.2 ++ [Txt.slice x (some ((qfold (cutOf x) (units 0 x.cps.toList false)).1 : Int)) none] else (qfold (cutOf x) (units 0 x.cps.toList false)).2.2) := by
  unfold stripQ; exact if_neg (by rw [h]; exact Bool.false_ne_true)
theorem qstep_le {x : Str} {S : Nat × Option Nat × List Str} (h : ∀ y ∈ S.2.2, y.length ≤ x.length) (pu : Nat × Str) : ∀ y ∈ (qstep (cutOf x) S pu).2.2, y.length ≤ x.length := by
  unfold qstep
  split
  · split
    · exact h
    · dsimp only
      split
      · exact h
      · intro y hy
        rcases List.mem_append.mp hy with hy | hy
        · exact h y hy
        · rw [List.mem_singleton.mp hy]; exact Txt.slice_le _ _ _
  · exact h
theorem qfold_le {x : Str} : ∀ (l : List (Nat × Str)) (S : Nat × Option Nat × List Str), (∀ y ∈ S.2.2, y.length ≤ x.length) → ∀ y ∈ (l.foldl (qstep (cutOf x)) S).2.2, y.length ≤ x.length
  | [], _, h => h
  | pu :: r, S, h => by rw [List.foldl_cons]; exact qfold_le r _ (qstep_le h pu)
theorem sum_le {k : Nat} : ∀ {l : List Str}, (∀ y ∈ l, y.length ≤ k) → (l.map (·.length)).sum ≤ l.length * k
  | [], _ => by simp
  | y :: r, h => by
    have h1 := h y (.head _)
    have h2 := sum_le (l := r) fun z hz => h z (.tail _ hz)
    simp only [List.map_cons, List.sum_cons, List.length_cons]
    rw [Nat.add_mul, Nat.one_mul]; omega
theorem join_weight {x : Str} {l : List Str} {n : Nat} (h : ∀ y ∈ l, y.length ≤ x.length) (hx : x.length < 1000) (hn : l.length ≤ n) (hn' : n ≤ 1010) : (l.map (·.length)).sum + l.length ≤ 1048576 := by
  have h1 := sum_le h
  have h2 : l.length * x.length ≤ 1010 * 1000 := Nat.mul_le_mul (Nat.le_trans hn hn') (Nat.le_of_lt hx)
  omega
theorem units_length : ∀ (l : List Nat) (i : Nat) (e : Bool), (units i l e).length ≤ l.length + 1
  | [], _, true => by simp [units]
  | [], _, false => by simp [units]
  | c :: r, i, true => by simp only [units, List.length_cons]; have := units_length r (i + 1) false; omega
  | c :: r, i, false => by
    simp only [units]
    split
    · have := units_length r (i + 1) true; simp only [List.length_cons]; omega
    · simp only [List.length_cons]; have := units_length r (i + 1) false; omega
theorem nm_head {h₀ h : Heap} {L d : Addr} {o : Obj} {news : List (Addr × Obj)} (_ : News h₀ L h ((d, o) :: news)) : ∃ d', d' = d := ⟨d, rfl⟩
theorem off_tail {d : Addr} {a b : List (Addr × Obj)} (ha : ∀ p ∈ a, p.1 ≠ d) (hb : ∀ p ∈ b, p.1 ≠ d) : ∀ p ∈ a ++ b, p.1 ≠ d := fun p hp => (List.mem_append.mp hp).elim (ha p) (hb p)
end
section
theorem calm8 {M : PySem.Model} {A : PySem.Around} {Q : Unit → PySem.Shared → Prop} {E : PySem.Value → PySem.Shared → Prop} {s : PySem.Shared} (h : Q () s) : PySem.wpAny M A (pure ()) Q E s := by
  w_top off
  first | (walk1; done) | exact PySem.wpAny_pure h
noncomputable def opn : Str := Str.ofString "("
noncomputable def cls : Str := Str.ofString ")"
noncomputable def ckStep (S : Option Int) (pu : Nat × Str) : Option Int := match S with
  | none => none
  | some o => if (pu.2 == opn) = true then some (o + 1) else if (pu.2 == cls) = true then (if o - 1 < 0 then none else some (o - 1)) else some o
noncomputable def ckFold (l : List (Nat × Str)) : Option Int := l.foldl ckStep (some 0)
theorem ckFold_snoc (pre : List (Nat × Str)) (pu : Nat × Str) : ckFold (pre ++ [pu]) = ckStep (ckFold pre) pu := by
  unfold ckFold; rw [List.foldl_append]; rfl
theorem ck_none : ∀ l : List (Nat × Str), l.foldl ckStep none = none
  | [] => rfl
  | _ :: r => by rw [List.foldl_cons]; exact ck_none r
theorem ckFold_none {pre post : List (Nat × Str)} (h : ckFold pre = none) : ckFold (pre ++ post) = none := by
  unfold ckFold at h ⊢; rw [List.foldl_append, h]; exact ck_none post
theorem ckFold_bound_go : ∀ (l : List (Nat × Str)) (S : Option Int) (o : Int) (k : Nat), (∀ o', S = some o' → 0 ≤ o' ∧ o' ≤ k) → l.foldl ckStep S = some o → 0 ≤ o ∧ o ≤ ((k + l.length : Nat) : Int)
  | [], S, o, k, h, e => by simpa using h o e
  | pu :: r, S, o, k, h, e => by
    rw [List.foldl_cons] at e
    have := ckFold_bound_go r _ o (k + 1) (fun o' e' => ?_) e
    · simp only [List.length_cons]; omega
    · cases S with
      | none => cases e'
      | some a =>
        have ha := h a rfl
        unfold ckStep at e'
        dsimp only at e'
        split at e'
        · cases e'; omega
        · split at e'
          · split at e'
            · cases e'
            · cases e'; omega
          · cases e'; omega
theorem ckFold_bound (l : List (Nat × Str)) (o : Int) (e : ckFold l = some o) : 0 ≤ o ∧ o ≤ (l.length : Int) := by
  have := ckFold_bound_go l _ o 0 (fun o' e' => by cases e'; exact ⟨Int.le_refl _, Int.le_refl _⟩) e
  simpa using this
/-- what _check_parenthesis gives back -/
noncomputable def chkP (x : Str) : Bool := match ckFold (units 0 (stripQ x).cps.toList false) with
  | none => false
  | some o => decide (o = 0)
theorem map1 (m : Str → Option Value) {a : Str} {va : Value} (ha : m a = some va) : m = fun y => if y = a then some va else m y := by
  funext y
  split
  · rename_i h; rw [h]; exact ha
  · rfl
noncomputable def ChkJ (news : List (Addr × Obj)) (S : Option Int) (m₁ : Str → Option Value) (n₁ : List (Addr × Obj)) : Prop :=
  ∃ o to, S = some o ∧ n₁ = news ∧ m₁ (Str.ofString "opens") = some (.int o to)
theorem chk_end {g : Heap} {L : Addr} {news own₁ : List (Addr × Obj)} {S : Option Int} {o : Int} {s₁ : Shared} {R : Result → Shared → Prop} {h' : Heap} {tk : Nat} {m' : Str → Option Value} {to : Tok}
    (F : Fr g L h' m') (N : News g L h' (news ++ own₁)) (hdis : ∀ p ∈ own₁, ∀ q ∈ news, p.1 ≠ q.1) (hS : S = some o) (e1 : m' (Str.ofString "opens") = some (.int o to)) :
    TurnPost g L (fun m₂ news₂ => ∃ news₃, (∀ q ∈ news₃, q ∈ news₂) ∧ (∀ p ∈ own₁, ∀ q ∈ news₃, p.1 ≠ q.1) ∧ ChkJ news S m₂ news₃) own₁ s₁ R .next { s₁ with heap := h', toks := tk } :=
  ⟨h', tk, m', _, rfl, F, N, fun p hp => List.mem_append_right _ hp, news, fun q hq => List.mem_append_left _ hq, hdis, o, to, hS, rfl, e1⟩
end
section
theorem calm9 {M : PySem.Model} {A : PySem.Around} {Q : Unit → PySem.Shared → Prop} {E : PySem.Value → PySem.Shared → Prop} {s : PySem.Shared} (h : Q () s) : PySem.wpAny M A (pure ()) Q E s := by
  w_top off
  first | (walk1; done) | exact PySem.wpAny_pure h
/-- the written part of the program's heap, and what every def of it may count on -/
noncomputable abbrev KK (w : World) : Frag := heap39 w.params
noncomputable abbrev PP : Program := PySem.Challenge.pw_tc0068_02
end
section
theorem calm10 {M : PySem.Model} {A : PySem.Around} {Q : Unit → PySem.Shared → Prop} {E : PySem.Value → PySem.Shared → Prop} {s : PySem.Shared} (h : Q () s) : PySem.wpAny M A (pure ()) Q E s := by
  w_top off
  first | (walk1; done) | exact PySem.wpAny_pure h
open PySem PySem.W PyProof.Rows Builtin Builtin.List
set_option maxHeartbeats 4000000

noncomputable abbrev accObj (C dx : Addr) (its : Array Value) (n : Nat) : Obj := { cls := .ref C, dict := some dx, data := .seq its n }

section
variable {prog : Program} {w : World} {A : Around} {s : Shared} {E : Value → Shared → Prop}

theorem check_listM {M : Model} {A : Around} {E : Value → Shared → Prop} {s : Shared} {i n : String} {self : Value} {rest : List Value} {Q : Unit → Shared → Prop}
    (hk : builtinKind i = some .method) (hs : splitId i = some ("list", n)) (hi : Looks M s.heap (isInstance self (.type "list")) true) (ha : argsOk i ⟨self :: rest, []⟩) (q : Q () s) :
    wpAny M A (checkBuiltinCall i ⟨self :: rest, []⟩) Q E s := by
  simp only [checkBuiltinCall, hk, hs]
  refine wpAny_bind (hi.here ?_)
  simp only [Bool.not_true, Bool.false_eq_true, if_false]
  cases hsig : Manifest.signature? i with
  | none => exact wpAny_pure q
  | some sig =>
    simp only [argsOk, hsig] at ha
    have h2 : Bind.checkArgs i sig ⟨self :: rest, []⟩ = pure () := ha
    show wpAny M A (Bind.checkArgs i sig ⟨self :: rest, []⟩) Q E s
    rw [h2]; exact wpAny_pure q

noncomputable def FinIs (prog : Program) (w : World) (A : Around) (Q : Value → Shared → Prop) (E : Value → Shared → Prop) (fin : Fin) (s' : Shared) : Prop :=
  match fin with
  | .done (.ret v) => Q v s'
  | .done _ => False
  | .again c' => c'.quiet = true ∧ codeAny (model prog w) A c' (wants Q E) s'

theorem fin_of {A B : Around} {Q : Value → Shared → Prop} {E : Value → Shared → Prop} {m : Sem Fin} {s : Shared} (h : wpAny (model prog w) B m (FinIs prog w A Q E) E s) :
    wpAny (model prog w) B m (fun fin s' => match fin with | .done f => wants Q E (.ok f) s' | .again c' => c'.quiet = true ∧ codeAny (model prog w) A c' (wants Q E) s') (fun e s' => wants Q E (.error e) s') s :=
  wpAny_mono h (fun fin s' z => by
    cases fin with
    | done f => cases f <;> first | exact z | exact z.elim
    | again c => exact z) fun _ _ z => z

theorem accM_call {i n : String} {b : Builtin} {self : Value} {rest : List Value} {Q : Value → Shared → Prop}
    (hp : plainId i = true) (he : entryFor table i = some b) (hk : builtinKind i = some .method) (hs : splitId i = some ("list", n)) (ha : argsOk i ⟨self :: rest, []⟩)
    (hi : Looks (model prog w) s.heap (isInstance self (.type "list")) true)
    (h : wpAny (model prog w) A.in1 (b ⟨self :: rest, []⟩) (FinIs prog w A Q E) E s) :
    wpAny (model prog w) A (call (.builtin i) (self :: rest)) Q E s := by
  exact wpAny_call (codeAny_call_builtin (R := wants Q E) hp he (check_listM hk hs hi ha (fin_of h)))
theorem accS_call {i n : String} {b : Builtin} {self : Value} {rest : List Value} {Q : Value → Shared → Prop}
    (hp : plainId i = true) (he : entryFor table i = some b) (hk : builtinKind i = some .slot) (hs : splitId i = some ("list", n)) (ha : argsOk i ⟨self :: rest, []⟩)
    (hi : Looks (model prog w) s.heap (isInstance self (.type "list")) true)
    (h : wpAny (model prog w) A.in1 (b ⟨self :: rest, []⟩) (FinIs prog w A Q E) E s) :
    wpAny (model prog w) A (call (.builtin i) (self :: rest)) Q E s := by
  exact wpAny_call (codeAny_call_builtin (R := wants Q E) hp he (check_slot hk hs hi ha (fin_of h)))
end

namespace AF
theorem e_append : entryFor table "list.append" = some Builtin.«list.append» := entryFor_of_tree (by kernel_rfl)
theorem a_append (a b : Value) : argsOk "list.append" ⟨[a, b], []⟩ := by unfold argsOk; kernel_rfl
theorem e_pop : entryFor table "list.pop" = some Builtin.«list.pop» := entryFor_of_tree (by kernel_rfl)
theorem a_pop (a : Value) : argsOk "list.pop" ⟨[a], []⟩ := by unfold argsOk; kernel_rfl
theorem e_len : entryFor table "list.__len__" = some Builtin.«list.__len__» := entryFor_of_tree (by kernel_rfl)
theorem a_len (a : Value) : argsOk "list.__len__" ⟨[a], []⟩ := by unfold argsOk; kernel_rfl
theorem e_init : entryFor table "list.__init__" = some Builtin.«list.__init__» := entryFor_of_tree (by kernel_rfl)
theorem a_init (a : Value) : argsOk "list.__init__" ⟨[a], []⟩ := by unfold argsOk; kernel_rfl
theorem e_get : entryFor table "list.__getitem__" = some Builtin.«list.__getitem__» := entryFor_of_tree (by kernel_rfl)
theorem a_get (a b : Value) : argsOk "list.__getitem__" ⟨[a, b], []⟩ := by unfold argsOk; kernel_rfl
theorem e_set : entryFor table "list.__setitem__" = some Builtin.«list.__setitem__» := entryFor_of_tree (by kernel_rfl)
theorem a_set (a b c : Value) : argsOk "list.__setitem__" ⟨[a, b, c], []⟩ := by unfold argsOk; kernel_rfl
theorem e_iter : entryFor table "list.__iter__" = some Builtin.«list.__iter__» := entryFor_of_tree (by kernel_rfl)
theorem a_iter (a : Value) : argsOk "list.__iter__" ⟨[a], []⟩ := by unfold argsOk; kernel_rfl
theorem k_append : builtinKind "list.append" = some .method := by decide +kernel
theorem k_pop : builtinKind "list.pop" = some .method := by decide +kernel
theorem k_len : builtinKind "list.__len__" = some .slot := by decide +kernel
theorem k_init : builtinKind "list.__init__" = some .slot := by decide +kernel
theorem k_set : builtinKind "list.__setitem__" = some .slot := by decide +kernel
theorem k_iter : builtinKind "list.__iter__" = some .slot := by decide +kernel
theorem k_get : builtinKind "list.__getitem__" = some .method := by decide +kernel
end AF

section
variable {prog : Program} {w : World} {A B : Around} {E : Value → Shared → Prop} {C dx x : Addr} {its : Array Value} {n : Nat} {h : Heap} {g : Array GenState} {d : Drawn} {t : Nat} {os : OsState}
theorem accB_len {Q : Value → Shared → Prop} (hx : h.get? x = some (accObj C dx its n)) (q : Q (.int its.size t) ⟨h, g, d, t + 1, os⟩) :
    wpAny (model prog w) B (Builtin.«list.__len__» ⟨[.ref x], []⟩) (FinIs prog w A Q E) E ⟨h, g, d, t, os⟩ := by
  unfold Builtin.«list.__len__»
  wp_walk
  exact q
theorem accB_append {v : Value} {Q : Value → Shared → Prop} (hx : h.get? x = some (accObj C dx its n)) (hz : its.size ≤ 1000)
    (q : Q .none ⟨h.update x (Obj.mapSeq fun y => y.push v), g, d, t, os⟩) :
    wpAny (model prog w) B (Builtin.«list.append» ⟨[.ref x, v], []⟩) (FinIs prog w A Q E) E ⟨h, g, d, t, os⟩ := by
  have hsz : its.size ≤ sizeLine := by rw [sizeLine_eq]; omega
  have hz' : (its.push v).size ≤ sizeLine + 1 := by rw [Array.size_push]; omega
  unfold Builtin.«list.append»
  wp_walk using (wpAny_updateSeq hx rfl (hz := hsz) (_hz' := hz'))
  exact q
end
end
section
theorem calm11 {M : PySem.Model} {A : PySem.Around} {Q : Unit → PySem.Shared → Prop} {E : PySem.Value → PySem.Shared → Prop} {s : PySem.Shared} (h : Q () s) : PySem.wpAny M A (pure ()) Q E s := by
  w_top off
  first | (walk1; done) | exact PySem.wpAny_pure h
open PySem PySem.W PyProof.Rows Builtin Builtin.List
set_option maxHeartbeats 4000000

section
variable {prog : Program} {w : World} {M : Model} {A : Around} {E : Value → Shared → Prop} {s : Shared} {K : Frag} {x C L : Addr} {h₀ : Heap} {m : Str → Option Value} {ox : Obj} {od : Option Obj} {name : Str}

theorem bind_bi {h : Heap} (X : K.In h) {i : String} {t : String} (self : Value) (e : typeIn K (.builtin i) = some (.type t)) (ht : (t == "method_descriptor" || t == "wrapper_descriptor") = true) : Looks M h (bindSpecial (.builtin i) self) (.builtin i, [self]) := by
  unfold bindSpecial
  refine (looks_typeIn X e).andThen (Looks.of_pure ?_)
  rcases Bool.or_eq_true_iff.mp ht with q | q <;> (rw [beq_iff_eq.mp q]; kernel_rfl)


theorem special_bi {i : String} {t : String} {args : List Value} {Q : Option Value → Shared → Prop} (X : K.In s.heap) (I : InstAt s.heap x ox C od)
    (hs : findIn K (.ref C) name = some (some (.builtin i))) (hf : typeIn K (.builtin i) = some (.type t)) (ht : (t == "method_descriptor" || t == "wrapper_descriptor") = true) (h : wpAny M A (call (.builtin i) (.ref x :: args)) (fun v => Q (some v)) E s) :
    wpAny M A (callSpecial? (.ref x) name args) Q E s :=
  wpAny_bind (wpAny_bind (I.type.here ((looks_findIn X hs).here (wpAny_holding (wpAny_bind ((bind_bi X _ hf ht).here (wpAny_bind (wpAny_mono h (fun _ _ z => wpAny_pure z) fun _ _ z => z))))))))

theorem getItem_bi {i t : String} {v : Value} {Q : Value → Shared → Prop} (X : K.In s.heap) (I : InstAt s.heap x ox C od) (hq : noSeq K C = true) (hs : findIn K (.ref C) "__getitem__" = some (some (.builtin i))) (hf : typeIn K (.builtin i) = some (.type t)) (ht : (t == "method_descriptor" || t == "wrapper_descriptor") = true)
    (h : wpAny M A (call (.builtin i) [.ref x, v]) Q E s) : wpAny M A (getItem (.ref x) v) Q E s := by
  unfold getItem sequenceKey
  refine wpAny_holding (wpAny_bind (wpAny_bind (I.type.here ?_)))
  refine wpAny_bind ((anyM_none X hq).here ?_)
  rw [if_pos (show (!false) = true from rfl)]
  exact wpAny_pure (wpAny_bind (special_bi X I hs hf ht (wpAny_mono h (fun _ _ z => wpAny_pure z) fun _ _ z => z)))

theorem setItem_bi {i t : String} {v y : Value} {Q : Unit → Shared → Prop} (X : K.In s.heap) (I : InstAt s.heap x ox C od) (hq : noSeq K C = true) (hs : findIn K (.ref C) "__setitem__" = some (some (.builtin i))) (hf : typeIn K (.builtin i) = some (.type t)) (ht : (t == "method_descriptor" || t == "wrapper_descriptor") = true)
    (h : wpAny M A (call (.builtin i) [.ref x, v, y]) (fun _ => Q ()) E s) : wpAny M A (setItem (.ref x) v y) Q E s := by
  unfold setItem sequenceKey
  refine wpAny_holding (wpAny_bind (wpAny_bind (I.type.here ?_)))
  refine wpAny_bind ((anyM_none X hq).here ?_)
  rw [if_pos (show (!false) = true from rfl)]
  exact wpAny_pure (wpAny_bind (special_bi X I hs hf ht (wpAny_mono h (fun _ _ z => wpAny_pure z) fun _ _ z => z)))

theorem subTail_bi {i t : String} {value slice : Expr} {v : Value} {ops : List Value} {Q : Value → Shared → Prop} (X : K.In s.heap) (I : InstAt s.heap x ox C od) (hq : noSeq K C = true) (hs : findIn K (.ref C) "__getitem__" = some (some (.builtin i))) (hf : typeIn K (.builtin i) = some (.type t)) (ht : (t == "method_descriptor" || t == "wrapper_descriptor") = true)
    (h : wpAny M A (call (.builtin i) [.ref x, v]) (fun r s' => wpAny M A (letTemporaryGo value (.ref x) r) (fun _ => Q r) E s') E s) (hsub : subscripted slice false (.ref x) v = operate ops (getItem (.ref x) v)) : wpAny M A (subscriptTail value slice (.ref x) v) Q E s := by
  unfold subscriptTail getitemInPython
  refine wpAny_bind (wpAny_bind (wpAny_bind (I.type.here ((looks_findIn X hs).here ?_))))
  refine wpAny_pure ?_
  rw [hsub]
  refine wpAny_bind (wpAny_operating (getItem_bi X I hq hs hf ht (wpAny_mono h (fun _ _ z => ?_) fun _ _ z => z)))
  exact wpAny_bind (wpAny_mono z (fun _ _ z => wpAny_pure z) fun _ _ z => z)

theorem inst_list {h : Heap} (X : K.In h) (I : InstAt h x ox C od) (e : subIn K (.ref C) (.type "list") = some true) : Looks M h (isInstance (.ref x) (.type "list")) true := I.type.andThen (looks_subIn X e)
end

section
variable {prog : Program} {w : World} {A B : Around} {E : Value → Shared → Prop} {C dx x : Addr} {its : Array Value} {n : Nat} {h : Heap} {g : Array GenState} {d : Drawn} {t : Nat} {os : OsState}
theorem accB_init {Q : Value → Shared → Prop} (hx : h.get? x = some (accObj C dx #[] n))
    (q : Q .none ⟨h.update x (Obj.mapSeq fun _ => #[]), g, d, t, os⟩) :
    wpAny (model prog w) B (Builtin.«list.__init__» ⟨[.ref x], []⟩) (FinIs prog w A Q E) E ⟨h, g, d, t, os⟩ := by
  have hsz : (#[] : Array Value).size ≤ sizeLine := by rw [sizeLine_eq]; decide
  have hz' : (#[] : Array Value).size ≤ sizeLine + 1 := by rw [sizeLine_eq]; decide
  unfold Builtin.«list.__init__»
  wp_walk using (wpAny_updateSeq hx rfl (hz := hsz) (_hz' := hz'))
  exact q
theorem popd {ys : Array Value} {v : Value} : (ys.push v).eraseIdxIfInBounds ys.size = ys := by
  unfold Array.eraseIdxIfInBounds
  rw [dif_pos (by simp)]
  apply Array.ext'
  rw [Array.toList_eraseIdx, Array.toList_push, List.eraseIdx_append_of_length_le (by simp)]
  simp

theorem accB_pop {v : Value} {ys : Array Value} {Q : Value → Shared → Prop} (hx : h.get? x = some (accObj C dx (ys.push v) n)) (hz : ys.size ≤ 1000)
    (q : Q v ⟨h.update x (Obj.mapSeq fun y => y.eraseIdxIfInBounds ys.size), g, d, t, os⟩) :
    wpAny (model prog w) B (Builtin.«list.pop» ⟨[.ref x], []⟩) (FinIs prog w A Q E) E ⟨h, g, d, t, os⟩ := by
  have hsz : (ys.push v).size ≤ sizeLine := by rw [sizeLine_eq, Array.size_push]; omega
  have hz' : ((ys.push v).eraseIdxIfInBounds ys.size).size ≤ sizeLine + 1 := by rw [popd, sizeLine_eq]; omega
  have e0 : (ys.push v).isEmpty = false := by simp
  have e1 : ((seqIndex? (-1) (ys.push v).size).bind fun k => (ys.push v)[k]?.map (k, ·)) = some (ys.size, v) := by
    have : seqIndex? (-1) (ys.push v).size = some ys.size := by unfold seqIndex?; simp; omega
    rw [this]; simp
  unfold Builtin.«list.pop»
  wp_walk using (wpAny_updateSeq hx rfl (hz := hsz) (_hz' := hz'))
  rw [e1]
  dsimp only
  unfold listUpdate
  refine wpAny_bind (wpAny_updateSeq hx rfl (hz := hsz) (_hz' := hz') ?_)
  exact wpAny_pure q

theorem accB_get {k : Int} {tk : Tok} {v : Value} {Q : Value → Shared → Prop} (hx : h.get? x = some (accObj C dx its n)) (h0 : 0 ≤ k) (hfit : k < 2 ^ 63) (hv : its[k.toNat]? = some v) (q : Q v ⟨h, g, d, t, os⟩) :
    wpAny (model prog w) B (Builtin.«list.__getitem__» ⟨[.ref x, .int k tk], []⟩) (FinIs prog w A Q E) E ⟨h, g, d, t, os⟩ := by
  show wpAny _ _ (listSubscript? (.int k tk) >>= _) _ _ _
  refine wpAny_bind (wpAny_listSubscript_int (fitsIndex_of h0 hfit) ?_)
  clear hfit
  obtain ⟨j, rfl⟩ := Int.eq_ofNat_of_zero_le h0
  have hx' : its[j]? = some v := hv
  show wpAny _ _ ((seqItemAt x j >>= fun r => pure (r.map (j, ·))) >>= _) _ _ _
  refine wpAny_bind (wpAny_bind (wpAny_seqItemAt hx rfl (wpAny_pure ?_)))
  rw [hx']
  exact wpAny_pure q

theorem slice_parts {sl : Addr} {vl vu : Value} {lo hi : Option Int} {s : Shared} {Q : Value × Value × Value → Shared → Prop} (hs : s.heap.IsSliceOf sl vl vu .none) (pl : IsPart vl lo) (pu : IsPart vu hi) (q : Q (rawPart lo, rawPart hi, rawPart none) s) :
    wpAny (model prog w) A (listSliceParts (.ref sl)) Q E s := by
  obtain ⟨os, hos, hcs, hds⟩ := id hs
  rw [listSliceParts_eq]
  refine wpAny_bind (wpAny_field hos hds (x := .none) rfl (wpAny_bind (wpAny_listPart .none ?_)))
  dsimp only
  rw [if_neg (show ¬ ((rawPart none == rawInt 0) = true) from Bool.false_ne_true)]
  refine wpAny_bind (wpAny_field hos hds (x := vl) rfl (wpAny_bind (wpAny_listPart pl ?_)))
  exact wpAny_bind (wpAny_field hos hds (x := vu) rfl (wpAny_bind (wpAny_listPart pu (wpAny_pure q))))

theorem accB_slice {sl : Addr} {vl vu : Value} {lo hi : Option Int} {Q : Value → Shared → Prop} (hx : h.get? x = some (accObj C dx its n)) (hs : h.IsSliceOf sl vl vu .none) (pl : IsPart vl lo) (pu : IsPart vu hi) (hz : its.size ≤ 1000)
    (q : Q (.ref h.objs.size) ⟨h.push (listOf (slicePick its lo hi none) 0), g, d, t, os⟩) :
    wpAny (model prog w) B (Builtin.«list.__getitem__» ⟨[.ref x, .ref sl], []⟩) (FinIs prog w A Q E) E ⟨h, g, d, t, os⟩ := by
  obtain ⟨os', hos, hcs, hds⟩ := id hs
  have hTs : Shared.TypeIs ⟨h, g, d, t, os⟩ (.ref sl) "slice" := ⟨os', hos, hcs⟩
  show wpAny _ _ (listSubscript? (.ref sl) >>= _) _ _ _
  refine wpAny_bind ?_
  unfold listSubscript?
  refine wpAny_bind (wpAny_specialOf hTs slice_no_index ?_)
  simp only [Option.isNone_none, if_true]
  refine wpAny_pure ?_
  show wpAny _ _ (typeOf (.ref sl) >>= _) _ _ _
  refine wpAny_bind (wpAny_typeOf hTs ?_)
  rw [if_neg (by decide)]
  refine wpAny_bind (slice_parts (s := ⟨h, g, d, t, os⟩) hs pl pu ?_)
  refine wpAny_bind (m := listItems (.ref x)) ?_
  unfold listItems
  refine wpAny_bind (wpAny_seqItems hx rfl (wpAny_pure ?_))
  refine wpAny_bind (wpAny_of_eq (sliceIndices_raw lo hi none its.size (by simp)) ?_)
  exact wpAny_bind (wpAny_newObj_type (wpAny_pure q) (Nat.le_trans (slicePick_size_le its lo hi none) (by rw [sizeLine_eq]; omega)))

theorem accB_store {sl l : Addr} {vl vu : Value} {lo hi : Option Int} {ys : Array Value} {k : Nat} {Q : Value → Shared → Prop} (hx : h.get? x = some (accObj C dx its n)) (hs : h.IsSliceOf sl vl vu .none) (pl : IsPart vl lo) (pu : IsPart vu hi)
    (hl : h.get? l = some (listOf ys k)) (hz : its.size + ys.size ≤ 1000) (a b : Nat) (hab : sliceBounds lo hi none its.size = ((a : Int), (b : Int), 1)) (hb : b ≤ its.size) (hle : a ≤ b)
    (q : Q .none ⟨h.update x (Obj.mapSeq fun xs => xs.extract 0 a ++ ys ++ xs.extract b xs.size), g, d, t, os⟩) (hne : x ≠ l) :
    wpAny (model prog w) B (Builtin.«list.__setitem__» ⟨[.ref x, .ref sl, .ref l], []⟩) (FinIs prog w A Q E) E ⟨h, g, d, t, os⟩ := by
  obtain ⟨os', hos, hcs, hds⟩ := id hs
  have hTs : Shared.TypeIs ⟨h, g, d, t, os⟩ (.ref sl) "slice" := ⟨os', hos, hcs⟩
  have hTl : Shared.TypeIs ⟨h, g, d, t, os⟩ (.ref l) "list" := ⟨_, hl, rfl⟩
  show wpAny _ _ (listSubscript? (.ref sl) >>= _) _ _ _
  refine wpAny_bind ?_
  unfold listSubscript?
  refine wpAny_bind (wpAny_specialOf hTs slice_no_index ?_)
  simp only [Option.isNone_none, if_true]
  refine wpAny_pure ?_
  show wpAny _ _ (typeOf (.ref sl) >>= _) _ _ _
  refine wpAny_bind (wpAny_typeOf hTs ?_)
  rw [if_neg (by decide)]
  refine wpAny_bind (slice_parts (s := ⟨h, g, d, t, os⟩) hs pl pu ?_)
  dsimp only
  have e1 : listSameRef (.ref x) (.ref l) = false := by unfold listSameRef; simpa using hne
  rw [e1]
  unfold listAllItems
  rw [if_neg Bool.false_ne_true]
  refine wpAny_bind (wpAny_bind (wpAny_typeOf hTl ?_))
  rw [if_pos (by decide)]
  unfold listItems
  refine wpAny_bind (wpAny_seqItems hl rfl (wpAny_pure ?_))
  refine wpAny_bind (wpAny_bind (wpAny_seqItems hx rfl (wpAny_pure ?_)))
  refine wpAny_bind (wpAny_of_eq ((sliceIndices_raw lo hi none its.size (by simp)).trans (by rw [hab])) ?_)
  dsimp only
  rw [if_pos (by decide)]
  refine wpAny_bind (wpAny_rule ?_)
  rw [if_neg (by unfold listTooLong; rw [sizeLine_eq]; simp; omega)]
  rw [show (max (a : Int) (b : Int)).toNat = b by omega, Int.toNat_natCast]
  unfold listUpdate
  refine wpAny_bind (wpAny_updateSeq hx rfl ?_ (by rw [sizeLine_eq]; omega) (by rw [sizeLine_eq]; simp; omega))
  refine wpAny_bind (wpAny_letGo ?_)
  exact wpAny_pure q
end
end
section
theorem calm12 {M : PySem.Model} {A : PySem.Around} {Q : Unit → PySem.Shared → Prop} {E : PySem.Value → PySem.Shared → Prop} {s : PySem.Shared} (h : Q () s) : PySem.wpAny M A (pure ()) Q E s := by
  w_top off
  first | (walk1; done) | exact PySem.wpAny_pure h
open PySem PySem.W PyProof.Rows Builtin Builtin.List
set_option maxHeartbeats 4000000

noncomputable def SeqAt (h : Heap) (a : Addr) (items : Array Value) : Prop := ∃ o, h.get? a = some o ∧ ∃ n, o.data = .seq items n
theorem SeqAt.at {h h' : Heap} {a : Addr} {items : Array Value} (x : SeqAt h a items) (k : ∀ o, h.get? a = some o → h'.get? a = some o) : SeqAt h' a items := let ⟨o, e, r⟩ := x; ⟨o, k o e, r⟩

section
variable {prog : Program} {w : World} {A : Around} {E : Value → Shared → Prop} {s : Shared}

theorem seqNext_item {it l : Addr} {i : Nat} {items : Array Value} {x : Value} {Q : Option Value → Shared → Prop} (hit : s.heap.IsListIter it l i) (hl : SeqAt s.heap l items) (hx : items[i]? = some x)
    (hQ : ∀ h', h'.IsListIter it l (i + 1) → Heap.SameBut it s.heap h' → Q (some x) { s with heap := h' }) : wpAny (model prog w) A (pyNext (.ref it)) Q E s := by
  obtain ⟨o, ho, hc, hd⟩ := id hit
  obtain ⟨ol, hol, nl, hdl⟩ := hl
  unfold pyNext
  refine wpAny_bind (wpAny_attempt (wpAny_callSpecial?_slot (name := Str.ofString "__next__") hit.typeIs slot_listiter_next
    (wpAny_call_entry slot_listiter_next hit.typeIs entry_listiter_next ?_ (args_listiter_next _))))
  show wpAny _ _ (field (.ref it) 0 >>= _) _ _ s
  refine wpAny_bind (wpAny_field ho hd (x := .ref l) rfl ?_)
  show wpAny _ _ (if (Value.ref l == Value.none) = true then _ else _) _ _ s
  rw [if_neg (show ¬ ((Value.ref l == Value.none) = true) from Bool.false_ne_true)]
  show wpAny _ _ (field (.ref it) 1 >>= _) _ _ s
  refine wpAny_bind (wpAny_field ho hd (x := .int i 0) rfl ?_)
  show wpAny _ _ (seqItems? (.ref l) >>= _) _ _ s
  refine wpAny_bind (wpAny_seqItems hol hdl ?_)
  simp only [Int.toNat_natCast, hx]
  refine wpAny_bind (wpAny_setField ho hd (by simp) (wpAny_pure ⟨x, rfl, wpAny_pure (hQ _ ?_ (Heap.SameBut.update ..))⟩))
  exact ⟨_, Heap.get?_update_self _ ho (Obj.isFreed_of_fields (Obj.data_mapFields hd _)), (Obj.cls_mapFields ..).trans hc, by
    rw [Obj.data_mapFields hd]; simp [rawInt]⟩

theorem seqNext_end {it l : Addr} {i : Nat} {items : Array Value} {Q : Option Value → Shared → Prop} (hh : A.handled = none) (hit : s.heap.IsListIter it l i) (hl : SeqAt s.heap l items) (hx : items[i]? = none)
    (hQ : ∀ h', Heap.ExtBut it s.heap h' → Q none { s with heap := h' }) : wpAny (model prog w) A (pyNext (.ref it)) Q E s := by
  obtain ⟨o, ho, hc, hd⟩ := id hit
  obtain ⟨ol, hol, nl, hdl⟩ := hl
  unfold pyNext
  refine wpAny_bind (wpAny_attempt (wpAny_callSpecial?_slot (name := Str.ofString "__next__") hit.typeIs slot_listiter_next
    (wpAny_call_entry slot_listiter_next hit.typeIs entry_listiter_next ?_ (args_listiter_next _))))
  show wpAny _ _ (field (.ref it) 0 >>= _) _ _ s
  refine wpAny_bind (wpAny_field ho hd (x := .ref l) rfl ?_)
  show wpAny _ _ (if (Value.ref l == Value.none) = true then _ else _) _ _ s
  rw [if_neg (show ¬ ((Value.ref l == Value.none) = true) from Bool.false_ne_true)]
  show wpAny _ _ (field (.ref it) 1 >>= _) _ _ s
  refine wpAny_bind (wpAny_field ho hd (x := .int i 0) rfl ?_)
  show wpAny _ _ (seqItems? (.ref l) >>= _) _ _ s
  refine wpAny_bind (wpAny_seqItems hol hdl ?_)
  simp only [Int.toNat_natCast, hx]
  refine wpAny_bind (wpAny_rule (wpAny_bind (wpAny_setField ho hd (by simp) ?_)))
  show wpAny _ _ (newExc (.type "StopIteration") [] >>= _) _ _ _
  refine wpAny_bind ?_
  simp only [newExc, newTuple]
  refine wpAny_bind (wpAny_newObj_type ?_ (by size_fits))
  refine wpAny_bind (m := firstArgMember _ _) (wpAny_of_eq (a := Value.none) (by first | rfl | (simp only [firstArgMember]; rfl)) ?_)
  refine wpAny_newObj_type ?_ (by size_fits)
  simp only [raiseNew]
  refine wpAny_bind (wpAny_handled ?_)
  rw [show A.in1.handled = none from hh]
  refine wpAny_bind (wpAny_pure (wpAny_throw ?_))
  refine wpAny_bind (wpAny_isInstance (T := "StopIteration") (b := true) ⟨_, Heap.get?_push_size _ rfl, rfl⟩ isSubtype_stop ?_)
  exact wpAny_pure (hQ _ (((Heap.SameBut.update ..).extBut.push _).push _))
end

theorem walks_seq {prog : Program} {w : World} {A : Around} (hh : A.handled = none) (I ax : Addr) (hne : ax ≠ I) (items : Array Value) (Ts : Nat → Addr) (vals : Nat → Array Value)
    (hit : ∀ j, j < items.size → items[j]? = some (.ref (Ts j))) (hTI : ∀ j, j < items.size → Ts j ≠ I) :
    WalksU prog w A I (I :: ax :: (List.range items.size).map Ts) [I] items.size (fun j v => v = vals j)
      (fun j h => h.IsListIter I ax j ∧ SeqAt h ax items ∧ ∀ k, k < items.size → h.IsTuple (Ts k) (vals k))
      (fun j T h => (j < items.size ∧ T = Ts j) ∧ h.IsListIter I ax (j + 1) ∧ SeqAt h ax items ∧ ∀ k, k < items.size → h.IsTuple (Ts k) (vals k)) where
  sub := fun b hb => by simp at hb; simp [hb]
  frame := fun _ _ _ st hk => ⟨st.1.at fun o e => hk I (by simp) o e, st.2.1.at fun o e => hk ax (by simp) o e,
    fun k hk' => (st.2.2 k hk').at fun o e => hk (Ts k) (List.mem_cons_of_mem _ (List.mem_cons_of_mem _ (List.mem_map.mpr ⟨k, List.mem_range.mpr hk', rfl⟩))) o e⟩
  item := fun i s Q E hi st hQ => by
    refine seqNext_item st.1 st.2.1 (x := .ref (Ts i)) (hit i hi) fun h' hit' hs' => ?_
    have tup : ∀ k, k < items.size → h'.IsTuple (Ts k) (vals k) := fun k hk' => (st.2.2 k hk').extBut hs'.extBut (hTI k hk')
    exact hQ (Ts i) (vals i) h' s.toks rfl (tup i hi) ⟨⟨hi, rfl⟩, hit', st.2.1.at fun o e => hs'.extBut _ o hne e, tup⟩ fun b o hb e => hs'.extBut b o (fun h => hb (by simp [h])) e
  go := fun _ _ _ _ _ s Q _ hm hQ => wpAny_letOwnedTupleGo_listiter hm.2.1 (hQ s.heap hm.2 fun _ _ _ e => e)
  apart := fun j T _ hm hmem => by
    rcases List.mem_cons.mp hmem with e | e
    · exact hTI j hm.1.1 (hm.1.2 ▸ e)
    · cases e
  done := fun s Q E st hQ => seqNext_end hh st.1 st.2.1 (by simp) fun h' he' => hQ h' s.toks fun b o hb e => he' b o (fun h => hb (by simp [h])) e
  self := fun _ _ _ _ st hQ => wpAny_pyIter_listiter st.1 hQ

theorem args_sum2 (a b : Value) : argsOk "sum" ⟨[a, b], []⟩ := by unfold argsOk; kernel_rfl

section
variable {prog : Program} {w : World} {A : Around} {E : Value → Shared → Prop} {s : Shared}
theorem call_sum_0 {x : Value} {tk : Tok} {Q : Value → Shared → Prop}
    (h : wpAny (model prog w) A.in1 (pyIter x) (fun it s₂ => ∃ I fp wr G n P St val, it = .ref I ∧ WalksS prog w A.in1 I fp wr G n P St ∧ St 0 s₂ ∧ (∀ b ∈ fp, b < s₂.heap.objs.size) ∧
      (∀ i v, P i v → ∃ t, v = .int (val i) t) ∧ (∀ j, j < n → InLong (val j) ∧ InLong (preSum val (j + 1))) ∧
      ∀ s' t', Moved wr G s₂ s' → Q (.int (preSum val n) t') s') E s) :
    wpAny (model prog w) A (call (.builtin "sum") [x, .int 0 tk]) Q E s := by
  refine call_function_tree F.kind_sum F.plain_sum F.entry_sum (args_sum2 _ _) ?_
  unfold Builtin.«sum»
  simp only [List.length_cons, List.length_nil]
  rw [if_neg (by decide)]
  refine wpAny_bind (wpAny_of_eq (show Builtin.Builtins.bindParams "sum" ["start"] 0 ⟨[.int 0 tk], []⟩ = pure [some (.int 0 tk)] from rfl) ?_)
  refine wpAny_bind (wpAny_mono h (fun it s₂ h₂ => ?_) fun _ _ e => e)
  obtain ⟨I, fp, wr, G, n, P, St, val, rfl, W, hst, hfp, hval, hfit, hQ⟩ := h₂
  dsimp only
  rw [if_pos (by decide +kernel)]
  refine wpAny_bind (wpAny_rule (wpAny_bind (wpAny_mkInt ?_)))
  refine wpAny_bind (wpAny_pure ?_)
  simp only [List.forIn_cons, List.forIn_nil]
  refine wpAny_bind (wpAny_bind (wpAny_bind (wpAny_isInstance (T := "int") (b := false) (typeIs_int _ _ _) PySem.sub_int_str ?_)))
  simp only [Bool.false_eq_true, if_false]
  refine wpAny_pure (wpAny_bind (wpAny_bind (wpAny_isInstance (T := "int") (b := false) (typeIs_int _ _ _) PySem.sub_int_bytes ?_)))
  simp only [Bool.false_eq_true, if_false]
  refine wpAny_pure (wpAny_bind (wpAny_bind (wpAny_isInstance (T := "int") (b := false) (typeIs_int _ _ _) PySem.sub_int_bytearray ?_)))
  simp only [Bool.false_eq_true, if_false]
  refine wpAny_pure (wpAny_pure ?_)
  refine wpAny_bind (wpAny_newObj_type ?_)
  have hSf : s₂.heap.objs.size ∉ fp := fun hm => Nat.lt_irrefl _ (hfp _ hm)
  refine wpAny_pure ⟨plainId_quiet F.plain_sum_loop _, codeAny_sum_loopS W val hval hfit s₂.heap.objs.size hSf n 0 _ s₂.toks 0 rfl (Nat.zero_le _)
    (W.frame 0 s₂ _ _ hst (by first | exact Nat.le_refl _ | exact Nat.le_succ _ | omega) fun b _ o e => Heap.get?_push_of_some _ e) (Heap.get?_push_size _ rfl) fun s' t' hm => ?_⟩
  exact hQ s' t' (hm.drop_new (by first | exact Nat.le_refl _ | exact Nat.le_succ _ | omega))

theorem sum_gen0 {L a : Addr} {n : Nat} {F : Nat → Value → Prop} {tk : Tok} {Q : Value → Shared → Prop} (X : Gen prog w A L a n F s) (val : Nat → Int) (hval : ∀ j v, F j v → ∃ t, v = .int (val j) t) (hfit : ∀ j, j < n → InLong (val j) ∧ InLong (preSum val (j + 1)))
    (hQ : ∀ h' gg tk' t', (∀ b o, b ≤ L → s.heap.get? b = some o → h'.get? b = some o) → GenMoved s.gens gg → Q (.int (preSum val n) t') { s with heap := h', gens := gg, toks := tk' }) :
    wpAny (model prog w) A (call (.builtin "sum") [.ref a, .int 0 tk]) Q E s := by
  obtain ⟨fp, wr, g, St, W, hst, _, _, hfp, hwr⟩ := X
  have W := W.in4_1
  refine call_sum_0 (W.self 0 _ _ _ hst ⟨a, _, _, _, _, _, _, val, rfl, W, hst, hfp, hval, hfit, fun s' t' hm => ?_⟩)
  have e : s' = { s with heap := s'.heap, gens := s'.gens, toks := s'.toks } := by
    obtain ⟨_, _, _, _, _⟩ := s'; obtain ⟨_, _, e1, e2, _⟩ := hm; cases e1; cases e2; rfl
  rw [e]
  exact hQ _ _ _ t' (fun b o hb e => hm.heap b o (fun hmem => Nat.lt_irrefl _ (Nat.lt_of_lt_of_le (hwr b hmem) hb)) e) fun G => G.movedS hm

theorem join_gen0 {sep : Str} {t : Tok} {L a : Addr} {n : Nat} {F : Nat → Value → Prop} {Q : Value → Shared → Prop} (X : Gen prog w A L a n F s) (tx : Nat → Str) (htx : ∀ j v, F j v → ∃ u, v = .str (tx j) u)
    (hok : JoinOk sep ((List.range n).map tx) = true)
    (hQ : ∀ h' gg tk' t', (∀ b o, b ≤ L → s.heap.get? b = some o → h'.get? b = some o) → GenMoved s.gens gg → Q (.str (Txt.join sep ((List.range n).map tx)) t') { s with heap := h', gens := gg, toks := tk' })
    (hsz : n ≤ 1000) : wpAny (model prog w) A (call (.builtin "str.join") [.str sep t, .ref a]) Q E s := by
  obtain ⟨fp, wr, g, St, W, hst, hT, ha, hfp, hwr⟩ := X
  have W := W.in4_2
  refine SC.joinGen W hT hst hfp ha (fun j v hv => let ⟨u, e⟩ := htx j v hv; ⟨_, u, e⟩) (fun s' lt hm hacc => ?_) (by rw [sizeLine_eq]; omega)
  have hl : lt.map (·.1) = (List.range n).map tx := by
    apply List.ext_getElem?
    intro j
    have hsz : lt.length = n := by simpa [strValues] using hacc.1
    by_cases hj : j < n
    · have hj' : j < lt.length := hsz ▸ hj
      obtain ⟨u, hv⟩ := htx j _ (hacc.2 j (.str lt[j].1 lt[j].2) (by simp [strValues, List.getElem?_eq_getElem hj']))
      injection hv with h1 _
      simp [List.getElem?_eq_getElem hj', hj, h1]
    · rw [List.getElem?_eq_none (by simpa [hsz] using Nat.le_of_not_lt hj), List.getElem?_eq_none (by simpa using Nat.le_of_not_lt hj)]
  rw [hl]
  have k1 : ∀ b o, b ≤ L → s.heap.get? b = some o → s'.heap.get? b = some o := fun b o hb e => hm.heap b o (fun hmem => Nat.lt_irrefl _ (Nat.lt_of_lt_of_le (hwr b hmem) hb)) e
  have e : s' = { s with heap := s'.heap, gens := s'.gens, toks := s'.toks } := by
    obtain ⟨_, _, _, _, _⟩ := s'; obtain ⟨_, _, e1, e2, _⟩ := hm; cases e1; cases e2; rfl
  refine ⟨hok, fun t' k => ?_⟩
  rw [e]
  have k2 : GenMoved s.gens s'.gens := fun G => G.movedS hm
  exact hQ _ _ k t' k1 k2
end
end
section
theorem calm13 {M : PySem.Model} {A : PySem.Around} {Q : Unit → PySem.Shared → Prop} {E : PySem.Value → PySem.Shared → Prop} {s : PySem.Shared} (h : Q () s) : PySem.wpAny M A (pure ()) Q E s := by
  w_top off
  first | (walk1; done) | exact PySem.wpAny_pure h
open PySem PySem.W PyProof.Rows Builtin Builtin.List
set_option maxHeartbeats 4000000

section
variable {prog : Program} {w : World} {A : Around} {E : Value → Shared → Prop} {s : Shared} {K : Frag} {x C dx L : Addr} {h₀ : Heap} {m : Str → Option Value} {its : Array Value} {n : Nat} {od : Option Obj}

theorem acc_iter {Q : Value → Shared → Prop} (X : K.In s.heap) (I : InstAt s.heap x (accObj C dx its n) C od) (hs : findIn K (.ref C) "__iter__" = some (some (.builtin "list.__iter__")))
    (hl : subIn K (.ref C) (.type "list") = some true)
    (hQ : Q (.ref s.heap.objs.size) { s with heap := s.heap.push { cls := .type "list_iterator", data := .fields #[.ref x, .int 0 0] } }) :
    wpAny (model prog w) A (pyIter (.ref x)) Q E s := by
  have fin : wpAny (model prog w) A (call (.builtin "list.__iter__") [.ref x]) (fun it s' => ∃ T' r, s'.TypeIs it T' ∧ typeLookup (.type T') "__next__" = pure (some r) ∧ Q it s') E s := by
    obtain ⟨hh, g, d, t, os⟩ := s
    refine accS_call (n := "__iter__") (by decide +kernel) AF.e_iter AF.k_iter (by decide +kernel) (AF.a_iter _) (inst_list X I hl) ?_
    show wpAny _ _ (do ret (← newFields "list_iterator" [.ref x, rawInt 0])) _ _ _
    exact wpAny_bind (wpAny_newObj_type (wpAny_pure ⟨"list_iterator", _, ⟨_, Heap.get?_push_size _ rfl, rfl⟩, slot_listiter_next.lookup, hQ⟩))
  unfold pyIter
  refine wpAny_bind (wpAny_bind (I.type.here ((looks_findIn X hs).here ?_)))
  dsimp only
  refine wpAny_bind ?_
  simp only [callSpecialIfBoundUnlessNone?, bindSpecialIfBound?]
  refine wpAny_holding (wpAny_bind (wpAny_bind (wpAny_bind (I.type.here ((looks_findIn X hs).here ?_)))))
  simp only [slot_list_iter.bind]
  refine wpAny_bind (wpAny_askSetting (wpAny_ite ?_))
  have fin2 : wpAny (model prog w) A (call (.builtin "list.__iter__") [.ref x] >>= fun v => pure (some v)) (fun a s' => ∃ it, a = some it ∧ ∃ T' r, s'.TypeIs it T' ∧ typeLookup (.type T') "__next__" = pure (some r) ∧ Q it s') E s :=
    wpAny_bind (wpAny_mono fin (fun it s' h' => wpAny_pure ⟨it, rfl, h'⟩) fun _ _ z => z)
  split
  all_goals first | refine wpAny_bind (wpAny_pure (wpAny_pure ?_)) | refine wpAny_tryCatch (wpAny_bind (wpAny_pure (wpAny_pure ?_)))
  all_goals
    dsimp only
    rw [if_neg (show ¬ ((Value.builtin "list.__iter__" == Value.none) = true) from Bool.false_ne_true)]
    refine wpAny_mono fin2 (fun a s' h' => ?_) fun _ _ z => z
    obtain ⟨it, rfl, T', r, hT', hl', hQ'⟩ := h'
    exact wpAny_bind (wpAny_specialOf hT' hl' (wpAny_pure hQ'))
end

noncomputable def Tab (o : Obj) : Prop := ∃ ps : Array Value, o = { cls := .none, data := .fields ps } ∧ TriplesOk ps.toList

structure CodeFacts (h : Heap) (c P : Addr) : Prop where
  is : ∃ o vs file tf flags tg inF text tt, h.get? c = some o ∧ o.cls = .type "code" ∧ o.data = .fields vs ∧ vs.getD 11 .none = .ref P ∧ vs.getD 18 .none = .str file tf ∧
    vs.getD 7 .none = .int flags tg ∧ vs.getD 9 .none = .bool inF ∧ vs.getD 10 .none = .int text tt
  ne : c ≠ P

section
variable {M : Model} {A : Around} {E : Value → Shared → Prop} {s : Shared} {L c P : Addr} {h₀ : Heap} {m : Str → Option Value} {news : List (Addr × Obj)} {up : Obj → List (Addr × Obj)} {o : Obj}
theorem code_made {env : Env} {pos : Pos} {q : Str} {scope : Scope} {Q : Value → Shared → Prop} (F : Fr h₀ L s.heap m) (N : News h₀ L s.heap news) (U : UpdF P o news up) (ht : Tab o) (hc : env.code = .ref c) (C : CodeFacts h₀ c P)
    (hQ : ∀ code h' tk o', Tab o' → Fr h₀ L h' m → News h₀ L h' (up o') → Heap.ExtBut P s.heap h' → Q code { s with heap := h', toks := tk }) :
    wpAny M A (genexprCode env pos q scope) Q E s := by
  obtain ⟨pre, post, e1, e2, n1, n2⟩ := U.split
  subst e1
  obtain ⟨ps, rfl, htr⟩ := ht
  have NP := N (P, { cls := .none, data := .fields ps }) (by simp)
  obtain ⟨⟨oc, vs, file, tf, flags, tg, inF, text, tt, a1, ac, a2, a3, a4, a5, a6, a7⟩, hne⟩ := C
  have code : s.heap.IsCode c P ps := ⟨oc, vs, file, tf, flags, tg, inF, text, tt, _, F.keep _ _ a1, a2, a3, a4, a5, a6, a7, NP.1, rfl, htr, hne⟩
  have h11 : vs[11]? = some (.ref P) := by
    cases q : vs[11]? with
    | none => rw [Array.getD_eq_getD_getElem?, q] at a3; cases a3
    | some z => rw [Array.getD_eq_getD_getElem?, q] at a3; exact congrArg some a3
  have tab : s.heap.TableAt c P ps := ⟨⟨oc, vs, F.keep _ _ a1, ac, a2, h11⟩, NP.1⟩
  cases hf : codeAmong pos ps.toList with
  | some cv =>
    refine wpAny_genexprCode_hit hc code hf (hQ cv s.heap s.toks _ ⟨ps, rfl, htr⟩ F ?_ fun _ _ _ e => e)
    rw [e2]
    exact N
  | none =>
  refine wpAny_genexprCodeX hc code tab hf fun c' h' tk hx _ _ hcode _ htab' _ => ?_
  obtain ⟨oc', vs', _, _, _, _, _, _, _, op, b1, b2, b3, _, _, _, _, b4, b5, b6, _⟩ := hcode
  have hP : P ≠ L := NP.2.1
  have F' : Fr h₀ L h' m := by
    obtain ⟨oL, es, ep, hL, r⟩ := F.ns
    refine ⟨⟨oL, es, ep, hx _ _ (Ne.symm hP) hL, r⟩, fun b ob e => hx b ob (fun q => ?_) (F.keep _ _ e), F.above⟩
    rw [q, NP.2.2] at e; cases e
  refine hQ _ h' tk _ ⟨_, rfl, b6⟩ F' ?_ hx
  · rw [e2]
    intro p hp
    rcases List.mem_append.mp hp with hp | hp
    · have z := N p (by simp [hp]); exact ⟨hx _ _ (n1 p hp) z.1, z.2⟩
    · rcases List.mem_cons.mp hp with rfl | hp
      · exact ⟨htab'.2, NP.2⟩
      · have z := N p (by simp [hp]); exact ⟨hx _ _ (n2 p hp) z.1, z.2⟩
end


noncomputable abbrev tupOf (vs : Array Value) : Obj := { cls := .type "tuple", data := .seq vs }
theorem passing_all (n : Nat) : passing (fun _ => true) n 0 = List.range n := by simp [passing]

section
variable {prog : Program} {w : World} {A : Around} {E : Value → Shared → Prop} {s : Shared} {K : Frag} {x C dx L c P : Addr} {h₀ : Heap} {m mg mb : Str → Option Value} {its : Array Value} {n : Nat} {od : Option Obj} {news : List (Addr × Obj)} {up : Obj → List (Addr × Obj)} {o : Obj} {p : Program} {loose : List Str} {mean : ExcName → Option Value}

theorem acc_genexp {env : Env} {elt iter : Expr} {xa xb : Str} {pa pb pt : Pos} {kt : Nat} {scope : Scope} {pos : Pos} {Q : Value → Shared → Prop} {tvs : List (Addr × Value × Value)} {Fv : Nat → Value → Prop}
    (F : Fr h₀ L s.heap m) (X₀ : K.In h₀) (N : News h₀ L s.heap news) (T : Top p loose mean mg mb h₀) (U : UpdF P o news up) (ht : Tab o) (hc : env.code = .ref c) (CF : CodeFacts h₀ c P) (hg : env.globals = mainGlobals)
    (I : InstAt s.heap x (accObj C dx its n) C od) (hxP : x ≠ P) (hs : findIn K (.ref C) "__iter__" = some (some (.builtin "list.__iter__"))) (hl : subIn K (.ref C) (.type "list") = some true)
    (hits : its = (tvs.map fun t => Value.ref t.1).toArray) (htup : ∀ t ∈ tvs, s.heap.get? t.1 = some (tupOf #[t.2.1, t.2.2])) (htP : ∀ t ∈ tvs, t.1 ≠ P)
    (hh : A.handled = none) (hco : scope.isCoroutine = false) (hclos : closureFor scope env = pure []) (hcell : ∀ y ∈ scope.names, y.2 ≠ .cell) (h0 : scope.names.lookup (".0" : Str) = some NameKind.local)
    (hxa : scope.names.lookup xa = some .local) (hxb : scope.names.lookup xb = some .local) (hab : xa ≠ xb) (hkind : scope.kind = .function) (hroom : A.depth < recursionLimit) (hsf : ∀ x, genFold iter env x = pure x)
    (hself : ∀ {Q' : Value → Shared → Prop}, Q' (.ref x) s → wpAny (model prog w) A (PySem.eval iter env) Q' E s)
    (helt : ∀ (A' : Around) E' (C' : Addr) (code : Value) (j : Nat) (t : Addr × Value × Value) (s₂ : Shared) m₂, A'.handled = none → tvs[j]? = some t → (∀ b o, b ≠ P → s.heap.get? b = some o → s₂.heap.get? b = some o) →
      s₂.heap.Ns C' m₂ → m₂ xa = some t.2.1 → m₂ xb = some t.2.2 → wpAny (model prog w) A' (PySem.eval elt (PySem.genEnv scope [] C' code builtinsNs env)) (fun y s₃ => Fv j y ∧ Keeps s₂ s₃) E' s₂)
    (hQ : ∀ a h' gg tk' o', Tab o' → Fr h₀ L h' m → News h₀ L h' (up o') → GenMoved s.gens gg → (∀ b o, b ≠ P → s.heap.get? b = some o → h'.get? b = some o) → Gen prog w A (s.heap.objs.size - 1) a tvs.length (fun j y => ∃ i, (List.range tvs.length)[j]? = some i ∧ Fv i y) { s with heap := h', gens := gg, toks := tk' } →
      Q (.ref a) { s with heap := h', gens := gg, toks := tk' }) :
    wpAny (model prog w) A (PySem.eval (.GeneratorExp elt [⟨.Tuple [.Name xa pa, .Name xb pb] kt pt, iter, [], 0⟩] scope pos) env) Q E s := by
  obtain ⟨bm, ob, BM⟩ := bmod_of_top T
  refine wpAny_GeneratorExp_walksQT hh hco hclos hcell h0 hxa hxb hab hkind hroom (hself (acc_iter (X₀.keeps F.keep) I hs hl ⟨?_, ?_⟩)) hsf
  · exact (T.nolimit.keeps F.keep).push _
  have F1 : Fr h₀ L (s.heap.push { cls := .type "list_iterator", data := .fields #[.ref x, .int 0 0] }) m := F.push _
  have N1 : News h₀ L (s.heap.push { cls := .type "list_iterator", data := .fields #[.ref x, .int 0 0] }) news := N.grown fun _ _ e => Heap.get?_push_of_some _ e
  refine code_made (s := { s with heap := s.heap.push { cls := .type "list_iterator", data := .fields #[.ref x, .int 0 0] } }) F1 N1 U ht hc CF fun code h' tk o' ht' F' N' hx => ?_
  have BM' := BM.keeps F'.keep
  refine wpAny_builtinsFor (by rw [hg]; exact BM'.ns) BM'.name BM'.ne BM'.obj BM'.cls BM'.dict BM'.data ?_
  have old : ∀ b ob, b ≠ P → s.heap.get? b = some ob → h'.get? b = some ob := fun b ob hb e => hx b ob hb (Heap.get?_push_of_some _ e)
  have hPlt : P < s.heap.objs.size := by
    obtain ⟨pre, post, e1, -⟩ := U.split
    exact Heap.lt_size (N (P, o) (by rw [e1]; simp)).1
  have hI : h'.get? s.heap.objs.size = some { cls := .type "list_iterator", data := .fields #[.ref x, .int 0 0] } := hx _ _ (fun q => Nat.lt_irrefl _ (q ▸ hPlt)) (Heap.get?_push_size _ rfl)
  have hsz : its.size = tvs.length := by rw [hits]; simp
  let Ts : Nat → Addr := fun j => (tvs[j]?.map fun t => t.1).getD 0
  let vals : Nat → Array Value := fun j => (tvs[j]?.map fun t => (#[t.2.1, t.2.2] : Array Value)).getD #[.none, .none]
  have at' : ∀ j, j < its.size → ∃ t, tvs[j]? = some t ∧ t ∈ tvs := fun j hj => by
    have hj' : j < tvs.length := hsz ▸ hj
    exact ⟨tvs[j], by simp [hj'], List.getElem_mem hj'⟩
  have hit : ∀ j, j < its.size → its[j]? = some (.ref (Ts j)) := fun j hj => by
    obtain ⟨t, e, _⟩ := at' j hj
    rw [hits]; simp [Ts, e]
  have hxlt : x < s.heap.objs.size := Heap.lt_size I.at_
  have hTlt : ∀ j, j < its.size → Ts j < s.heap.objs.size := fun j hj => by
    obtain ⟨t, e, hm⟩ := at' j hj
    simp only [Ts, e, Option.map_some, Option.getD_some]; exact Heap.lt_size (htup t hm)
  have W := fun (A' : Around) (hA : A'.handled = none) => (walks_seq (prog := prog) (w := w) hA s.heap.objs.size x (Nat.ne_of_lt hxlt) its Ts vals hit fun j hj => Nat.ne_of_lt (hTlt j hj)).bound
  have st : ∀ h'' : Heap, (∀ b ob, h'.get? b = some ob → h''.get? b = some ob) → h''.IsListIter s.heap.objs.size x 0 ∧ SeqAt h'' x its ∧ ∀ k, k < its.size → h''.IsTuple (Ts k) (vals k) := fun h'' k' => by
    refine ⟨⟨_, k' _ _ hI, rfl, rfl⟩, ⟨_, k' _ _ (old _ _ hxP I.at_), n, rfl⟩, fun k hk => ?_⟩
    obtain ⟨t, e, hm⟩ := at' k hk
    simp only [Ts, vals, e, Option.map_some, Option.getD_some]
    exact ⟨_, k' _ _ (old _ _ (htP t hm) (htup t hm)), rfl, 0, rfl⟩
  have NL : h'.NoLimit := T.nolimit.keeps F'.keep
  refine ⟨s.heap.objs.size, _, _, _, _, _, _, fun _ => true, Fv, rfl, W, ?_, st _ fun _ _ e => e, ?_, NL, ?_, ?_, ?_⟩
  · (intro i v wq6; obtain ⟨hi, rfl⟩ := wq6)
    obtain ⟨t, et, _⟩ := at' i hi
    exact ⟨t.2.1, t.2.2, by simp [vals, et]⟩
  · intro b hb
    rcases List.mem_cons.mp hb with rfl | hb
    · exact Heap.lt_size hI
    · rcases List.mem_cons.mp hb with rfl | hb
      · exact Heap.lt_size (old _ _ hxP I.at_)
      · obtain ⟨k, hk, rfl⟩ := List.mem_map.mp hb
        obtain ⟨t, e, hm⟩ := at' k (List.mem_range.mp hk)
        simp only [Ts, e, Option.map_some, Option.getD_some]
        exact Heap.lt_size (old _ _ (htP t hm) (htup t hm))
  · intro hm
    have : cStatics = s.heap.objs.size := by simpa using hm
    obtain ⟨_, hn, _⟩ := T.nolimit
    have q := (hn.keeps F.keep).lt
    rw [this] at q
    exact Nat.lt_irrefl _ q
  · intro href hk
    refine ⟨fun A' E' i va vb s₂ m₂ _ _ _ _ _ _ => wpAny_pure ⟨rfl, _, _, rfl, fun _ _ e => e⟩, fun A' E' i va vb s₂ m₂ hA hP _ hn ha hb hkp => ?_⟩
    obtain ⟨hi, e⟩ := hP
    obtain ⟨t, et, hm⟩ := at' i hi
    simp only [vals, et, Option.map_some, Option.getD_some] at e
    obtain ⟨e1, e2⟩ : va = t.2.1 ∧ vb = t.2.2 := by simpa using congrArg Array.toList e
    subst e1 e2
    refine helt A' E' _ code i t s₂ m₂ hA et (fun b ob hb e => hkp b (List.mem_range.mpr (Heap.lt_size (old b ob hb e))) (fun hm => ?_) ob (hk _ _ (old b ob hb e))) hn ha hb
    have : b = s.heap.objs.size := by simpa using hm
    exact Nat.lt_irrefl _ (this ▸ Heap.lt_size e)
  · intro a h₅ tk₅ gs hgb hag hsz₅ hk₅ Wg hat
    rw [passing_all, List.length_range, hsz] at Wg
    rw [hsz] at hat
    have k5 : ∀ b ob, h'.get? b = some ob → h₅.get? b = some ob := hk₅
    refine hQ a h₅ _ tk₅ o' ht' (F'.keeps k5) (N'.grown k5) (GenMoved.push hgb) (fun b ob hb e => k5 _ _ (old b ob hb e)) ⟨_, _, _, _, Wg, hat, (fun i s' st => st.1.typeIs), List.mem_cons_self, ?_, ?_⟩
    · intro b hb
      show b < h₅.objs.size
      rw [hsz₅]
      rcases List.mem_cons.mp hb with rfl | hb
      · exact Nat.lt_succ_self _
      · rcases List.mem_cons.mp hb with rfl | hb
        · exact Nat.lt_succ_of_lt hag
        · exact Nat.lt_succ_of_lt (Nat.lt_trans (List.mem_range.mp hb) hag)
    · intro b hb
      have hpos : 0 < s.heap.objs.size := Nat.lt_of_le_of_lt (Nat.zero_le _) hxlt
      have hI' : s.heap.objs.size < h'.objs.size := Heap.lt_size hI
      rcases List.mem_cons.mp hb with rfl | hb
      · show s.heap.objs.size - 1 < h'.objs.size
        omega
      · have : b = s.heap.objs.size := by simpa using hb
        rw [this]
        exact Nat.sub_lt hpos (by decide)
end
end
section
theorem calm14 {M : PySem.Model} {A : PySem.Around} {Q : Unit → PySem.Shared → Prop} {E : PySem.Value → PySem.Shared → Prop} {s : PySem.Shared} (h : Q () s) : PySem.wpAny M A (pure ()) Q E s := by
  w_top off
  first | (walk1; done) | exact PySem.wpAny_pure h
open PySem PySem.W PyProof.Rows Builtin Builtin.List
set_option maxHeartbeats 4000000

noncomputable def makesLIn (K : Frag) (C : Addr) : Bool := match K.lookup C with
  | some ⟨_, _, .cls cd, sl⟩ => !cd.hasDel && (sl.toList[4]?).join == some (.builtin "list.__new__") && !cd.mro.isEmpty && cd.mro.contains (.ref C) && cd.mro.contains (.type "list") &&
      specialIn K (.ref C) "__call__" == some (some (.builtin "type.__call__")) && instIn K (.ref C) (.type "type") == some true
  | _ => false
structure MakesL (M : Model) (h : Heap) (C : Addr) : Prop where
  obj : ∃ oc od cd sl, h.get? C = some ⟨oc, od, .cls cd, sl⟩ ∧ cd.hasDel = false ∧ cd.mro.isEmpty = false
  made : Looks M h (Bind.madeBy (.ref C)) (some "list.__new__")
  base : Looks M h (Bind.staticBase (.ref C)) (.ref C)
  self : Looks M h (isSubtype (.ref C) (.ref C)) true
  top : Looks M h (isSubtype (.ref C) (.type "list")) true
  call : Looks M h (specialOf (.ref C) "__call__") (some (.builtin "type.__call__"))
  typ : Looks M h (isInstance (.ref C) (.type "type")) true
theorem makesL_of {K : Frag} {M : Model} {h : Heap} (X : K.In h) {C : Addr} (e : makesLIn K C = true) : MakesL M h C := by
  unfold makesLIn at e
  split at e
  · rename_i oc od cd sl ho
    simp only [Bool.and_eq_true, Bool.not_eq_true', beq_iff_eq] at e
    obtain ⟨⟨⟨⟨⟨⟨e2, e3⟩, e4⟩, e5⟩, e6⟩, e7⟩, e8⟩ := e
    have hc : clsIn K C = some cd := by unfold clsIn; rw [ho]
    have hm : Looks M h (mroOf (.ref C)) cd.mro := (looks_clsIn X hc).andThen .now
    obtain ⟨c, l, hl⟩ : ∃ c l, cd.mro = c :: l := by cases q : cd.mro with | nil => rw [q] at e4; cases e4 | cons c l => exact ⟨c, l, rfl⟩
    have made : Looks M h (Bind.madeBy (.ref C)) (some "list.__new__") := by
      intro A Q E s k q
      unfold Bind.madeBy
      refine wpAny_bind (hm A _ E s k ?_)
      rw [hl, List.forIn_cons]
      refine wpAny_bind (wpAny_bind (wpAny_bind (wpAny_bind (wpAny_loadPart (k _ _ (X _ _ ho)) (wpAny_pure ?_)))))
      dsimp only
      rw [← Array.getElem?_toList, e3]
      exact wpAny_pure (wpAny_pure (wpAny_pure q))
    refine ⟨⟨oc, od, cd, sl, X _ _ ho, e2, e4⟩, made, ?_, looks_mroIn X ?_, looks_mroIn X ?_, looks_specialIn X e7, looks_instIn X e8⟩
    · intro A Q E s k q
      unfold Bind.staticBase
      refine wpAny_bind (hm A _ E s k ?_)
      rw [hl, List.forIn_cons]
      exact wpAny_bind (wpAny_bind (wpAny_bind (made A _ E s k (wpAny_pure (wpAny_pure (wpAny_pure q))))))
    · unfold mroIn; rw [hc, Option.bind_some, if_neg (by rw [e4]; decide), e5]
    · unfold mroIn; rw [hc, Option.bind_some, if_neg (by rw [e4]; decide), e6]
  · cases e

section
variable {prog : Program} {w : World} {A : Around} {K : Frag} {C : Addr} {R : Result → Shared → Prop} {h : Heap} {g : Array GenState} {d : Drawn} {t : Nat} {os : OsState}
theorem AF5.e_new : entryFor table "list.__new__" = some Builtin.«list.__new__» := entryFor_of_tree (by kernel_rfl)
theorem lk_new : builtinKind "list.__new__" = some .builtinFn := by decide +kernel
theorem ls_new : splitId "list.__new__" = some ("list", "__new__") := by decide +kernel

theorem new_L {k : Int} {tk : Tok} (Y : MakesL (model prog w) h C)
    (hq : R (.ok (.ret (.ref (h.objs.size + 1)))) ⟨(h.push emptyDict).push (accObj C h.objs.size #[] 0), g, d, t, os⟩) :
    codeAny (model prog w) A (.call (.builtin "list.__new__") ⟨[.ref C, .int k tk], []⟩) R ⟨h, g, d, t, os⟩ := by
  obtain ⟨⟨oc, od, cd, sl, hC, e2, e4⟩, made, base, self, top, call, typ⟩ := Y
  refine codeAny_call_builtin_code (Code.quiet_builtin _ (by decide +kernel)) ?_
  simp only [checkBuiltinCall, lk_new, ls_new]
  rw [if_pos (by decide)]
  refine wpAny_bind (ks_wpAny_isType_cls hC rfl ?_)
  rw [if_neg (by decide)]
  refine wpAny_bind (top.at ?_)
  rw [if_neg (by decide)]
  refine wpAny_bind (base.at (wpAny_bind (made.at ?_)))
  dsimp only
  rw [if_neg (by decide +kernel)]
  have args : (match Manifest.signature? "list.__new__" with
      | some sig => Bind.checkArgs "list.__new__" sig ⟨[.ref C, .int k tk], []⟩
      | none => pure ()) = pure () := by kernel_rfl
  refine wpAny_of_eq args ?_
  refine codeAny_builtin_stack AF5.e_new rfl fun p st => ?_
  have hown := owner_list_new
  simp only [hown]
  refine wpAny_bind (ks_wpAny_isType_cls hC rfl ?_)
  rw [if_neg (by decide)]
  refine wpAny_bind (top.at ?_)
  rw [if_neg (by decide)]
  refine wpAny_bind (wpAny_pure ?_)
  rw [if_neg (show ¬ ((!typeHasDict (.ref C)) = true) from Bool.false_ne_true)]
  unfold newDict
  refine wpAny_bind (wpAny_newObj_type ?_ (by size_fits))
  dsimp only
  refine wpAny_bind ?_
  unfold newObj
  dsimp only
  refine wpAny_ite_false (by rw [sizeLine_eq]; decide) ?_
  unfold newObjAsIs classHasDel
  refine wpAny_bind (wpAny_alloc ?_)
  refine wpAny_bind (wpAny_bind (wpAny_load (Heap.get?_push_of_some _ (Heap.get?_push_of_some _ hC)) (wpAny_pure ?_)))
  rw [e2]
  refine wpAny_pure (wpAny_pure ?_)
  show R _ _
  rw [Heap.size_push]
  exact hq

theorem make_coreL {k : Int} {tk : Tok} {init : Value} (Y : MakesL (model prog w) h C) (hi : Looks (model prog w) h (typeLookup (.ref C) "__init__") (some init))
    (hb : ∀ self, Looks (model prog w) h (bindSpecial init self) (init, [self]))
    (hq : codeAny (model prog w) (A.under (.builtin "type.__call__" ⟨[.ref C, .int k tk], []⟩)) (.call init ⟨[.ref (h.objs.size + 1), .int k tk], []⟩) (InitBack (h.objs.size + 1) R) ⟨(h.push emptyDict).push (accObj C h.objs.size #[] 0), g, d, t, os⟩) :
    codeAny (model prog w) A (.call (.ref C) ⟨[.int k tk], []⟩) R ⟨h, g, d, t, os⟩ := by
  have Y' := Y
  obtain ⟨⟨oc, od, cd, sl, hC, e2, e4⟩, made, base, self, top, call, typ⟩ := Y
  refine codeAny_of_tree ?_
  show wpAny _ _ (callAny (.ref C) _) _ _ _
  refine nd_load hC ?_
  show wpAny _ _ (callAny.viaDunder (.ref C) _) _ _ _
  unfold callAny.viaDunder
  refine wpAny_bind (call.at ?_)
  dsimp only
  rw [tc_bind]
  refine wpAny_bind (wpAny_pure (wpAny_bind (wpAny_pure ?_)))
  refine wpAny_pure (a := Fin.again (.call (.builtin "type.__call__") ⟨[.ref C, .int k tk], []⟩)) (And.intro rfl ?_)
  refine codeAny_call_builtin_at (Code.quiet_builtin _ (by decide +kernel)) entry_typeCall (check_slot tc_kind tc_split typ (tc_args _ _ _) ?_)
  unfold Builtin.«type.__call__»
  have hm : Looks (model prog w) h (mroOf (.ref C)) cd.mro := ((Looks.ld (part := none) hC).andThen .now).andThen .now
  repeat (first | simp only [e4, Bool.false_eq_true, if_false] | with_reducible refine wpAny_call ?_ | lk)
  refine new_L Y' ?_
  have k' : ∀ b o, h.get? b = some o → ((h.push emptyDict).push (accObj C h.objs.size #[] 0)).get? b = some o := fun b o e => Heap.get?_push_of_some _ (Heap.get?_push_of_some _ e)
  have hx : ((h.push emptyDict).push (accObj C h.objs.size #[] 0)).get? (h.objs.size + 1) = some (accObj C h.objs.size #[] 0) := by heap_get
  have t1 : Looks (model prog w) ((h.push emptyDict).push (accObj C h.objs.size #[] 0)) (typeOf (.ref (h.objs.size + 1))) (.ref C) := (Looks.ld hx).andThen .now
  have s1 := self.keeps k'
  have i1 := hi.keeps k'
  have b1 := (hb (.ref (h.objs.size + 1))).keeps k'
  unfold isInstance callSpecial? specialOf
  repeat (first | with_reducible refine wpAny_call ?_ | lk)
  refine codeAny_mono hq fun r s' z => ?_
  rcases r with e | (v | _ | _ | _) <;> first | exact z | exact z.elim | skip
  obtain ⟨rfl, z⟩ := z
  exact wpAny_pure (wpAny_pure z)
end

section
variable {prog : Program} {w : World} {A : Around} {E : Value → Shared → Prop} {K : Frag} {C L : Addr} {s : Shared} {h₀ : Heap} {m : Str → Option Value} {news : List (Addr × Obj)} {Q : Value → Shared → Prop}
theorem call_acc {k : Int} {tk : Tok} {fI : Addr} (F : Fr h₀ L s.heap m) (X₀ : K.In h₀) (N : News h₀ L s.heap news) (hm : makesLIn K C = true)
    (hi : findIn K (.ref C) "__init__" = some (some (.ref fI))) (hf : isFn K (.ref fI) = true)
    (h : ∀ x dx h', Fr h₀ L h' m → News h₀ L h' ((x, accObj C dx #[] 0) :: (dx, dictOf [] 0) :: news) → (∀ p ∈ news, p.1 < dx) → dx < x →
      codeAny (model prog w) (A.under (.builtin "type.__call__" ⟨[.ref C, .int k tk], []⟩)) (.call (.ref fI) ⟨[.ref x, .int k tk], []⟩) (InitBack x fun r s' => match r with | .ok (.ret v) => Q v s' | .ok _ => False | .error e => E e s') { s with heap := h' }) :
    wpAny (model prog w) A (call (.ref C) [.int k tk]) Q E s := by
  obtain ⟨hh, g, d, t, os⟩ := s
  refine wpAny_call (make_coreL (makesL_of (X₀.keeps F.keep) hm) (looks_findIn (X₀.keeps F.keep) hi) (fun self => bind_fn (X₀.keeps F.keep) self (beq_iff_eq.mp hf)) (h _ hh.objs.size _ ((F.push _).push _) ?_ (fun p hp => Heap.lt_size (N p hp).1) (Nat.lt_succ_self _)))
  have := (N.push F emptyDict).push (F.push _) (accObj C hh.objs.size #[] 0)
  rwa [Heap.size_push] at this
end
end
section
theorem calm15 {M : PySem.Model} {A : PySem.Around} {Q : Unit → PySem.Shared → Prop} {E : PySem.Value → PySem.Shared → Prop} {s : PySem.Shared} (h : Q () s) : PySem.wpAny M A (pure ()) Q E s := by
  w_top off
  first | (walk1; done) | exact PySem.wpAny_pure h
open PySem PySem.W PyProof.Rows Builtin Builtin.List
set_option maxHeartbeats 4000000
namespace AF
theorem s_mdget : Slot "method_descriptor" "__get__" "method_descriptor.__get__" := .of (owner := "method_descriptor") (n := "__get__") (by rw [typeLookup_type, builtinLookup_eq_fast]; kernel_rfl) (by decide +kernel) (by decide +kernel) (by decide +kernel)
  (by first | exact .inl (by decide +kernel) | exact .inr (by decide +kernel)) (by rw [isSubtype_type]; kernel_rfl)
theorem e_mdget : entryFor table "method_descriptor.__get__" = some Builtin.«method_descriptor.__get__» := entryFor_of_tree (by kernel_rfl)
theorem a_mdget (a b c : Value) : argsOk "method_descriptor.__get__" ⟨[a, b, c], []⟩ := by unfold argsOk; kernel_rfl
theorem s_wdget : Slot "wrapper_descriptor" "__get__" "wrapper_descriptor.__get__" := .of (owner := "wrapper_descriptor") (n := "__get__") (by rw [typeLookup_type, builtinLookup_eq_fast]; kernel_rfl) (by decide +kernel) (by decide +kernel) (by decide +kernel)
  (by first | exact .inl (by decide +kernel) | exact .inr (by decide +kernel)) (by rw [isSubtype_type]; kernel_rfl)
theorem e_wdget : entryFor table "wrapper_descriptor.__get__" = some Builtin.«wrapper_descriptor.__get__» := entryFor_of_tree (by kernel_rfl)
theorem a_wdget (a b c : Value) : argsOk "wrapper_descriptor.__get__" ⟨[a, b, c], []⟩ := by unfold argsOk; kernel_rfl
theorem t_pop : builtinType "list.pop" = pure (.type "method_descriptor") := by rw [builtinType_eq_fast]; kernel_rfl
theorem t_len : builtinType "list.__len__" = pure (.type "wrapper_descriptor") := by rw [builtinType_eq_fast]; kernel_rfl
theorem t_init : builtinType "list.__init__" = pure (.type "wrapper_descriptor") := by rw [builtinType_eq_fast]; kernel_rfl
end AF

noncomputable abbrev boundB (T i : String) (x : Addr) : Obj := { cls := .type T, dict := none, data := .fields #[.builtin i, .ref x], slots := #[] }

theorem wp_same {α : Type} {M : Model} {A : Around} {m m' : Sem α} {Q : α → Shared → Prop} {E : Value → Shared → Prop} {s : Shared} (e : m' = m) (h : wpAny M A m Q E s) : wpAny M A m' Q E s := e ▸ h

section
variable {prog : Program} {w : World} {A : Around} {E : Value → Shared → Prop} {h : Heap} {g : Array GenState} {d : Drawn} {t : Nat} {os : OsState} {x C : Addr}

theorem mdget_pop {Q : Value → Shared → Prop} (hi : Looks (model prog w) h (isInstance (.ref x) (.type "list")) true) (q : Q (.ref h.objs.size) ⟨h.push (boundB "builtin_function_or_method" "list.pop" x), g, d, t, os⟩) :
    wpAny (model prog w) A (call (.builtin "method_descriptor.__get__") [.builtin "list.pop", .ref x, .ref C]) Q E ⟨h, g, d, t, os⟩ := by
  refine wpAny_call_entry AF.s_mdget (show typeOf (.builtin "list.pop") = pure (.type "method_descriptor") from AF.t_pop) AF.e_mdget ?_ (AF.a_mdget _ _ _)
  unfold Builtin.«method_descriptor.__get__»
  repeat (first | ((with_reducible show wpAny _ _ (isInstance _ _) _ _ _); refine wp_same (m := isInstance (.ref x) (.type "list")) (by kernel_rfl) ?_; refine hi.at ?_) | exact wpAny_bind (wpAny_newObj_type (wpAny_pure ⟨_, rfl, q⟩)) | lk)
theorem wdget_len {Q : Value → Shared → Prop} (hi : Looks (model prog w) h (isInstance (.ref x) (.type "list")) true) (q : Q (.ref h.objs.size) ⟨h.push (boundB "method-wrapper" "list.__len__" x), g, d, t, os⟩) :
    wpAny (model prog w) A (call (.builtin "wrapper_descriptor.__get__") [.builtin "list.__len__", .ref x, .ref C]) Q E ⟨h, g, d, t, os⟩ := by
  refine wpAny_call_entry AF.s_wdget (show typeOf (.builtin "list.__len__") = pure (.type "wrapper_descriptor") from AF.t_len) AF.e_wdget ?_ (AF.a_wdget _ _ _)
  unfold Builtin.«wrapper_descriptor.__get__»
  repeat (first | ((with_reducible show wpAny _ _ (isInstance _ _) _ _ _); refine wp_same (m := isInstance (.ref x) (.type "list")) (by kernel_rfl) ?_; refine hi.at ?_) | exact wpAny_bind (wpAny_newObj_type (wpAny_pure ⟨_, rfl, q⟩)) | lk)
theorem wdget_init {Q : Value → Shared → Prop} (hi : Looks (model prog w) h (isInstance (.ref x) (.type "list")) true) (q : Q (.ref h.objs.size) ⟨h.push (boundB "method-wrapper" "list.__init__" x), g, d, t, os⟩) :
    wpAny (model prog w) A (call (.builtin "wrapper_descriptor.__get__") [.builtin "list.__init__", .ref x, .ref C]) Q E ⟨h, g, d, t, os⟩ := by
  refine wpAny_call_entry AF.s_wdget (show typeOf (.builtin "list.__init__") = pure (.type "wrapper_descriptor") from AF.t_init) AF.e_wdget ?_ (AF.a_wdget _ _ _)
  unfold Builtin.«wrapper_descriptor.__get__»
  repeat (first | ((with_reducible show wpAny _ _ (isInstance _ _) _ _ _); refine wp_same (m := isInstance (.ref x) (.type "list")) (by kernel_rfl) ?_; refine hi.at ?_) | exact wpAny_bind (wpAny_newObj_type (wpAny_pure ⟨_, rfl, q⟩)) | lk)

theorem super_ga_bi {so D : Addr} {i T gi : String} {bo : Obj} {l₀ l : List Value} {K : Frag} {name : Str} {tk : Tok} {Q : Fin → Shared → Prop}
    (hso : h.get? so = some (ks_superObj D x C)) (hno : Looks (model prog w) h (opaqueClassAbove (.ref C)) none)
    (hC : Looks (model prog w) h (mroOf (.ref C)) l₀) (hl : (l₀.dropWhile (· != .ref D)).drop 1 = l) (X : K.In h)
    (hf : alongIn K name l = some (some (.builtin i))) (hT : typeOf (.builtin i) = pure (.type T)) (hg : typeLookup (.type T) "__get__" = pure (some (.builtin gi))) (hxC : x ≠ C) (hn : (name == ("__class__" : Str)) = false)
    (hcall : ∀ (A' : Around) (E' : Value → Shared → Prop) (Q' : Value → Shared → Prop), Q' (.ref h.objs.size) ⟨h.push bo, g, d, t, os⟩ → wpAny (model prog w) A' (call (.builtin gi) [.builtin i, .ref x, .ref C]) Q' E' ⟨h, g, d, t, os⟩)
    (hq : Q (.done (.ret (.ref h.objs.size))) ⟨h.push bo, g, d, t, os⟩) :
    wpAny (model prog w) A (Builtin.«super.__getattribute__» ⟨[.ref so, .str name tk], []⟩) Q E ⟨h, g, d, t, os⟩ := by
  have hne : (Value.ref x == Value.ref C) = false := by simp [hxC]
  have hdt : (ks_superObj D x C).data = .fields #[.ref D, .ref x, .ref C] := rfl
  have f0 : (#[.ref D, .ref x, .ref C] : Array Value)[0]? = some (.ref D) := rfl
  have f1 : (#[.ref D, .ref x, .ref C] : Array Value)[1]? = some (.ref x) := rfl
  have f2 : (#[.ref D, .ref x, .ref C] : Array Value)[2]? = some (.ref C) := rfl
  unfold Builtin.«super.__getattribute__»
  repeat (first
    | (with_reducible refine wpAny_field hso hdt f0 ?_) | (with_reducible refine wpAny_field hso hdt f1 ?_) | (with_reducible refine wpAny_field hso hdt f2 ?_)
    | (with_reducible refine ks_wpAny_notOpaque hno ?_)
    | (with_reducible refine Looks.at hC ?_; rw [hl])
    | (refine ks_forIn_along X (fun _ _ => rfl) rfl ?_ hf)
    | (with_reducible refine wpAny_of_eq hT ?_)
    | (with_reducible refine wpAny_of_eq hg ?_)
    | (with_reducible refine hcall _ _ _ ?_)
    | (simp only [hn, hne, Bool.or_false, Bool.false_eq_true, if_false])
    | wp_step
    | dsimp only)

  all_goals exact hq
end
end
section
theorem calm16 {M : PySem.Model} {A : PySem.Around} {Q : Unit → PySem.Shared → Prop} {E : PySem.Value → PySem.Shared → Prop} {s : PySem.Shared} (h : Q () s) : PySem.wpAny M A (pure ()) Q E s := by
  w_top off
  first | (walk1; done) | exact PySem.wpAny_pure h
open PySem PySem.W PyProof.Rows Builtin Builtin.List
set_option maxHeartbeats 4000000

section
variable {prog : Program} {w : World} {A : Around} {E : Value → Shared → Prop} {h : Heap} {g : Array GenState} {d : Drawn} {t : Nat} {os : OsState} {x C : Addr}
theorem method_super_bi {so D : Addr} {i T gi : String} {bo : Obj} {l₀ l : List Value} {K : Frag} {name : Str} {pl : Sem Bool} {Q : Value × List Value → Shared → Prop}
    (hso : h.get? so = some (ks_superObj D x C)) (hno : Looks (model prog w) h (opaqueClassAbove (.ref C)) none)
    (hC : Looks (model prog w) h (mroOf (.ref C)) l₀) (hl : (l₀.dropWhile (· != .ref D)).drop 1 = l) (X : K.In h)
    (hf : alongIn K name l = some (some (.builtin i))) (hTy : typeOf (.builtin i) = pure (.type T)) (hg : typeLookup (.type T) "__get__" = pure (some (.builtin gi))) (hxC : x ≠ C) (hn : (name == ("__class__" : Str)) = false)
    (hcall : ∀ (t : Nat) (A' : Around) (E' : Value → Shared → Prop) (Q' : Value → Shared → Prop), Q' (.ref h.objs.size) ⟨h.push bo, g, d, t, os⟩ → wpAny (model prog w) A' (call (.builtin gi) [.builtin i, .ref x, .ref C]) Q' E' ⟨h, g, d, t, os⟩)
    (hq : Q (.ref h.objs.size, []) ⟨h.push bo, g, d, t + 1, os⟩) :
    wpAny (model prog w) A (getMethod (.ref so) name pl) Q E ⟨h, g, d, t, os⟩ := by
  have hlk := PySem.F.ks_slot_super_ga.lookup
  have hcan := PySem.F.ks_canon_super_ga
  have hT : ∀ t', (⟨h, g, d, t', os⟩ : Shared).TypeIs (.ref so) "super" := fun _ => ⟨_, hso, rfl⟩
  unfold getMethod
  refine wpAny_bind (wpAny_specialOf (hT _) hlk ?_)
  show wpAny _ _ (if (Manifest.canonical "super.__getattribute__" != "object.__getattribute__") = true then _ else _) _ _ _
  rw [if_pos hcan]
  unfold getAttr getAttrBy
  refine wpAny_bind (wpAny_bind (wpAny_mkText (wpAny_holding (wpAny_bind (wpAny_typeOf (hT _) (wpAny_bind (wpAny_of_eq hlk ?_)))))))
  show wpAny _ _ (getAttrByItsOwn (.ref so) (.str name t) (.type "super") (.builtin "super.__getattribute__") true false) _ _ _
  unfold getAttrByItsOwn hookBefore callGetattribute boundAndCalled
  refine wpAny_bind (wpAny_of_eq (show (if onTheHeap (.type "super") then typeLookup (.type "super") "__getattr__" else pure none) = pure none from rfl) ?_)
  refine wpAny_bind (wpAny_attempt (wpAny_holding ?_))
  show wpAny _ _ (bindSpecial (.builtin "super.__getattribute__") (.ref so) >>= _) _ _ _
  refine wpAny_bind (wpAny_of_eq (PySem.F.ks_slot_super_ga.bind _) ?_)
  refine wpAny_mono (Q := fun v s' => v = .ref h.objs.size ∧ s' = ⟨h.push bo, g, d, t + 1, os⟩) (E := fun _ _ => False)
    (wpAny_call_entry PySem.F.ks_slot_super_ga (hT _) PySem.F.ks_entry_super_ga (super_ga_bi hso hno hC hl X hf hTy hg hxC hn (hcall _) ⟨_, rfl, rfl, rfl⟩) (PySem.F.ks_gaArgs_super _ _)) (fun v s' hv => ?_) fun _ _ z => z.elim
  obtain ⟨rfl, rfl⟩ := hv
  exact wpAny_pure (wpAny_pure hq)

theorem method_super_pop {so D : Addr} {l₀ l : List Value} {K : Frag} {pl : Sem Bool} {Q : Value × List Value → Shared → Prop}
    (hso : h.get? so = some (ks_superObj D x C)) (hno : Looks (model prog w) h (opaqueClassAbove (.ref C)) none) (hi : Looks (model prog w) h (isInstance (.ref x) (.type "list")) true)
    (hC : Looks (model prog w) h (mroOf (.ref C)) l₀) (hl : (l₀.dropWhile (· != .ref D)).drop 1 = l) (X : K.In h) (hf : alongIn K "pop" l = some (some (.builtin "list.pop"))) (hxC : x ≠ C)
    (hq : Q (.ref h.objs.size, []) ⟨h.push (boundB "builtin_function_or_method" "list.pop" x), g, d, t + 1, os⟩) : wpAny (model prog w) A (getMethod (.ref so) "pop" pl) Q E ⟨h, g, d, t, os⟩ :=
  method_super_bi hso hno hC hl X hf AF.t_pop AF.s_mdget.lookup hxC (by decide) (fun _ _ _ _ q => mdget_pop hi q) hq
theorem method_super_len {so D : Addr} {l₀ l : List Value} {K : Frag} {pl : Sem Bool} {Q : Value × List Value → Shared → Prop}
    (hso : h.get? so = some (ks_superObj D x C)) (hno : Looks (model prog w) h (opaqueClassAbove (.ref C)) none) (hi : Looks (model prog w) h (isInstance (.ref x) (.type "list")) true)
    (hC : Looks (model prog w) h (mroOf (.ref C)) l₀) (hl : (l₀.dropWhile (· != .ref D)).drop 1 = l) (X : K.In h) (hf : alongIn K "__len__" l = some (some (.builtin "list.__len__"))) (hxC : x ≠ C)
    (hq : Q (.ref h.objs.size, []) ⟨h.push (boundB "method-wrapper" "list.__len__" x), g, d, t + 1, os⟩) : wpAny (model prog w) A (getMethod (.ref so) "__len__" pl) Q E ⟨h, g, d, t, os⟩ :=
  method_super_bi hso hno hC hl X hf AF.t_len AF.s_wdget.lookup hxC (by decide) (fun _ _ _ _ q => wdget_len hi q) hq
theorem method_super_init {so D : Addr} {l₀ l : List Value} {K : Frag} {pl : Sem Bool} {Q : Value × List Value → Shared → Prop}
    (hso : h.get? so = some (ks_superObj D x C)) (hno : Looks (model prog w) h (opaqueClassAbove (.ref C)) none) (hi : Looks (model prog w) h (isInstance (.ref x) (.type "list")) true)
    (hC : Looks (model prog w) h (mroOf (.ref C)) l₀) (hl : (l₀.dropWhile (· != .ref D)).drop 1 = l) (X : K.In h) (hf : alongIn K "__init__" l = some (some (.builtin "list.__init__"))) (hxC : x ≠ C)
    (hq : Q (.ref h.objs.size, []) ⟨h.push (boundB "method-wrapper" "list.__init__" x), g, d, t + 1, os⟩) : wpAny (model prog w) A (getMethod (.ref so) "__init__" pl) Q E ⟨h, g, d, t, os⟩ :=
  method_super_bi hso hno hC hl X hf AF.t_init AF.s_wdget.lookup hxC (by decide) (fun _ _ _ _ q => wdget_init hi q) hq

theorem call_bound_len {q : Addr} {dx : Addr} {its : Array Value} {n : Nat} {Q : Value → Shared → Prop} (hb : h.get? q = some (boundB "method-wrapper" "list.__len__" x)) (hx : h.get? x = some (accObj C dx its n))
    (hQ : Q (.int its.size t) ⟨h, g, d, t + 1, os⟩) : wpAny (model prog w) A (call (.ref q) []) Q E ⟨h, g, d, t, os⟩ := by
  refine wpAny_call (codeAny_of_tree (R := wants Q E) ?_)
  show wpAny _ A.in1 (callAny (.ref q) _) _ _ _
  unfold callAny
  refine wpAny_bind (wpAny_load hb ?_)
  dsimp only
  rw [if_pos (by decide)]
  have e : checkBoundCall "list.__len__" ⟨[.ref x], []⟩ = pure () := by kernel_rfl
  refine wpAny_bind (m := checkBoundCall "list.__len__" ⟨[.ref x], []⟩) (wpAny_of_eq e ?_)
  refine wpAny_pure ⟨plainId_quiet (by decide +kernel) _, codeAny_builtin AF.e_len ?_⟩
  rw [Around.under_plainId (by decide +kernel) _]
  refine fin_of (A := A) (B := A.in1) ?_
  exact accB_len hx hQ

theorem call_bound_init {q : Addr} {dx : Addr} {n : Nat} {Q : Value → Shared → Prop} (hb : h.get? q = some (boundB "method-wrapper" "list.__init__" x)) (hx : h.get? x = some (accObj C dx #[] n))
    (hQ : Q .none ⟨h.update x (Obj.mapSeq fun _ => #[]), g, d, t, os⟩) : wpAny (model prog w) A (call (.ref q) []) Q E ⟨h, g, d, t, os⟩ := by
  refine wpAny_call (codeAny_of_tree (R := wants Q E) ?_)
  show wpAny _ A.in1 (callAny (.ref q) _) _ _ _
  unfold callAny
  refine wpAny_bind (wpAny_load hb ?_)
  dsimp only
  rw [if_pos (by decide)]
  have e : checkBoundCall "list.__init__" ⟨[.ref x], []⟩ = pure () := by kernel_rfl
  refine wpAny_bind (m := checkBoundCall "list.__init__" ⟨[.ref x], []⟩) (wpAny_of_eq e ?_)
  refine wpAny_pure ⟨plainId_quiet (by decide +kernel) _, codeAny_builtin AF.e_init ?_⟩
  rw [Around.under_plainId (by decide +kernel) _]
  refine fin_of (A := A) (B := A.in1) ?_
  exact accB_init hx hQ

theorem check_pop {oc : Value} {od : Option Addr} {cd : ClassData} {sl : Array (Option Value)} {ox : Obj} {Q : Unit → Shared → Prop} (hC : h.get? C = some ⟨oc, od, .cls cd, sl⟩) (hoc : oc = .type "type") (hqn : cd.qualname = "_Accumulator") (hx : h.get? x = some ox) (hxc : ox.cls = .ref C) (hnc : ∀ c, ox.data ≠ .cls c)
    (hm : Looks (model prog w) h (isInstance (.ref x) (.type "module")) false) (hQ : Q () ⟨h, g, d, t, os⟩) : wpAny (model prog w) A (checkBoundCall "list.pop" ⟨[.ref x], []⟩) Q E ⟨h, g, d, t, os⟩ := by
  unfold checkBoundCall
  have hsig : Manifest.signature? "list.pop" = some ⟨.positional, "list.pop", "pop", .self, [⟨"index", .posOnly, false⟩]⟩ := by kernel_rfl
  simp only [AF.k_pop, hsig]
  rw [if_neg (by decide)]
  refine wpAny_bind (hm.at ?_)
  rw [if_neg (by decide +kernel)]
  have L0 : Looks (model prog w) h (typeOf (.ref x)) (.ref C) := (Looks.ld hx).andThen (by rw [hxc]; exact .now)
  have L1 : Looks (model prog w) h (classData C) cd := (Looks.ld (part := none) hC).andThen .now
  have L2 : Looks (model prog w) h (typeOf (.ref C)) (.type "type") := (Looks.ld hC).andThen (by rw [hoc]; exact .now)
  refine wpAny_bind (ks_wpAny_isType_inst hx hnc ?_)
  rw [if_neg (by decide)]
  refine wpAny_bind (L0.at ?_)
  dsimp only
  refine wpAny_bind (L1.at (wpAny_bind (L2.at ?_)))
  rw [if_pos (by decide), hqn]
  exact wpAny_of_eq (by kernel_rfl) hQ

theorem call_bound_pop {q : Addr} {dx : Addr} {ys : Array Value} {v : Value} {n : Nat} {oc : Value} {od : Option Addr} {cd : ClassData} {sl : Array (Option Value)} {Q : Value → Shared → Prop} (hb : h.get? q = some (boundB "builtin_function_or_method" "list.pop" x)) (hx : h.get? x = some (accObj C dx (ys.push v) n)) (hz : ys.size ≤ 1000)
    (hC : h.get? C = some ⟨oc, od, .cls cd, sl⟩) (hoc : oc = .type "type") (hqn : cd.qualname = "_Accumulator") (hm : Looks (model prog w) h (isInstance (.ref x) (.type "module")) false)
    (hQ : Q v ⟨h.update x (Obj.mapSeq fun y => y.eraseIdxIfInBounds ys.size), g, d, t, os⟩) : wpAny (model prog w) A (call (.ref q) []) Q E ⟨h, g, d, t, os⟩ := by
  refine wpAny_call (codeAny_of_tree (R := wants Q E) ?_)
  show wpAny _ A.in1 (callAny (.ref q) _) _ _ _
  unfold callAny
  refine wpAny_bind (wpAny_load hb ?_)
  dsimp only
  rw [if_pos (by decide)]
  refine wpAny_bind (m := checkBoundCall "list.pop" ⟨[.ref x], []⟩) (check_pop hC hoc hqn hx rfl (fun c e => by cases e) hm ?_)
  refine wpAny_pure ⟨plainId_quiet (by decide +kernel) _, codeAny_builtin AF.e_pop ?_⟩
  rw [Around.under_plainId (by decide +kernel) _]
  refine fin_of (A := A) (B := A.in1) ?_
  exact accB_pop hx hz hQ
end
end
section
theorem calm17 {M : PySem.Model} {A : PySem.Around} {Q : Unit → PySem.Shared → Prop} {E : PySem.Value → PySem.Shared → Prop} {s : PySem.Shared} (h : Q () s) : PySem.wpAny M A (pure ()) Q E s := by
  w_top off
  first | (walk1; done) | exact PySem.wpAny_pure h
open PySem PySem.W PyProof.Rows Builtin Builtin.List Builtin.ObjectAttr
set_option maxHeartbeats 4000000

theorem refuse_list (self : Value) (C : Addr) : refuseLoop self "__setattr__" [.ref C, .type "list", .type "object"] = pure () := by
  rw [refuseLoop_ref]
  kernel_rfl
noncomputable def overList (K : Frag) (C : Addr) : Bool := (clsIn K C).any fun cd => cd.mro == [.ref C, .type "list", .type "object"]

section
variable {prog : Program} {w : World} {A : Around} {E : Value → Shared → Prop} {s : Shared} {K : Frag} {x C dx L : Addr} {h₀ : Heap} {m : Str → Option Value} {news news' : List (Addr × Obj)} {R : Result → Shared → Prop} {ox : Obj} {name : Str} {v : Value} {es es' : List DictEntry} {n n' : Nat}

theorem inst_acc {its : Array Value} {k : Nat} {od : Obj} (N : News h₀ L s.heap news) (h1 : (x, accObj C dx its k) ∈ news) (h2 : (dx, od) ∈ news) : InstAt s.heap x (accObj C dx its k) C (some od) := ⟨(N _ h1).1, rfl, rfl, (N _ h2).1⟩

theorem osa_openL {od : Option Obj} {tk : Tok} {r : Option Value} (X : K.In s.heap) (I : InstAt s.heap x ox C od) (hp : overList K C = true) (ht : takerIn K C name = some r)
    (h : ∀ b, wpAny (model prog w) A.in1 (match r with | some a => setByDescriptor a (.ref x) v | none => storeInOwnDict (.ref x) (.ref C) (.str name tk) name v b)
      (fun fin s' => match fin with | .done f => R (.ok f) s' | .again c' => c'.quiet = true ∧ codeAny (model prog w) A c' R s') (fun e s' => R (.error e) s') s) :
    codeAny (model prog w) A (.call (.builtin "object.__setattr__") ⟨[.ref x, .str name tk, v], []⟩) R s := by
  have SF := PySem.F.store_object
  obtain ⟨cd, hc, ho⟩ := any_some hp
  have hmro : cd.mro = [.ref C, .type "list", .type "object"] := by simpa using ho
  have sub : Looks (model prog w) s.heap (isInstance (.ref x) (.type "object")) true := I.type.andThen (looks_mroIn X (by unfold mroIn; rw [hc, Option.bind_some, hmro]; rfl))
  refine codeAny_call_builtin SF.slot.plain SF.entry (@check_slot (model prog w) _ _ s "object.__setattr__" "object" "__setattr__" (.ref x) [.str name tk, v] [] _ SF.kind SF.split sub (SF.args (.ref x) (.str name tk) v) ?_)
  obtain ⟨attr, ha, hr⟩ := Option.bind_eq_some_iff.mp ht
  have hm : Looks (model prog w) s.heap (mroOf (.ref C)) cd.mro := (looks_clsIn X hc).andThen .now
  have L3 : Looks (model prog w) s.heap (storeTaker? attr) r := by
    cases attr with
    | none => cases hr; exact .now
    | some a =>
      obtain ⟨b, hb, rfl⟩ := Option.map_eq_some_iff.mp hr
      refine (looks_takesIn X hb).andThen ?_
      cases b <;> exact .now
  rw [osa_eq, refuse_eq]
  refine wpAny_bind (wpAny_bind (I.type.here (wpAny_bind (hm.here ?_))))
  rw [hmro, refuse_list]
  refine wpAny_pure (wpAny_bind (I.type.here (wpAny_bind ((looks_findIn X ha).here (wpAny_bind (L3.here ?_))))))
  exact h _

theorem osa_dictL {od od' : Obj} {tk : Tok} {pre post : List (Addr × Obj)} (F : Fr h₀ L s.heap m) (N : News h₀ L s.heap (pre ++ (dx, od) :: post)) (X : K.In s.heap)
    (I : InstAt s.heap x ox C (some od)) (hd : ox.dict = some dx) (hp : overList K C = true) (ht : takerIn K C name = some none) (hh : (clsIn K C).any (·.hasDict) = true)
    (hl : (lookIn name od).isSome = true) (h1 : ∀ p ∈ pre, p.1 ≠ dx) (h2 : ∀ p ∈ post, p.1 ≠ dx)
    (e : Obj.putName name (PyData.keyHash w.params name) (.str name s.toks) v od = od') (e' : od'.data = .dict es.toArray n) (hz : es.length ≤ 1000)
    (h : ∀ h', Fr h₀ L h' m → News h₀ L h' (pre ++ (dx, od') :: post) → R (.ok (.ret .none)) { s with heap := h', toks := s.toks + 1 }) :
    codeAny (model prog w) A (.call (.builtin "object.__setattr__") ⟨[.ref x, .str name tk, v], []⟩) R s := by
  refine osa_openL X I hp ht fun b => ?_
  obtain ⟨cd, hc, hd'⟩ := any_some hh
  obtain ⟨U1, U2⟩ := news_upd (f := Obj.putName name (PyData.keyHash w.params name) (.str name s.toks) v) F N h1 h2 e (by obtain ⟨_, _, dd, _⟩ := od'; cases e'; rfl)
  have D := (N (dx, od) (by simp)).1
  have D' := (U2 (dx, od') (by simp)).1
  obtain ⟨hx, hcl, hn, -⟩ := I
  obtain ⟨oc, odi, oda, osl⟩ := ox
  dsimp only at hcl hd
  subst hcl hd
  refine wpAny_bind (wpAny_pure (wpAny_bind (wpAny_bind (wpAny_loadPart hx (wpAny_bind ((looks_clsIn X hc).here ?_))))))
  rw [hd']
  refine wpAny_pure (a := some dx) (wpAny_bind (wpAny_pure (wpAny_bind ?_)))
  unfold nsSet
  refine wpAny_bind (wpAny_bind (wpAny_askSetting (wpAny_pure (wpAny_bind (wpAny_mkText (wpAny_bind (wpAny_loadPart D ?_)))))))
  unfold lookIn at hl
  split at hl
  · rename_i es₀ n₀ q
    rw [q]
    dsimp only
    have c : (!es₀.any (·.key.isStr name) && es₀.any (·.refKey)) = false := by
      rw [← Array.any_toList, ← Array.any_toList]
      split at hl
      · rename_i en he
        rw [List.any_eq_true.mpr ⟨en, List.mem_of_find?_eq_some he, List.find?_some he⟩]; rfl
      · split at hl
        · cases hl
        · rename_i z; rw [Bool.not_eq_true] at z; rw [z, Bool.and_false]
    rw [aRefKeyMayBeTheName_at, c]
    refine wpAny_updatePart D ?_
    refine wpAny_bind (wpAny_lookBehind D' (by rw [e']; exact pastItsLine_dict (by rw [List.size_toArray, sizeLine_eq]; omega)) ?_)
    exact wpAny_pure (h _ U1 U2)
  · cases hl

theorem set_dictL {Q : Unit → Shared → Prop} (F : Fr h₀ L s.heap m) (X₀ : K.In h₀) (N : News h₀ L s.heap news) (I : InstAt s.heap x ox C (some (dictOf es n))) (hd : ox.dict = some dx)
    (hs : findIn K (.ref C) "__setattr__" = some (some (.builtin "object.__setattr__"))) (hp : overList K C = true) (ht : takerIn K C name = some none) (hh : hasDictIn K C = true) (hl : (getL name es).isSome = true)
    (e : (putL name (PyData.keyHash w.params name) (.str name (s.toks + 1)) v es, putN name es n) = (es', n')) (U : Upd dx (dictOf es n) (dictOf es' n') news news') (hz : es'.length ≤ 1000)
    (h : ∀ h', Fr h₀ L h' m → News h₀ L h' news' → Q () { s with heap := h', toks := s.toks + 2 }) :
    wpAny (model prog w) A (setAttr (.ref x) name v) Q E s := by
  obtain ⟨pre, post, rfl, rfl, a, b⟩ := U.split
  obtain ⟨e1, e2⟩ := Prod.mk.inj e
  exact set_plain (X₀.keeps F.keep) I hs (osa_dictL (s := { s with toks := s.toks + 1 }) F N (X₀.keeps F.keep) I hd hp ht hh hl a b (by rw [putName_dict, e1, e2]) rfl hz fun h' F' N' => h h' F' N')
end
end
section
theorem calm18 {M : PySem.Model} {A : PySem.Around} {Q : Unit → PySem.Shared → Prop} {E : PySem.Value → PySem.Shared → Prop} {s : PySem.Shared} (h : Q () s) : PySem.wpAny M A (pure ()) Q E s := by
  w_top off
  first | (walk1; done) | exact PySem.wpAny_pure h
open PySem PySem.W PyProof.Rows Builtin Builtin.List Builtin.ObjectAttr
set_option maxHeartbeats 4000000

theorem ty_get (K : Frag) : typeIn K (.builtin "list.__getitem__") = some (.type "method_descriptor") := by kernel_rfl
theorem ty_set (K : Frag) : typeIn K (.builtin "list.__setitem__") = some (.type "wrapper_descriptor") := by kernel_rfl
theorem seq_push (C : Addr) (dx : Addr) (its : Array Value) (n : Nat) (v : Value) : Obj.mapSeq (fun y => y.push v) (accObj C dx its n) = accObj C dx (its.push v) (n + 1) := by
  simp [Obj.mapSeq]
theorem seq_same (C : Addr) (dx : Addr) (n : Nat) : Obj.mapSeq (fun _ => #[]) (accObj C dx #[] n) = accObj C dx #[] n := by simp [Obj.mapSeq]
theorem seq_pop (C : Addr) (dx : Addr) (ys : Array Value) (n : Nat) (v : Value) : Obj.mapSeq (fun y => y.eraseIdxIfInBounds ys.size) (accObj C dx (ys.push v) n) = accObj C dx ys (n + 1) := by
  have e : (ys.push v).eraseIdxIfInBounds ys.size = ys := popd
  have e' : (ys.size == (ys.push v).size) = false := by simp
  simp only [Obj.mapSeq, e, e', Bool.false_eq_true, if_false]

section
variable {prog : Program} {w : World} {A : Around} {E : Value → Shared → Prop} {s : Shared} {K : Frag} {x C dx L so D : Addr} {h₀ : Heap} {m : Str → Option Value} {news news' : List (Addr × Obj)} {R : Result → Shared → Prop} {ox : Obj} {name : Str} {v : Value} {es es' : List DictEntry} {n n' : Nat} {its : Array Value} {od : Option Obj}

theorem type_news {M : Model} (N : News h₀ L s.heap news) (hx : (x, accObj C dx its n) ∈ news) : Looks M s.heap (typeOf (.ref x)) (.ref C) := (Looks.ld (N _ hx).1).andThen .now

theorem append_A {Q : Value → Shared → Prop} (F : Fr h₀ L s.heap m) (X₀ : K.In h₀) (N : News h₀ L s.heap news) (hl : subIn K (.ref C) (.type "list") = some true) (U : Upd x (accObj C dx its n) (accObj C dx (its.push v) (n + 1)) news news') (hz : its.size ≤ 1000)
    (h : ∀ h', Fr h₀ L h' m → News h₀ L h' news' → Q .none { s with heap := h' }) : wpAny (model prog w) A (call (.builtin "list.append") [.ref x, v]) Q E s := by
  obtain ⟨pre, post, rfl, rfl, a, b⟩ := U.split
  have hx : (x, accObj C dx its n) ∈ pre ++ (x, accObj C dx its n) :: post := by simp
  obtain ⟨U1, U2⟩ := news_upd (f := Obj.mapSeq fun y => y.push v) F N a b (seq_push C dx its n v) rfl
  have T : Looks (model prog w) s.heap (isInstance (.ref x) (.type "list")) true := (type_news (M := model prog w) N hx).andThen (looks_subIn (X₀.keeps F.keep) hl)
  obtain ⟨hh, g, d, t, os⟩ := s
  exact accM_call (by decide +kernel) AF.e_append AF.k_append (n := "append") (by decide +kernel) (AF.a_append _ _) T (accB_append (N _ hx).1 hz (h _ U1 U2))


theorem item_A {value slice : Expr} {k : Int} {tk : Tok} {Q : Value → Shared → Prop} (F : Fr h₀ L s.heap m) (X₀ : K.In h₀) (I : InstAt s.heap x (accObj C dx its n) C od) (hl : subIn K (.ref C) (.type "list") = some true) (hq : noSeq K C = true)
    (hs : findIn K (.ref C) "__getitem__" = some (some (.builtin "list.__getitem__"))) (h0 : 0 ≤ k) (hfit : k < 2 ^ 63) (hv : its[k.toNat]? = some v) (h : Q v s)
    (hsub : subscripted slice false (.ref x) (.int k tk) = operate [.ref x, .int k tk] (getItem (.ref x) (.int k tk))) (ht : ∀ r, letTemporaryGo value (.ref x) r = pure ()) :
    wpAny (model prog w) A (subscriptTail value slice (.ref x) (.int k tk)) Q E s := by
  have X := X₀.keeps F.keep
  have ty := ty_get K
  obtain ⟨hh, g, d, t, os⟩ := s
  refine subTail_bi X I hq hs ty (by decide) ?_ hsub
  exact accM_call (by decide +kernel) AF.e_get AF.k_get (n := "__getitem__") (by decide +kernel) (AF.a_get _ _) (inst_list X I hl) (accB_get I.at_ h0 hfit hv (wpAny_of_eq (ht _) h))

theorem inst_up {h h' : Heap} {od : Obj} (I : InstAt h x (accObj C dx its n) C (some od)) (k : ∀ b o, h.get? b = some o → h'.get? b = some o) : InstAt h' x (accObj C dx its n) C (some od) := ⟨k _ _ I.at_, rfl, rfl, k _ _ I.dict⟩

theorem slice_A {value slice : Expr} {vl vu : Value} {lo hi : Option Int} {od : Obj} {Q : Value → Shared → Prop} (F : Fr h₀ L s.heap m) (X₀ : K.In h₀) (N : News h₀ L s.heap news) (I : InstAt s.heap x (accObj C dx its n) C (some od)) (hl : subIn K (.ref C) (.type "list") = some true) (hq : noSeq K C = true)
    (hs : findIn K (.ref C) "__getitem__" = some (some (.builtin "list.__getitem__"))) (pl : IsPart vl lo) (pu : IsPart vu hi) (hz : its.size ≤ 1000)
    (h : ∀ l h', Fr h₀ L h' m → News h₀ L h' ((l, listOf (slicePick its lo hi none) 0) :: news) → (∀ p ∈ news, p.1 < l) → Q (.ref l) { s with heap := h' })
    (hsub : subscripted slice false (.ref x) (.ref s.heap.objs.size) = operate [.ref s.heap.objs.size, .ref x] (getItem (.ref x) (.ref s.heap.objs.size))) (ht : ∀ r, letTemporaryGo value (.ref x) r = pure ()) :
    wpAny (model prog w) A (subscriptTail value slice (.ref x) (.ref s.heap.objs.size)) Q E { s with heap := s.heap.push { cls := .type "slice", data := .fields #[vl, vu, .none] } } := by
  have F1 : Fr h₀ L (s.heap.push { cls := .type "slice", data := .fields #[vl, vu, .none] }) m := F.push _
  have N1 : News h₀ L (s.heap.push { cls := .type "slice", data := .fields #[vl, vu, .none] }) news := N.grown fun _ _ e => Heap.get?_push_of_some _ e
  have X : K.In ({ s with heap := s.heap.push { cls := .type "slice", data := .fields #[vl, vu, .none] } } : Shared).heap := X₀.keeps F1.keep
  have I' : InstAt ({ s with heap := s.heap.push { cls := .type "slice", data := .fields #[vl, vu, .none] } } : Shared).heap x (accObj C dx its n) C (some od) := inst_up I fun _ _ e => Heap.get?_push_of_some _ e
  refine subTail_bi X I' hq hs (ty_get K) (by decide) ?_ hsub
  have T := inst_list (M := model prog w) X I' hl
  refine accM_call (by decide +kernel) AF.e_get AF.k_get (n := "__getitem__") (by decide +kernel) (AF.a_get _ _) T ?_
  refine accB_slice I'.at_ (Heap.IsSliceOf.new ..) pl pu hz (wpAny_of_eq (ht _) ?_)
  exact h _ _ (F1.push _) (N1.push F1 _) fun p hp => Heap.lt_size (N1 p hp).1

theorem store_A {vl vu : Value} {lo hi : Option Int} {l : Addr} {ys : Array Value} {k : Nat} {sl : Addr} {od : Obj} {Q : Unit → Shared → Prop} (F : Fr h₀ L s.heap m) (X₀ : K.In h₀) (N : News h₀ L s.heap news) (I : InstAt s.heap x (accObj C dx its n) C (some od)) (hl : subIn K (.ref C) (.type "list") = some true) (hq : noSeq K C = true)
    (hs : findIn K (.ref C) "__setitem__" = some (some (.builtin "list.__setitem__"))) (hsl : s.heap.IsSliceOf sl vl vu .none) (pl : IsPart vl lo) (pu : IsPart vu hi) (hy : (l, listOf ys k) ∈ news) (hz : its.size + ys.size ≤ 1000)
    (a b : Nat) (hab : sliceBounds lo hi none its.size = ((a : Int), (b : Int), 1)) (hb : b ≤ its.size) (hle : a ≤ b) {zs : Array Value} {k' : Nat} (hzs : Obj.mapSeq (fun xs => xs.extract 0 a ++ ys ++ xs.extract b xs.size) (accObj C dx its n) = accObj C dx zs k') (hne : x ≠ l)
    (U : Upd x (accObj C dx its n) (accObj C dx zs k') news news')
    (h : ∀ h', Fr h₀ L h' m → News h₀ L h' news' → Q () { s with heap := h' }) : wpAny (model prog w) A (setItem (.ref x) (.ref sl) (.ref l)) Q E s := by
  obtain ⟨pre, post, rfl, rfl, p1, p2⟩ := U.split
  obtain ⟨U1, U2⟩ := news_upd (f := Obj.mapSeq fun xs => xs.extract 0 a ++ ys ++ xs.extract b xs.size) F N p1 p2 hzs rfl
  have X : K.In s.heap := X₀.keeps F.keep
  refine setItem_bi X I hq hs (ty_set K) (by decide) ?_
  have T := inst_list (M := model prog w) X I hl
  have hyh := (N _ hy).1
  obtain ⟨hh, g, d, t, os⟩ := s
  refine accS_call (by decide +kernel) AF.e_set AF.k_set (n := "__setitem__") (by decide +kernel) (AF.a_set _ _ _) T ?_
  exact accB_store I.at_ hsl pl pu hyh hz a b hab hb hle (h _ U1 U2) hne
end
end
section
theorem calm19 {M : PySem.Model} {A : PySem.Around} {Q : Unit → PySem.Shared → Prop} {E : PySem.Value → PySem.Shared → Prop} {s : PySem.Shared} (h : Q () s) : PySem.wpAny M A (pure ()) Q E s := by
  w_top off
  first | (walk1; done) | exact PySem.wpAny_pure h
open PySem PySem.W PyProof.Rows Builtin Builtin.List Builtin.ObjectAttr
set_option maxHeartbeats 4000000
namespace AF
theorem e_ga : entryFor table "list.__getattribute__" = some Builtin.«object.__getattribute__» :=
  entryFor_alias (id' := "object.__getattribute__") (by rw [fastTable_eq_tree]; kernel_rfl) (by decide +kernel) (by decide +kernel) (by rw [fastTable_eq_tree]; kernel_rfl)
theorem k_ga : builtinKind "list.__getattribute__" = some .slot := by decide +kernel
theorem a_ga (a b : Value) : argsOk "list.__getattribute__" ⟨[a, b], []⟩ := by unfold argsOk; kernel_rfl
theorem c_ga : (Manifest.canonical "list.__getattribute__" != "object.__getattribute__") = false := by decide +kernel
theorem ty_ga (K : Frag) : typeIn K (.builtin "list.__getattribute__") = some (.type "wrapper_descriptor") := by kernel_rfl
end AF

section
variable {prog : Program} {w : World} {A : Around} {E : Value → Shared → Prop} {s : Shared} {K : Frag} {x C L : Addr} {h₀ : Heap} {m : Str → Option Value} {ox : Obj} {od : Option Obj} {name : Str}

theorem bind_ga {M : Model} {h : Heap} (X : K.In h) (self : Value) : Looks M h (bindSpecial (.builtin "list.__getattribute__") self) (.builtin "list.__getattribute__", [self]) :=
  bind_bi (i := "list.__getattribute__") (t := "wrapper_descriptor") X self (AF.ty_ga K) (by decide +kernel)
theorem ga_body {M : Model} {A : Around} {E : Value → Shared → Prop} {s : Shared} {tk : Tok} {v : Value} {Q : Fin → Shared → Prop} (L0 : Looks M s.heap (typeOf (.ref x)) (.ref C)) (L1 : Looks M s.heap (find (.ref x) (.ref C) name) (.value v)) (q : Q (.done (.ret v)) s) :
    wpAny M A (Builtin.«object.__getattribute__» ⟨[.ref x, .str name tk], []⟩) Q E s := by
  unfold Builtin.«object.__getattribute__»
  refine wpAny_bind (wpAny_pure ?_)
  refine wpAny_bind (wpAny_pure ?_)
  refine wpAny_bind (L0.here ?_)
  refine wpAny_bind (L1.here ?_)
  exact wpAny_pure q
theorem get_valueL {v : Value} {expr : Bool} {Q : Value → Shared → Prop} (X : K.In s.heap) (I : InstAt s.heap x ox C od) (hga : findIn K (.ref C) "__getattribute__" = some (some (.builtin "list.__getattribute__"))) (hk : findIn K (.ref C) "__getattr__" = some none)
    (hl : subIn K (.ref C) (.type "list") = some true) (hf : findObj K C od name = some (.value v)) (hh : handedIn v = true) (h : Q v { s with toks := s.toks + 1 }) : wpAny (model prog w) A (getAttr (.ref x) name expr) Q E s := by
  have L0 := I.type (M := model prog w)
  have L1 := looks_find (M := model prog w) X I hf
  have LH : Looks (model prog w) s.heap (hookBefore (.ref C)) none := by
    unfold hookBefore
    rw [if_pos (show onTheHeap (.ref C) = true from rfl)]
    exact looks_findIn X hk
  have T : Looks (model prog w) s.heap (isInstance (.ref x) (.type "list")) true := inst_list X I hl
  have LB : Looks (model prog w) s.heap (bindSpecial (.builtin "list.__getattribute__") (.ref x)) (.builtin "list.__getattribute__", [.ref x]) := bind_ga X (.ref x)
  have body : wpAny (model prog w) A (call (.builtin "list.__getattribute__") [.ref x, .str name s.toks]) (fun v' s' => v' = v ∧ s' = { s with toks := s.toks + 1 }) (fun _ _ => False) { s with toks := s.toks + 1 } := by
    refine accS_call (by decide +kernel) AF.e_ga AF.k_ga (n := "__getattribute__") (by decide +kernel) (AF.a_ga _ _) T ?_
    exact ga_body (s := { s with toks := s.toks + 1 }) L0 L1 ⟨rfl, rfl⟩
  refine wpAny_bind (wpAny_mkText (wpAny_holding (wpAny_bind (L0 _ _ _ _ (fun _ _ e => e) (wpAny_bind (looks_findIn X hga _ _ _ _ (fun _ _ e => e) ?_))))))
  dsimp only
  rw [show (onTheHeap (.ref C) && Value.builtin "list.__getattribute__" == Value.builtin "object.__getattribute__") = false from by rw [show (Value.builtin "list.__getattribute__" == Value.builtin "object.__getattribute__") = false from by decide +kernel, Bool.and_false], if_neg (by decide)]
  unfold getAttrByItsOwn
  refine wpAny_bind (LH _ _ _ _ (fun _ _ e => e) (wpAny_bind (wpAny_attempt (wpAny_holding ?_))))
  unfold callGetattribute
  rw [show (expr && onTheHeap (Value.builtin "list.__getattribute__")) = false from Bool.and_false _, if_neg (by decide)]
  unfold boundAndCalled
  refine wpAny_bind (LB _ _ _ _ (fun _ _ e => e) ?_)
  show wpAny _ _ (call (.builtin "list.__getattribute__") [.ref x, .str name s.toks]) _ _ _
  refine wpAny_mono body (fun v' s' z => ?_) fun _ _ z => z.elim
  obtain ⟨rfl, rfl⟩ := z
  show wpAny _ _ (handedOut v') _ _ _
  rw [handedOut_of hh]
  exact wpAny_pure h

theorem method_mdL {pl : Sem Bool} {f : Value} {tf : String} {Q : Value × List Value → Shared → Prop} (X : K.In s.heap) (I : InstAt s.heap x ox C od) (hga : findIn K (.ref C) "__getattribute__" = some (some (.builtin "list.__getattribute__"))) (hk : findIn K (.ref C) "__getattr__" = some none)
    (hf : findIn K (.ref C) name = some (some f)) (ht : typeIn K f = some (.type tf)) (htf : (tf == "function" || tf == "method_descriptor") = true) (hs : shadowIn od name = some false) (h : Q (f, [.ref x]) s) :
    wpAny (model prog w) A (getMethod (.ref x) name pl) Q E s := by
  have hcan := AF.c_ga
  unfold getMethod specialOf
  refine wpAny_bind (wpAny_bind (I.type.here ((looks_findIn X hga).here ?_)))
  dsimp only
  rw [hcan, if_neg (by decide)]
  refine wpAny_bind (wpAny_bind (I.type.here ((looks_findIn X hk).here ?_)))
  refine wpAny_bind (wpAny_bind (I.type.here ((looks_findIn X hf).here (wpAny_bind ((looks_typeIn X ht).here ?_)))))
  rw [if_neg (by rcases Bool.or_eq_true_iff.mp htf with q | q <;> (rw [beq_iff_eq.mp q]; decide +kernel))]
  refine wpAny_bind (wpAny_loadPart I.at_ ?_)
  have hd := I.dict
  cases e : ox.dict with
  | none => exact wpAny_bind (wpAny_rule (wpAny_pure h))
  | some dx =>
    cases od with
    | none => rw [e] at hd; exact hd.elim
    | some o =>
      rw [e] at hd
      obtain ⟨r, a, b⟩ := Option.map_eq_some_iff.mp hs
      refine wpAny_bind (wpAny_bind (wpAny_loadPart hd ?_))
      rw [nsLook_of a]
      refine wpAny_pure ?_
      rw [b]
      exact wpAny_bind (wpAny_rule (wpAny_pure h))

theorem method_L {pl : Sem Bool} {f : Value} {tf : String} {es : List DictEntry} {n : Nat} {Q : Value × List Value → Shared → Prop} (F : Fr h₀ L s.heap m) (X₀ : K.In h₀) (I : InstAt s.heap x ox C (some (dictOf es n))) (hga : findIn K (.ref C) "__getattribute__" = some (some (.builtin "list.__getattribute__"))) (hk : findIn K (.ref C) "__getattr__" = some none)
    (hf : findIn K (.ref C) name = some (some f)) (ht : typeIn K f = some (.type tf)) (htf : (tf == "function" || tf == "method_descriptor") = true) (hl : getL name es = some none) (h : Q (f, [.ref x]) s) : wpAny (model prog w) A (getMethod (.ref x) name pl) Q E s :=
  method_mdL (X₀.keeps F.keep) I hga hk hf ht htf (by show (lookIn name (dictOf es n)).map _ = _; rw [lookIn_dict, hl]; rfl) h

theorem get_ownL {v : Value} {attr : Option Value} {expr : Bool} {es : List DictEntry} {n : Nat} {Q : Value → Shared → Prop} (F : Fr h₀ L s.heap m) (X₀ : K.In h₀) (I : InstAt s.heap x ox C (some (dictOf es n))) (hga : findIn K (.ref C) "__getattribute__" = some (some (.builtin "list.__getattribute__"))) (hk : findIn K (.ref C) "__getattr__" = some none)
    (hl : subIn K (.ref C) (.type "list") = some true) (hd : hasDictIn K C = true) (ha : findIn K (.ref C) name = some attr) (hn : noGet K attr = true) (hg : getL name es = some (some v)) (hh : handedIn v = true) (h : Q v { s with toks := s.toks + 1 }) :
    wpAny (model prog w) A (getAttr (.ref x) name expr) Q E s :=
  get_valueL (X₀.keeps F.keep) I hga hk hl (findObj_own hd ha hn (by rw [lookIn_dict]; exact hg)) hh h
end
end
section
theorem calm20 {M : PySem.Model} {A : PySem.Around} {Q : Unit → PySem.Shared → Prop} {E : PySem.Value → PySem.Shared → Prop} {s : PySem.Shared} (h : Q () s) : PySem.wpAny M A (pure ()) Q E s := by
  w_top off
  first | (walk1; done) | exact PySem.wpAny_pure h
open PySem PySem.W PyProof.Rows Builtin Builtin.List Builtin.ObjectAttr
set_option maxHeartbeats 4000000
section
variable {prog : Program} {w : World} {A : Around} {E : Value → Shared → Prop} {s : Shared} {K : Frag} {x C dx L so D : Addr} {h₀ : Heap} {m : Str → Option Value} {news news' : List (Addr × Obj)} {its : Array Value} {n : Nat} {od : Obj}

theorem super_len {pl : Sem Bool} {Q : Value × List Value → Shared → Prop} (F : Fr h₀ L s.heap m) (X₀ : K.In h₀) (N : News h₀ L s.heap news) (hso : (so, ks_superObj D x C) ∈ news) (I : InstAt s.heap x (accObj C dx its n) C (some od)) (ho : nsIn K cStatics "thirdparty.any" = some none)
    (hl : subIn K (.ref C) (.type "list") = some true) (hm : ks_superIn K C D "__len__" = some (some (.builtin "list.__len__")))
    (h : ∀ q h', Fr h₀ L h' m → News h₀ L h' ((q, boundB "method-wrapper" "list.__len__" x) :: news) → (∀ p ∈ news, p.1 < q) → Q (.ref q, []) { s with heap := h', toks := s.toks + 1 }) :
    wpAny (model prog w) A (getMethod (.ref so) "__len__" pl) Q E s := by
  have X : K.In s.heap := X₀.keeps F.keep
  have T := inst_list (M := model prog w) X I hl
  obtain ⟨hh, g, d, t, os⟩ := s
  cases hc : clsIn K C with
  | none => unfold ks_superIn at hm; rw [hc] at hm; cases hm
  | some cd =>
    unfold ks_superIn at hm
    rw [hc] at hm
    refine method_super_len (N _ hso).1 (looks_opaque X ho) T (l₀ := cd.mro) (fun A Q E s k q => wpAny_bind ((looks_clsIn X hc) A _ E s k (wpAny_pure q))) rfl X hm (ks_ne X I hc) ?_
    obtain ⟨F', N', l'⟩ := ks_newsPush (s := ⟨hh, g, d, t, os⟩) (o := boundB "method-wrapper" "list.__len__" x) F N rfl (Heap.get?_push_at rfl rfl) (fun b o e => Heap.get?_push_of_some _ e)
    exact h _ _ F' N' l'

theorem bound_len {q : Addr} {Q : Value → Shared → Prop} (N : News h₀ L s.heap news) (hq : (q, boundB "method-wrapper" "list.__len__" x) ∈ news) (hx : (x, accObj C dx its n) ∈ news)
    (h : Q (.int its.size s.toks) { s with toks := s.toks + 1 }) : wpAny (model prog w) A (call (.ref q) []) Q E s := by
  have a1 := (N _ hq).1
  have a2 := (N _ hx).1
  obtain ⟨hh, g, d, t, os⟩ := s
  exact call_bound_len a1 a2 h

noncomputable def BoundP (q : Addr) (T i : String) (x : Addr) (h : Heap) : Prop := h.get? q = some (boundB T i x)
theorem keeps_B {M : Model} {q x : Addr} {T i : String} (ht : (T == "builtin_function_or_method" || T == "method-wrapper") = true) (h : Heap) (X : BoundP q T i x h) : ∃ k, (k = Keeper.frame ∨ k = Keeper.machine ∨ k = Keeper.boundFrame) ∧ Looks M h (keeperOf (.ref q)) k := by
  refine ⟨.machine, .inr (.inl rfl), (Looks.ld (part := none) X).andThen ?_⟩
  rcases Bool.or_eq_true_iff.mp ht with e | e <;> (rw [beq_iff_eq.mp e]; exact Looks.of_pure (by kernel_rfl))
theorem callWith_B {env : Env} {pos : Pos} {first : List Value} {q : Addr} {T i : String} {Q : Value → Shared → Prop} (N : News h₀ L s.heap news) (hq : (q, boundB T i x) ∈ news) (ht : (T == "builtin_function_or_method" || T == "method-wrapper") = true)
    (h : wpAny (model prog w) A (call (.ref q) (first ++ [])) Q E s) : wpAny (model prog w) A (callWith pos (.ref q) first (backTo pos (starEach [] env)) []) Q E s :=
  callWith_of rfl (keeps_B ht) (evalArgs_nil3 ⟨(N _ hq).1, h⟩)
end
end
section
theorem calm21 {M : PySem.Model} {A : PySem.Around} {Q : Unit → PySem.Shared → Prop} {E : PySem.Value → PySem.Shared → Prop} {s : PySem.Shared} (h : Q () s) : PySem.wpAny M A (pure ()) Q E s := by
  w_top off
  first | (walk1; done) | exact PySem.wpAny_pure h
open PySem PySem.W PyProof.Rows Builtin Builtin.List Builtin.ObjectAttr
set_option maxHeartbeats 4000000
section
variable {prog : Program} {w : World} {A : Around} {E : Value → Shared → Prop} {s : Shared} {K : Frag} {x C dx L so D : Addr} {h₀ : Heap} {m : Str → Option Value} {news news' : List (Addr × Obj)} {its ys : Array Value} {n : Nat} {od : Obj} {v : Value}

theorem super_pop {pl : Sem Bool} {Q : Value × List Value → Shared → Prop} (F : Fr h₀ L s.heap m) (X₀ : K.In h₀) (N : News h₀ L s.heap news) (hso : (so, ks_superObj D x C) ∈ news) (I : InstAt s.heap x (accObj C dx its n) C (some od)) (ho : nsIn K cStatics "thirdparty.any" = some none)
    (hl : subIn K (.ref C) (.type "list") = some true) (hm : ks_superIn K C D "pop" = some (some (.builtin "list.pop")))
    (h : ∀ q h', Fr h₀ L h' m → News h₀ L h' ((q, boundB "builtin_function_or_method" "list.pop" x) :: news) → (∀ p ∈ news, p.1 < q) → Q (.ref q, []) { s with heap := h', toks := s.toks + 1 }) :
    wpAny (model prog w) A (getMethod (.ref so) "pop" pl) Q E s := by
  have X : K.In s.heap := X₀.keeps F.keep
  have T := inst_list (M := model prog w) X I hl
  obtain ⟨hh, g, d, t, os⟩ := s
  cases hc : clsIn K C with
  | none => unfold ks_superIn at hm; rw [hc] at hm; cases hm
  | some cd =>
    unfold ks_superIn at hm
    rw [hc] at hm
    refine method_super_pop (N _ hso).1 (looks_opaque X ho) T (l₀ := cd.mro) (fun A Q E s k q => wpAny_bind ((looks_clsIn X hc) A _ E s k (wpAny_pure q))) rfl X hm (ks_ne X I hc) ?_
    obtain ⟨F', N', l'⟩ := ks_newsPush (s := ⟨hh, g, d, t, os⟩) (o := boundB "builtin_function_or_method" "list.pop" x) F N rfl (Heap.get?_push_at rfl rfl) (fun b o e => Heap.get?_push_of_some _ e)
    exact h _ _ F' N' l'

noncomputable def popsIn (K : Frag) (C : Addr) : Bool := match K.lookup C with
  | some ⟨oc, _, .cls cd, _⟩ => oc == .type "type" && cd.qualname == "_Accumulator" && subIn K (.ref C) (.type "module") == some false
  | _ => false
theorem bound_pop {q : Addr} {Q : Value → Shared → Prop} (F : Fr h₀ L s.heap m) (X₀ : K.In h₀) (N : News h₀ L s.heap news) (hp : popsIn K C = true) (hq : (q, boundB "builtin_function_or_method" "list.pop" x) ∈ news) (hys : its = ys.push v) (hz : ys.size ≤ 1000)
    (U : Upd x (accObj C dx its n) (accObj C dx ys (n + 1)) news news')
    (h : ∀ h', Fr h₀ L h' m → News h₀ L h' news' → Q v { s with heap := h' }) : wpAny (model prog w) A (call (.ref q) []) Q E s := by
  subst hys
  obtain ⟨pre, post, rfl, rfl, a, b⟩ := U.split
  have hx : (x, accObj C dx (ys.push v) n) ∈ pre ++ (x, accObj C dx (ys.push v) n) :: post := by simp
  obtain ⟨U1, U2⟩ := news_upd (f := Obj.mapSeq fun y => y.eraseIdxIfInBounds ys.size) F N a b (seq_pop C dx ys n v) rfl
  have X : K.In s.heap := X₀.keeps F.keep
  unfold popsIn at hp
  split at hp
  · rename_i oc odd cd sl hC
    simp only [Bool.and_eq_true, beq_iff_eq] at hp
    obtain ⟨⟨p1, p2⟩, p3⟩ := hp
    have a1 := (N _ hq).1
    have a2 := (N _ hx).1
    have Tm : Looks (model prog w) s.heap (isInstance (.ref x) (.type "module")) false := (type_news (M := model prog w) N hx).andThen (looks_subIn X p3)
    have hC' := X _ _ hC
    obtain ⟨hh, g, d, t, os⟩ := s
    exact call_bound_pop a1 a2 hz hC' p1 p2 Tm (h _ U1 U2)
  · cases hp
end
end
section
theorem calm22 {M : PySem.Model} {A : PySem.Around} {Q : Unit → PySem.Shared → Prop} {E : PySem.Value → PySem.Shared → Prop} {s : PySem.Shared} (h : Q () s) : PySem.wpAny M A (pure ()) Q E s := by
  w_top off
  first | (walk1; done) | exact PySem.wpAny_pure h
open PySem PySem.W PyProof.Rows Builtin Builtin.List Builtin.ObjectAttr
set_option maxHeartbeats 4000000
theorem sb_tail (n : Nat) : sliceBounds (some (n : Int)) none none (n + 1) = ((n : Int), ((n + 1 : Nat) : Int), 1) := by
  simp only [sliceBounds, Option.getD_none, show (1 : Int) > 0 by decide, if_true, if_neg (show ¬ ((n : Int) < 0) by omega)]
  congr 1
  omega
theorem sb_all (n : Nat) : sliceBounds none none none n = (((0 : Nat) : Int), (n : Int), 1) := by
  simp [sliceBounds]
theorem pick_tail (ys : Array Value) (v : Value) : slicePick (ys.push v) (some (ys.size : Int)) none none = #[v] := by
  rw [kmk_pick_nat (ys.push v) (a := ys.size) (b := ys.size + 1) (by rw [Array.size_push]; exact sb_tail _)]
  simp
section
variable {prog : Program} {w : World} {A : Around} {E : Value → Shared → Prop} {s : Shared} {K : Frag} {x C dx L so D : Addr} {h₀ : Heap} {m : Str → Option Value} {news news' : List (Addr × Obj)} {its ys zs : Array Value} {n : Nat} {od : Obj} {v : Value}
theorem store_tail {l : Addr} {k : Nat} {i : Int} {ti : Tok} {Q : Unit → Shared → Prop} (F : Fr h₀ L s.heap m) (X₀ : K.In h₀) (N : News h₀ L s.heap news) (I : InstAt s.heap x (accObj C dx its n) C (some od)) (hl : subIn K (.ref C) (.type "list") = some true) (hq : noSeq K C = true)
    (hs : findIn K (.ref C) "__setitem__" = some (some (.builtin "list.__setitem__"))) (hy : (l, listOf #[] k) ∈ news) (U : Upd x (accObj C dx its n) (accObj C dx ys (n + 1)) news news') (hits : its = ys.push v) (hi : i = (ys.size : Int)) (hz : ys.size < 1000) (hne : x ≠ l)
    (h : ∀ h', Fr h₀ L h' m → News h₀ L h' news' → Q () { s with heap := h' }) :
    wpAny (model prog w) A (setItem (.ref x) (.ref s.heap.objs.size) (.ref l)) Q E { s with heap := s.heap.push { cls := .type "slice", data := .fields #[.int i ti, .none, .none] } } := by
  subst hits hi
  have F1 : Fr h₀ L (s.heap.push { cls := .type "slice", data := .fields #[.int (ys.size : Int) ti, .none, .none] }) m := F.push _
  have N1 : News h₀ L (s.heap.push { cls := .type "slice", data := .fields #[.int (ys.size : Int) ti, .none, .none] }) news := N.grown fun _ _ e => Heap.get?_push_of_some _ e
  have I' : InstAt ({ s with heap := s.heap.push { cls := .type "slice", data := .fields #[.int (ys.size : Int) ti, .none, .none] } } : Shared).heap x (accObj C dx (ys.push v) n) C (some od) := inst_up I fun _ _ e => Heap.get?_push_of_some _ e
  exact store_A (s := { s with heap := s.heap.push { cls := .type "slice", data := .fields #[.int (ys.size : Int) ti, .none, .none] } }) F1 X₀ N1 I' hl hq hs (Heap.IsSliceOf.new ..) (.int _ _) .none hy (by simp; omega) ys.size (ys.size + 1) (by rw [Array.size_push]; exact sb_tail _) (by simp) (by omega) (zs := ys) (k' := n + 1) (by
    have e : (ys.push v).extract 0 ys.size ++ #[] ++ (ys.push v).extract (ys.size + 1) (ys.push v).size = ys := by simp
    have e' : ((ys.push v).size == ys.size) = false := by simp
    have e'' : (ys.size == (ys.push v).size) = false := by simp
    simp only [Obj.mapSeq, e, e', e'', Bool.false_eq_true, if_false]) hne U h

theorem store_all {l : Addr} {k k' : Nat} {Q : Unit → Shared → Prop} (F : Fr h₀ L s.heap m) (X₀ : K.In h₀) (N : News h₀ L s.heap news) (I : InstAt s.heap x (accObj C dx its n) C (some od)) (hl : subIn K (.ref C) (.type "list") = some true) (hq : noSeq K C = true)
    (hs : findIn K (.ref C) "__setitem__" = some (some (.builtin "list.__setitem__"))) (hy : (l, listOf zs k) ∈ news) (hk : k' = if zs.size == its.size then n else n + 1) (U : Upd x (accObj C dx its n) (accObj C dx zs k') news news') (hz : its.size + zs.size ≤ 1000) (hne : x ≠ l)
    (h : ∀ h', Fr h₀ L h' m → News h₀ L h' news' → Q () { s with heap := h' }) :
    wpAny (model prog w) A (setItem (.ref x) (.ref s.heap.objs.size) (.ref l)) Q E { s with heap := s.heap.push { cls := .type "slice", data := .fields #[.none, .none, .none] } } := by
  have F1 : Fr h₀ L (s.heap.push { cls := .type "slice", data := .fields #[.none, .none, .none] }) m := F.push _
  have N1 : News h₀ L (s.heap.push { cls := .type "slice", data := .fields #[.none, .none, .none] }) news := N.grown fun _ _ e => Heap.get?_push_of_some _ e
  have I' : InstAt ({ s with heap := s.heap.push { cls := .type "slice", data := .fields #[.none, .none, .none] } } : Shared).heap x (accObj C dx its n) C (some od) := inst_up I fun _ _ e => Heap.get?_push_of_some _ e
  exact store_A (s := { s with heap := s.heap.push { cls := .type "slice", data := .fields #[.none, .none, .none] } }) F1 X₀ N1 I' hl hq hs (Heap.IsSliceOf.new ..) .none .none hy hz 0 its.size (sb_all _) (Nat.le_refl _) (Nat.zero_le _) (zs := zs) (k' := k') (by
    have e : its.extract 0 0 ++ zs ++ its.extract its.size its.size = zs := by simp
    subst hk
    by_cases h : zs.size = its.size
    · simp [Obj.mapSeq, h]
    · have h1 : (zs.size == its.size) = false := by simp [h]
      have h2 : (its.size == zs.size) = false := by simp; omega
      simp [Obj.mapSeq, h1, h2]) hne U h
end
end
section
theorem calm23 {M : PySem.Model} {A : PySem.Around} {Q : Unit → PySem.Shared → Prop} {E : PySem.Value → PySem.Shared → Prop} {s : PySem.Shared} (h : Q () s) : PySem.wpAny M A (pure ()) Q E s := by
  w_top off
  first | (walk1; done) | exact PySem.wpAny_pure h
open PySem PySem.W PySem.Calls PyProof.Rows Builtin Builtin.List Builtin.ObjectAttr
set_option maxHeartbeats 4000000
section
variable {M : Model} {prog : Program} {w : World} {A : Around} {E : Value → Shared → Prop} {s : Shared} {scope : Scope} {C : Addr} {code : Value} {env : Env} {m mg mb : Str → Option Value} {Q : Value → Shared → Prop}
theorem gen_local {x : Str} {pos : Pos} {v : Value} (hn : s.heap.Ns C m) (hv : m x = some v) (h : Q v s) (hk : scope.kind = .function) (hl : scope.names.lookup x = some .local) (hd : (x == ("__debug__" : Str)) = false) :
    wpAny M A (PySem.eval (.Name x pos) (PySem.genEnv scope [] C code builtinsNs env)) Q E s := wpAny_Name (wpAny_loadName_local hk hl hn hv h) hd
theorem gen_builtin {x : Str} {pos : Pos} {v : Value} (hg : s.heap.Ns mainGlobals mg) (hb : s.heap.Ns builtinsNs mb) (he : env.globals = mainGlobals) (h1 : mg x = none) (h2 : mb x = some v) (h : Q v s)
    (hk : scope.kind = .function) (hl : scope.names.lookup x = some .globalImplicit) (hd : (x == ("__debug__" : Str)) = false) :
    wpAny M A (PySem.eval (.Name x pos) (PySem.genEnv scope [] C code builtinsNs env)) Q E s :=
  Name_function_global hk hl (loadGlobal_builtin (env := PySem.genEnv scope [] C code builtinsNs env) (show s.heap.Ns env.globals mg from he ▸ hg) h1 hb h2 h) hd
theorem gen_global {x : Str} {pos : Pos} {v : Value} (hg : s.heap.Ns mainGlobals mg) (he : env.globals = mainGlobals) (h1 : mg x = some v) (h : Q v s)
    (hk : scope.kind = .function) (hl : scope.names.lookup x = some .globalImplicit) (hd : (x == ("__debug__" : Str)) = false) :
    wpAny M A (PySem.eval (.Name x pos) (PySem.genEnv scope [] C code builtinsNs env)) Q E s :=
  Name_function_global hk hl (loadGlobal_global (env := PySem.genEnv scope [] C code builtinsNs env) (show s.heap.Ns env.globals mg from he ▸ hg) h1 h) hd
end
section
variable {prog : Program} {w : World} {A : Around} {E : Value → Shared → Prop} {s : Shared} {scope : Scope} {C : Addr} {code : Value} {env : Env} {m mg mb : Str → Option Value} 
theorem elt_len {xa xb : Str} {p1 p2 p3 p4 p5 p6 p7 : Pos} {u v : Str} {tu tv : Tok} (hn : s.heap.Ns C m) (ha : m xa = some (.str u tu)) (hb : m xb = some (.str v tv)) (hg : s.heap.Ns mainGlobals mg) (hb' : s.heap.Ns builtinsNs mb) (he : env.globals = mainGlobals)
    (h1 : mg (Str.ofString "len") = none) (h2 : mb (Str.ofString "len") = some (.builtin "len")) (hk : scope.kind = .function) (hla : scope.names.lookup xa = some .local) (hlb : scope.names.lookup xb = some .local)
    (hll : scope.names.lookup (Str.ofString "len") = some .globalImplicit) (hda : (xa == ("__debug__" : Str)) = false) (hdb : (xb == ("__debug__" : Str)) = false) (hu : u.length ≤ 1000) (hv : v.length ≤ 1000) :
    wpAny (model prog w) A (PySem.eval (.BinOp (.Call (.Name (Str.ofString "len") p1) [.Name xa p2] [] p3) .Add (.Call (.Name (Str.ofString "len") p4) [.Name xb p5] [] p6) p7) (PySem.genEnv scope [] C code builtinsNs env))
      (fun y s₃ => (∃ t, y = .int ((u.length : Int) + (v.length : Int)) t) ∧ Keeps s s₃) E s := by
  repeat' (first | ((with_reducible show wpAny _ _ (call (Value.builtin "len") [Value.str _ _]) _ _ _); refine PySem.len_str (by omega) ?_) | ((with_reducible show wpAny _ _ (PySem.eval (.Name (Str.ofString "EMPTYSTRING") _) (PySem.genEnv _ _ _ _ _ _)) _ _ _); refine gen_global (by assumption) (by assumption) (by assumption) ?_ (by assumption) (by assumption) (by decide)) | ((with_reducible show wpAny _ _ (PySem.eval (.Name _ _) (PySem.genEnv _ _ _ _ _ _)) _ _ _); refine gen_local (by assumption) (by assumption) ?_ (by assumption) (by assumption) (by assumption)) | ((with_reducible show wpAny _ _ (PySem.eval (.Name (Str.ofString "len") _) (PySem.genEnv _ _ _ _ _ _)) _ _ _); refine gen_builtin (by assumption) (by assumption) (by assumption) (by assumption) (by assumption) ?_ (by assumption) (by assumption) (by decide)) | walk1 | (dsimp only; walk1))
  exact ⟨_, _, rfl, fun _ _ e => e⟩
theorem elt_join {xa xb : Str} {p1 p2 p3 p4 p5 p6 : Pos} {kt : Nat} {u v : Str} {tu tv te : Tok} (hn : s.heap.Ns C m) (ha : m xa = some (.str u tu)) (hb : m xb = some (.str v tv)) (hg : s.heap.Ns mainGlobals mg) (he : env.globals = mainGlobals)
    (h1 : mg (Str.ofString "EMPTYSTRING") = some (.str (Str.ofString "") te)) (hk : scope.kind = .function) (hla : scope.names.lookup xa = some .local) (hlb : scope.names.lookup xb = some .local)
    (hll : scope.names.lookup (Str.ofString "EMPTYSTRING") = some .globalImplicit) (hda : (xa == ("__debug__" : Str)) = false) (hdb : (xb == ("__debug__" : Str)) = false) (hu : u.length ≤ 1000) (hv : v.length ≤ 1000) {pl : Sem Bool}
    (hcall : PySem.eval (.Call (.Attribute (.Name (Str.ofString "EMPTYSTRING") p1) (Str.ofString "join") p2) [.Tuple [.Name xa p3, .Name xb p4] kt p5] [] p6) (PySem.genEnv scope [] C code builtinsNs env) = (do
      let ov ← PySem.eval (.Name (Str.ofString "EMPTYSTRING") p1) (PySem.genEnv scope [] C code builtinsNs env)
      standAt p2.atName
      let (f, first) ← holding [ov] (getMethod ov (Str.ofString "join") pl)
      callWith p6 f first (backTo p6 (starEach [.Tuple [.Name xa p3, .Name xb p4] kt p5] (PySem.genEnv scope [] C code builtinsNs env))) [])) :
    wpAny (model prog w) A (PySem.eval (.Call (.Attribute (.Name (Str.ofString "EMPTYSTRING") p1) (Str.ofString "join") p2) [.Tuple [.Name xa p3, .Name xb p4] kt p5] [] p6) (PySem.genEnv scope [] C code builtinsNs env))
      (fun y s₃ => (∃ t, y = .str (Txt.join (Str.ofString "") [u, v]) t) ∧ Keeps s s₃) E s := by
  refine MethodCall_ ?_ hcall
  repeat' (first | ((with_reducible show wpAny _ _ (call (Value.builtin "len") [Value.str _ _]) _ _ _); refine PySem.len_str (by omega) ?_) | ((with_reducible show wpAny _ _ (PySem.eval (.Name (Str.ofString "EMPTYSTRING") _) (PySem.genEnv _ _ _ _ _ _)) _ _ _); refine gen_global (by assumption) (by assumption) (by assumption) ?_ (by assumption) (by assumption) (by decide)) | ((with_reducible show wpAny _ _ (PySem.eval (.Name _ _) (PySem.genEnv _ _ _ _ _ _)) _ _ _); refine gen_local (by assumption) (by assumption) ?_ (by assumption) (by assumption) (by assumption)) | ((with_reducible show wpAny _ _ (PySem.eval (.Name (Str.ofString "len") _) (PySem.genEnv _ _ _ _ _ _)) _ _ _); refine gen_builtin (by assumption) (by assumption) (by assumption) (by assumption) (by assumption) ?_ (by assumption) (by assumption) (by decide)) | walk1 | (dsimp only; walk1))
  refine wpAny_newTuple ?_
  repeat' (first | ((with_reducible show wpAny _ _ (call (Value.builtin "len") [Value.str _ _]) _ _ _); refine PySem.len_str (by omega) ?_) | ((with_reducible show wpAny _ _ (PySem.eval (.Name (Str.ofString "EMPTYSTRING") _) (PySem.genEnv _ _ _ _ _ _)) _ _ _); refine gen_global (by assumption) (by assumption) (by assumption) ?_ (by assumption) (by assumption) (by decide)) | ((with_reducible show wpAny _ _ (PySem.eval (.Name _ _) (PySem.genEnv _ _ _ _ _ _)) _ _ _); refine gen_local (by assumption) (by assumption) ?_ (by assumption) (by assumption) (by assumption)) | ((with_reducible show wpAny _ _ (PySem.eval (.Name (Str.ofString "len") _) (PySem.genEnv _ _ _ _ _ _)) _ _ _); refine gen_builtin (by assumption) (by assumption) (by assumption) (by assumption) (by assumption) ?_ (by assumption) (by assumption) (by decide)) | walk1 | (dsimp only; walk1))
  refine join_tupleW (ys := [u, v]) ⟨_, Heap.get?_push_size _ rfl, rfl, 0, rfl⟩ (.cons _ _ (.cons _ _ .nil)) (by decide) (by simp; omega) ?_
  intro t' k
  exact ⟨⟨_, rfl⟩, _, _, rfl, fun _ _ e => Heap.get?_push_of_some _ e⟩
end
end
section
theorem calm24 {M : PySem.Model} {A : PySem.Around} {Q : Unit → PySem.Shared → Prop} {E : PySem.Value → PySem.Shared → Prop} {s : PySem.Shared} (h : Q () s) : PySem.wpAny M A (pure ()) Q E s := by
  w_top off
  first | (walk1; done) | exact PySem.wpAny_pure h
open PySem PySem.W PySem.Calls PyProof.Rows Builtin Builtin.List
set_option maxHeartbeats 4000000
section
variable {prog : Program} {w : World} {A : Around} {E : Value → Shared → Prop} {s : Shared}
theorem Gen_frame {L a : Addr} {n : Nat} {F : Nat → Value → Prop} {h' : Heap} {tk : Nat} (X : Gen prog w A L a n F s) (ht : s.toks ≤ tk) (hs : s.heap.objs.size ≤ h'.objs.size) (hk : ∀ b o, s.heap.get? b = some o → h'.get? b = some o) : Gen prog w A L a n F { s with heap := h', toks := tk } := by
  obtain ⟨fp, wr, g, St, W, hst, hT, ha, hfp, hwr⟩ := X
  exact ⟨fp, wr, g, St, W, W.frame 0 s h' tk hst ht fun b _ o e => hk b o e, hT, ha, fun b hb => Nat.lt_of_lt_of_le (hfp b hb) hs, hwr⟩
theorem Gen_tk {L a : Addr} {n : Nat} {F : Nat → Value → Prop} {tk : Nat} (X : Gen prog w A L a n F s) (ht : s.toks ≤ tk) : Gen prog w A L a n F { s with toks := tk } :=
  Gen_frame (h' := s.heap) X ht (Nat.le_refl _) fun _ _ e => e
end
theorem range_at {n j i : Nat} (h : (List.range n)[j]? = some i) : i = j ∧ j < n := by
  obtain ⟨hl, e⟩ := List.getElem?_eq_some_iff.mp h
  rw [List.getElem_range] at e
  exact ⟨e.symm, by simpa using hl⟩
section
variable {prog : Program} {w : World} {A : Around} {E : Value → Shared → Prop} {s : Shared} {K : Frag} {x C dx L c P : Addr} {h₀ : Heap} {m mg mb : Str → Option Value} {its : Array Value} {n : Nat} {od : Option Obj} {news : List (Addr × Obj)} {up : Obj → List (Addr × Obj)} {o : Obj} {p : Program} {loose : List Str} {mean : ExcName → Option Value}
theorem acc_genexp2 {env : Env} {elt iter : Expr} {xa xb : Str} {pa pb pt : Pos} {kt : Nat} {scope : Scope} {pos : Pos} {Q : Value → Shared → Prop} {tvs : List (Addr × Value × Value)} {Fv : Nat → Value → Prop}
    (F : Fr h₀ L s.heap m) (X₀ : K.In h₀) (N : News h₀ L s.heap news) (T : Top p loose mean mg mb h₀) (U : UpdF P o news up) (ht : Tab o) (hc : env.code = .ref c) (CF : CodeFacts h₀ c P) (hg : env.globals = mainGlobals)
    (I : InstAt s.heap x (accObj C dx its n) C od) (hxP : x ≠ P) (hs : findIn K (.ref C) "__iter__" = some (some (.builtin "list.__iter__"))) (hl : subIn K (.ref C) (.type "list") = some true)
    (hits : its = (tvs.map fun t => Value.ref t.1).toArray) (htup : ∀ t ∈ tvs, (t.1, tupOf #[t.2.1, t.2.2]) ∈ news) (htP : ∀ t ∈ tvs, t.1 ≠ P)
    (hh : A.handled = none) (hco : scope.isCoroutine = false) (hclos : closureFor scope env = pure []) (hcell : ∀ y ∈ scope.names, y.2 ≠ .cell) (h0 : scope.names.lookup (".0" : Str) = some NameKind.local)
    (hxa : scope.names.lookup xa = some .local) (hxb : scope.names.lookup xb = some .local) (hab : xa ≠ xb) (hkind : scope.kind = .function) (hroom : A.depth < recursionLimit) (hsf : ∀ x, genFold iter env x = pure x)
    (hself : ∀ {Q' : Value → Shared → Prop}, Q' (.ref x) s → wpAny (model prog w) A (PySem.eval iter env) Q' E s)
    (helt : ∀ (A' : Around) E' (C' : Addr) (code : Value) (j : Nat) (t : Addr × Value × Value) (s₂ : Shared) m₂, A'.handled = none → tvs[j]? = some t → s₂.heap.Ns mainGlobals mg → s₂.heap.Ns builtinsNs mb →
      s₂.heap.Ns C' m₂ → m₂ xa = some t.2.1 → m₂ xb = some t.2.2 → wpAny (model prog w) A' (PySem.eval elt (PySem.genEnv scope [] C' code builtinsNs env)) (fun y s₃ => Fv j y ∧ Keeps s₂ s₃) E' s₂)
    (hQ : ∀ a h' gg tk' o', Tab o' → Fr h₀ L h' m → News h₀ L h' (up o') → GenMoved s.gens gg → Gen prog w A (s.heap.objs.size - 1) a tvs.length (fun j y => j < tvs.length ∧ Fv j y) { s with heap := h', gens := gg, toks := tk' } →
      (∀ h'', (∀ b o, b ≤ s.heap.objs.size - 1 → h'.get? b = some o → h''.get? b = some o) → Fr h₀ L h'' m ∧ News h₀ L h'' (up o')) →
      Q (.ref a) { s with heap := h', gens := gg, toks := tk' }) :
    wpAny (model prog w) A (PySem.eval (.GeneratorExp elt [⟨.Tuple [.Name xa pa, .Name xb pb] kt pt, iter, [], 0⟩] scope pos) env) Q E s := by
  have hP0 : ∀ b o, h₀.get? b = some o → b ≠ P := fun b ob e q => by
    obtain ⟨pre, post, e1, -⟩ := U.split
    have := (N (P, o) (by rw [e1]; simp)).2.2
    rw [q, this] at e; cases e
  refine acc_genexp (od := od) (tvs := tvs) F X₀ N T U ht hc CF hg I hxP hs hl hits (fun t h => (N _ (htup t h)).1) htP hh hco hclos hcell h0 hxa hxb hab hkind hroom hsf hself
    (fun A' E' C' code j t s₂ m₂ a1 a2 a3 a4 a5 a6 => helt A' E' C' code j t s₂ m₂ a1 a2 (T.g.at fun ob e => a3 _ _ (hP0 _ _ e) (F.keep _ _ e)) (T.b.at fun ob e => a3 _ _ (hP0 _ _ e) (F.keep _ _ e)) a4 a5 a6)
    fun a h' gg tk' o' ht' F' N' gm old G => ?_
  refine hQ a h' gg tk' o' ht' F' N' gm (Gen.imp G fun j y h => ?_) fun h'' hk => ?_
  · obtain ⟨i, e1, e2⟩ := h
    obtain ⟨e3, e4⟩ := range_at e1
    subst e3
    exact ⟨e4, e2⟩
  · have le : ∀ b ob, s.heap.get? b = some ob → b ≤ s.heap.objs.size - 1 := fun b ob e => Nat.le_sub_one_of_lt (Heap.lt_size e)
    refine ⟨⟨?_, fun b ob e => hk _ _ (le _ _ (F.keep _ _ e)) (F'.keep _ _ e), F'.above⟩, ?_⟩
    · obtain ⟨oL, es, ep, hL, r⟩ := F.ns
      exact F'.ns.at fun ob e => hk _ _ (le _ _ hL) e
    · obtain ⟨pre, post, e1, e2, -⟩ := U.split
      rw [e2] at N' ⊢
      intro q hq
      have z := N' q hq
      refine ⟨hk _ _ ?_ z.1, z.2⟩
      rcases List.mem_append.mp hq with hq | hq
      · exact le _ _ (N q (by rw [e1]; simp [hq])).1
      · rcases List.mem_cons.mp hq with rfl | hq
        · exact le _ _ (N (P, o) (by rw [e1]; simp)).1
        · exact le _ _ (N q (by rw [e1]; simp [hq])).1
end
theorem take_sum_le (l : List Nat) (h : ∀ a ∈ l, a ≤ 1000) : ∀ j, ((l.map (fun a : Nat => (a : Int))).take j).sum ≤ 1000 * (j : Int) ∧ 0 ≤ ((l.map (fun a : Nat => (a : Int))).take j).sum := by
  induction l with
  | nil => intro j; simp; omega
  | cons a t ih =>
    intro j
    cases j with
    | zero => simp
    | succ j =>
      have := ih (fun b hb => h b (List.mem_cons_of_mem _ hb)) j
      have ha := h a List.mem_cons_self
      simp only [List.map_cons, List.take_succ_cons, List.sum_cons]
      omega
end
section
theorem calm25 {M : PySem.Model} {A : PySem.Around} {Q : Unit → PySem.Shared → Prop} {E : PySem.Value → PySem.Shared → Prop} {s : PySem.Shared} (h : Q () s) : PySem.wpAny M A (pure ()) Q E s := by
  w_top off
  first | (walk1; done) | exact PySem.wpAny_pure h
open PySem PySem.W PySem.Calls PyProof.Rows Builtin Builtin.List
set_option maxHeartbeats 4000000
noncomputable def codeIn (K : Frag) (c P : Addr) : Bool := match K.lookup c with
  | some ⟨cc, _, .fields vs, _⟩ => (match cc with | .type t => t == "code" | _ => false) && (match vs.getD 11 .none with | .ref q => q == P | _ => false) && (match vs.getD 18 .none with | .str _ _ => true | _ => false) &&
      (match vs.getD 7 .none with | .int _ _ => true | _ => false) && (match vs.getD 9 .none with | .bool _ => true | _ => false) && (match vs.getD 10 .none with | .int _ _ => true | _ => false) && !(Nat.beq c P)
  | _ => false
theorem code_facts {K : Frag} {h : Heap} {c P : Addr} (X : K.In h) (e : codeIn K c P = true) : CodeFacts h c P := by
  unfold codeIn at e
  split at e
  · rename_i a b vs d hC
    simp only [Bool.and_eq_true] at e
    obtain ⟨⟨⟨⟨⟨⟨e0, e1⟩, e2⟩, e3⟩, e4⟩, e5⟩, e6⟩ := e
    have ec : a = .type "code" := by
      split at e0
      · exact congrArg _ (eq_of_beq e0)
      · cases e0
    refine ⟨⟨⟨a, b, .fields vs, d⟩, vs, ?_⟩, ?_⟩
    · split at e1
      · rename_i q hq
        have : q = P := by simpa using e1
        subst this
        split at e2
        · rename_i f tf hf
          split at e3
          · rename_i fl tg hfl
            split at e4
            · rename_i bb hbb
              split at e5
              · rename_i tx tt htx
                exact ⟨f, tf, fl, tg, bb, tx, tt, X _ _ hC, ec, rfl, hq, hf, hfl, hbb, htx⟩
              · cases e5
            · cases e4
          · cases e3
        · cases e2
      · cases e1
    · intro q
      subst q
      simp at e6
  · cases e
section
variable {prog : Program} {w : World} {A : Around} {E : Value → Shared → Prop} {s : Shared} {K : Frag} {x C L f : Addr} {h₀ : Heap} {m : Str → Option Value} {ox : Obj} {od : Option Obj}
noncomputable def TruthBack (Q : Bool → Shared → Prop) (v : Value) (s' : Shared) : Prop := match v with
  | .int n _ => (0 ≤ n ∧ n < 2 ^ 63) ∧ Q (n != 0) { s' with toks := s'.toks + 1 }
  | _ => False
theorem truthy_len {Q : Bool → Shared → Prop} (F : Fr h₀ L s.heap m) (X₀ : K.In h₀) (I : InstAt s.heap x ox C od) (hb : findIn K (.ref C) "__bool__" = some none) (hs : findIn K (.ref C) "__len__" = some (some (.ref f))) (hf : isFn K (.ref f) = true)
    (h : wpAny (model prog w) A.in1 (call (.ref f) [.ref x]) (TruthBack Q) E s) : wpAny (model prog w) A (truthy (.ref x)) Q E s := by
  have X := X₀.keeps F.keep
  have key : wpAny (model prog w) A (runValue (.builtin "len" ⟨[.ref x], []⟩)) (fun r s' => ∃ n t, r = .int n t ∧ Q (n != 0) s') E s := by
    refine wpAny_runValue (codeAny_builtin entry_len ?_)
    rw [Around.under_plainId plain_len _]
    unfold Builtin.«len»
    refine wpAny_bind (m := oneArg "len" _) (wpAny_pure ?_)
    refine wpAny_bind (m := callSpecial? (.ref x) (Str.ofString "__len__")) (special_fn X I hs (beq_iff_eq.mp hf) (wpAny_mono h (fun r s' hr => ?_) fun _ _ y => y))
    cases r <;> first | exact hr.elim | skip
    rename_i n u
    obtain ⟨⟨h0, h1⟩, hq⟩ := hr
    refine wpAny_bind (wpAny_holding (wpAny_pure ?_))
    refine wpAny_bind (wpAny_letGo ?_)
    show wpAny _ _ (if n < 0 then _ else _) _ _ _
    rw [if_neg (by omega)]
    show wpAny _ _ (if n ≥ 2 ^ 63 then _ else _) _ _ _
    rw [if_neg (by omega)]
    exact wpAny_bind (wpAny_mkInt (wpAny_pure ⟨_, _, rfl, hq⟩))
  unfold truthy
  refine wpAny_bind (m := callSpecial? (.ref x) (Str.ofString "__bool__")) (wpAny_bind (wpAny_bind (I.type.here ((looks_findIn X hb).here (wpAny_pure ?_)))))
  refine wpAny_bind (wpAny_bind (I.type.here ((looks_findIn X hs).here ?_)))
  rw [if_neg (by simp)]
  refine wpAny_bind (wpAny_mono key (fun r s' h' => ?_) fun _ _ e => e)
  obtain ⟨n, t, rfl, hq⟩ := h'
  exact wpAny_pure hq
end
end
section
theorem calm26 {M : PySem.Model} {A : PySem.Around} {Q : Unit → PySem.Shared → Prop} {E : PySem.Value → PySem.Shared → Prop} {s : PySem.Shared} (h : Q () s) : PySem.wpAny M A (pure ()) Q E s := by
  w_top off
  first | (walk1; done) | exact PySem.wpAny_pure h
open PySem PySem.W PySem.Calls PyProof.Rows Builtin Builtin.List
set_option maxHeartbeats 4000000
section
variable {prog : Program} {w : World} {A : Around} {E : Value → Shared → Prop} {s : Shared} {env : Env} {h₀ : Heap} {L : Addr} {m : Str → Option Value} {news : List (Addr × Obj)}
theorem For_first {y : Str} {pk pos : Pos} {iter : Expr} {body orelse : List Stmt} {Q : Flow → Shared → Prop}
    (h : wpAny (model prog w) A (PySem.eval iter env) (fun xv s₁ => wpAny (model prog w) A (pyIter xv) (fun it s₂ => wpAny (model prog w) A (pyNext it) (fun r s₃ => ∃ v, r = some v ∧ wpAny (model prog w) A (storeName env y v) (fun _ s₄ => wpAny (model prog w) A (execs body env)
      (fun f s₅ => match f with | .brk => Q .next s₅ | .ret v => Q (.ret v) s₅ | _ => False) E s₄) E s₃) E s₂) E s₁) E s)
    (hs : ∀ x, foldedSetIterable iter env x = pure x := by intro _; rfl) (hE : PassesOwn (model prog w) A env E := by passes_own) :
    wpAny (model prog w) A (exec (.For (.Name y pk) iter body orelse pos) env) Q E s := by
  refine wpAny_For (wpAny_mono h (fun xv s₁ h₁ => wpAny_mono h₁ (fun it s₂ h₂ => ?_) fun _ _ e => e) fun _ _ e => e) hs
  refine codeAny_forLoop_any (fun k s' => s' = s₂) ?_ 0 rfl
  rintro k s' rfl
  refine wpAny_passesOwn hE (wpAny_mono h₂ (fun r s₃ h₃ => ?_) fun _ _ e => e)
  obtain ⟨v, rfl, h₃⟩ := h₃
  dsimp only
  have lg : ∀ {Q' : Unit → Shared → Prop} {E'}, Q' () s₃ → wpAny (model prog w) A (letOwnedTupleGo (.Name y pk) it v) Q' E' s₃ := fun q => wpAny_pure q
  refine lg (wpAny_assign_Name ?_)
  refine wpAny_passesOwn hE (wpAny_mono h₃ (fun _ s₄ h₄ => wpAny_passesOwn hE (wpAny_mono h₄ (fun f s₅ h₅ => ?_) fun _ _ e => e)) fun _ _ e => e)
  cases f with
  | next => exact h₅.elim
  | cont => exact h₅.elim
  | brk => exact h₅
  | ret v => exact h₅

theorem fresh_kept {h h₁ h' : Heap} {o : Obj} (e : h₁ = h.push o) (k : Heap.SameBut h.objs.size h₁ h') : ∀ b ob, h.get? b = some ob → h'.get? b = some ob := fun b ob q => by
  subst e
  exact k.extBut b ob (Nat.ne_of_lt (Heap.lt_size q)) (Heap.get?_push_of_some _ q)

theorem first_str {x : Str} {c : Nat} {t : Tok} {Q : Option Value → Shared → Prop} (F : Fr h₀ L s.heap m) (N : News h₀ L s.heap news) (ha : x.cps.all (· < 128) = true) (hx : x.cps[0]? = some c)
    (h : ∀ h' tk, Fr h₀ L h' m → News h₀ L h' news → Q (some (.str ⟨#[c]⟩ tk)) { s with heap := h', toks := s.toks + 1 }) :
    wpAny (model prog w) A (pyIter (.str x t)) (fun it s₂ => wpAny (model prog w) A (pyNext it) Q E s₂) E s := by
  refine wpAny_pyIter_ascii ha ?_
  refine wpAny_pyNext_ascii_item (i := 0) ⟨_, Heap.get?_push_size _ rfl, rfl, rfl⟩ hx fun h' _ hs => ?_
  have k := fresh_kept rfl hs
  exact h h' _ (F.keeps k) (N.grown k)

theorem first_range {r : Addr} {a b c : Int} {t u v : Tok} {Q : Option Value → Shared → Prop} (F : Fr h₀ L s.heap m) (N : News h₀ L s.heap news) (hr : IsRange s.heap r a b c t u v) (hsm : Builtin.Range.small a b c = true) (hpos : 0 < Builtin.Range.rangeSize a b c)
    (h : ∀ h' tk, Fr h₀ L h' m → News h₀ L h' news → Q (some (.int a tk)) { s with heap := h', toks := s.toks + 1 }) :
    wpAny (model prog w) A (pyIter (.ref r)) (fun it s₂ => wpAny (model prog w) A (pyNext it) Q E s₂) E s := by
  refine wpAny_pyIter_range hr hsm ?_
  refine wpAny_pyNext_range_item (Heap.get?_push_size _ rfl) hpos fun h' _ hs => ?_
  have k := fresh_kept rfl hs
  exact h h' _ (F.keeps k) (N.grown k)
end
end
section
theorem calm27 {M : PySem.Model} {A : PySem.Around} {Q : Unit → PySem.Shared → Prop} {E : PySem.Value → PySem.Shared → Prop} {s : PySem.Shared} (h : Q () s) : PySem.wpAny M A (pure ()) Q E s := by
  w_top off
  first | (walk1; done) | exact PySem.wpAny_pure h
open PySem PySem.W PySem.Calls PyProof.Rows Builtin Builtin.List Builtin.ObjectAttr
set_option maxHeartbeats 4000000
section
variable {prog : Program} {w : World} {A : Around} {E : Value → Shared → Prop} {s : Shared} {h₀ : Heap} {L : Addr} {news : List (Addr × Obj)}
theorem ne_tup {a b : Addr} {x y x' y' : Str} {t u t' u' : Tok} {n n' : Nat} {Q : Value → Shared → Prop} (N : News h₀ L s.heap news) (ha : (a, ({ cls := .type "tuple", data := .seq #[.str x t, .str y u] n } : Obj)) ∈ news) (hb : (b, ({ cls := .type "tuple", data := .seq #[.str x' t', .str y' u'] n' } : Obj)) ∈ news) (hu : A.units < cLine)
    (hne : (x == x') = false) (h : Q (.bool true) s) : wpAny (model prog w) A (compareOp .NotEq (.ref a) (.ref b)) Q E s := by
  have R := SeqAt.RcNeAt.tuples (A := A) (s := s) (l := a) (b := b) (items := #[.str x t, .str y u]) (items2 := #[.str x' t', .str y' u']) (e := fun j => if j = 0 then x == x' else y == y') ⟨_, (N _ ha).1, rfl, _, rfl⟩ ⟨_, (N _ hb).1, rfl, _, rfl⟩ hu (fun j h1 h2 => by
    match j, h1 with
    | 0, _ => exact SeqAt.EqAt.str_str _ _ _ _
    | 1, _ => exact SeqAt.EqAt.str_str _ _ _ _)
  have e : (!((List.range (min (#[Value.str x t, Value.str y u] : Array Value).size (#[Value.str x' t', Value.str y' u'] : Array Value).size)).all (fun j => if j = 0 then x == x' else y == y') && (#[Value.str x t, Value.str y u] : Array Value).size == (#[Value.str x' t', Value.str y' u'] : Array Value).size)) = true := by
    simp [List.range_succ, hne]
  rw [e] at R
  exact R prog w E Q h
end
section
variable {prog : Program} {w : World} {A : Around} {E : Value → Shared → Prop} {s : Shared} {K : Frag} {x C L f : Addr} {h₀ : Heap} {m : Str → Option Value} {ox : Obj} {od : Option Obj} {name : Str} {news : List (Addr × Obj)}
theorem findObj_fn {o : Obj} (hh : hasDictIn K C = true) (ha : findIn K (.ref C) name = some (some (.ref f))) (hn : specialIn K (.ref f) "__get__" = some (some (.builtin "function.__get__"))) (ht : takesIn K (.ref f) = some false) (hc : copiedNames.contains name = false) (hl : lookIn name o = some none) :
    findObj K C (some o) name = some (.bind (.builtin "function.__get__") (.ref f)) := by
  obtain ⟨cd, hc', hd⟩ := any_some hh
  unfold findObj
  have ho : W.ownOf cd (some o) name = some none := by unfold W.ownOf; rw [if_pos hd]; exact hl
  rw [hc', Option.bind_some, ha, Option.bind_some]
  simp only [hn, Option.bind_some, ht, ho, hc, Bool.false_and, Bool.false_eq_true, if_false]
theorem ga_bind {A : Around} {E : Value → Shared → Prop} {s : Shared} {tk : Tok} {Q : Fin → Shared → Prop} (X : K.In s.heap) (hp : typeIn K (.ref f) = some (.type "function")) (L0 : Looks (model prog w) s.heap (typeOf (.ref x)) (.ref C)) (L1 : Looks (model prog w) s.heap (find (.ref x) (.ref C) name) (.bind (.builtin "function.__get__") (.ref f)))
    (q : Q (.done (.ret (.ref s.heap.objs.size))) { s with heap := s.heap.push (methodObj (.ref f) (.ref x)) }) :
    wpAny (model prog w) A (Builtin.«object.__getattribute__» ⟨[.ref x, .str name tk], []⟩) Q E s := by
  unfold Builtin.«object.__getattribute__»
  refine wpAny_bind (wpAny_pure ?_)
  refine wpAny_bind (wpAny_pure ?_)
  refine wpAny_bind (L0.here ?_)
  refine wpAny_bind (L1.here ?_)
  show wpAny _ _ (holding [Value.ref f] (call (.builtin "function.__get__") [.ref f, .ref x, .ref C]) >>= ret) _ _ _
  refine wpAny_bind (wpAny_holding (wpAny_call (fn_get (s := s) X hp ?_)))
  exact wpAny_pure q
theorem get_bmL {expr : Bool} {o : Obj} {Q : Value → Shared → Prop} (F : Fr h₀ L s.heap m) (X₀ : K.In h₀) (N : News h₀ L s.heap news) (I : InstAt s.heap x ox C (some o)) (hga : findIn K (.ref C) "__getattribute__" = some (some (.builtin "list.__getattribute__"))) (hk : findIn K (.ref C) "__getattr__" = some none)
    (hl : subIn K (.ref C) (.type "list") = some true) (hh : hasDictIn K C = true) (ha : findIn K (.ref C) name = some (some (.ref f))) (hp : typeIn K (.ref f) = some (.type "function")) (hn : specialIn K (.ref f) "__get__" = some (some (.builtin "function.__get__"))) (ht : takesIn K (.ref f) = some false) (hc : copiedNames.contains name = false) (hlk : lookIn name o = some none)
    (h : ∀ q h', Fr h₀ L h' m → News h₀ L h' ((q, methodObj (.ref f) (.ref x)) :: news) → (∀ p ∈ news, p.1 < q) → Q (.ref q) { s with heap := h', toks := s.toks + 1 }) : wpAny (model prog w) A (getAttr (.ref x) name expr) Q E s := by
  have X : K.In s.heap := X₀.keeps F.keep
  have L0 := I.type (M := model prog w)
  have L1 := looks_find (M := model prog w) X I (findObj_fn (o := o) hh ha hn ht hc hlk)
  have LH : Looks (model prog w) s.heap (hookBefore (.ref C)) none := by
    unfold hookBefore
    rw [if_pos (show onTheHeap (.ref C) = true from rfl)]
    exact looks_findIn X hk
  have T : Looks (model prog w) s.heap (isInstance (.ref x) (.type "list")) true := inst_list X I hl
  have LB : Looks (model prog w) s.heap (bindSpecial (.builtin "list.__getattribute__") (.ref x)) (.builtin "list.__getattribute__", [.ref x]) := bind_ga X (.ref x)
  have body : wpAny (model prog w) A (call (.builtin "list.__getattribute__") [.ref x, .str name s.toks]) (fun v' s' => v' = .ref s.heap.objs.size ∧ s' = { s with heap := s.heap.push (methodObj (.ref f) (.ref x)), toks := s.toks + 1 }) (fun _ _ => False) { s with toks := s.toks + 1 } := by
    refine accS_call (by decide +kernel) AF.e_ga AF.k_ga (n := "__getattribute__") (by decide +kernel) (AF.a_ga _ _) T ?_
    exact ga_bind (s := { s with toks := s.toks + 1 }) X hp L0 L1 ⟨rfl, rfl⟩
  refine wpAny_bind (wpAny_mkText (wpAny_holding (wpAny_bind (L0 _ _ _ _ (fun _ _ e => e) (wpAny_bind (looks_findIn X hga _ _ _ _ (fun _ _ e => e) ?_))))))
  dsimp only
  rw [show (onTheHeap (.ref C) && Value.builtin "list.__getattribute__" == Value.builtin "object.__getattribute__") = false from by rw [show (Value.builtin "list.__getattribute__" == Value.builtin "object.__getattribute__") = false from by decide +kernel, Bool.and_false], if_neg (by decide)]
  unfold getAttrByItsOwn
  refine wpAny_bind (LH _ _ _ _ (fun _ _ e => e) (wpAny_bind (wpAny_attempt (wpAny_holding ?_))))
  unfold callGetattribute
  rw [show (expr && onTheHeap (Value.builtin "list.__getattribute__")) = false from Bool.and_false _, if_neg (by decide)]
  unfold boundAndCalled
  refine wpAny_bind (LB _ _ _ _ (fun _ _ e => e) ?_)
  show wpAny _ _ (call (.builtin "list.__getattribute__") [.ref x, .str name s.toks]) _ _ _
  refine wpAny_mono body (fun v' s' z => ?_) fun _ _ z => z.elim
  obtain ⟨rfl, rfl⟩ := z
  show wpAny _ _ (handedOut (.ref _)) _ _ _
  rw [handedOut_of rfl]
  exact wpAny_pure (h _ _ (F.push _) (N.push F _) fun p hp => Heap.lt_size (N p hp).1)

theorem callWith_SM {M : Model} {A : Around} {E : Value → Shared → Prop} {s : Shared} {env : Env} {first : List Value} {q g L : Addr} {self : Value} {e : Expr} {p pos : Pos} {Q : Value → Shared → Prop} (_X : K.In h₀) (_N : News h₀ L s.heap news) (_q : (q, methodObj (.ref g) self) ∈ news) (hf : fnIn K g = true) (h : wpAny M A (PySem.eval e env) (fun v s₁ => StarOf M A E v (fun vs s₂ => MethP K q g self s₂.heap ∧ wpAny M A (call (.ref q) (first ++ vs)) Q E s₂) s₁) E s)
    (he : starEach [.Starred e p] env = [(true, PySem.eval e env)] := by rfl) :
    wpAny M A (callWith pos (.ref q) first (backTo pos (starEach [.Starred e p] env)) []) Q E s := by
  rw [he]
  exact ks_call rfl (keeps_M hf) (ks_lone h)
theorem MethodCall_star {M : Model} {E : Value → Shared → Prop} {A : Around} {s : Shared} {env : Env} {o e : Expr} {name : Str} {apos pos p : Pos} {Q : Value → Shared → Prop}
    (h : wpAny M A (PySem.eval o env) (fun ov s₁ => wpAny M A (getAttr ov name true) (fun fx s₂ => wpAny M A (callWith pos fx [] (backTo pos (starEach [.Starred e p] env)) []) Q E s₂) E s₁) E s)
    (he : PySem.eval (.Call (.Attribute o name apos) [.Starred e p] [] pos) env = (do
      let ov ← PySem.eval o env
      standAt apos.atName
      let (f, first) ← holding [ov] (do pure (← getAttr ov name true, []))
      callWith pos f first (backTo pos (starEach [.Starred e p] env)) []) := by rfl) :
    wpAny M A (PySem.eval (.Call (.Attribute o name apos) [.Starred e p] [] pos) env) Q E s := by
  rw [he]
  refine wpAny_bind (wpAny_mono h (fun ov s₁ h₁ => wpAny_bind (wpAny_standAt (wpAny_bind (wpAny_holding (wpAny_bind (wpAny_mono h₁ (fun fx s₂ h₂ => wpAny_pure ?_) fun _ _ x => x)))))) fun _ _ x => x)
  exact h₂
end
end
section
theorem calm28 {M : PySem.Model} {A : PySem.Around} {Q : Unit → PySem.Shared → Prop} {E : PySem.Value → PySem.Shared → Prop} {s : PySem.Shared} (h : Q () s) : PySem.wpAny M A (pure ()) Q E s := by
  w_top off
  first | (walk1; done) | exact PySem.wpAny_pure h
open PySem PySem.W PyProof.Rows Builtin Builtin.List Builtin.ObjectAttr
set_option maxHeartbeats 4000000
section
variable {prog : Program} {w : World} {A : Around} {E : Value → Shared → Prop} {s : Shared} {K : Frag} {x C dx L so D : Addr} {h₀ : Heap} {m : Str → Option Value} {news news' : List (Addr × Obj)} {its : Array Value} {n : Nat} {od : Obj}

theorem super_init {pl : Sem Bool} {Q : Value × List Value → Shared → Prop} (F : Fr h₀ L s.heap m) (X₀ : K.In h₀) (N : News h₀ L s.heap news) (hso : (so, ks_superObj D x C) ∈ news) (I : InstAt s.heap x (accObj C dx its n) C (some od)) (ho : nsIn K cStatics "thirdparty.any" = some none)
    (hl : subIn K (.ref C) (.type "list") = some true) (hm : ks_superIn K C D "__init__" = some (some (.builtin "list.__init__")))
    (h : ∀ q h', Fr h₀ L h' m → News h₀ L h' ((q, boundB "method-wrapper" "list.__init__" x) :: news) → (∀ p ∈ news, p.1 < q) → Q (.ref q, []) { s with heap := h', toks := s.toks + 1 }) :
    wpAny (model prog w) A (getMethod (.ref so) "__init__" pl) Q E s := by
  have X : K.In s.heap := X₀.keeps F.keep
  have T := inst_list (M := model prog w) X I hl
  obtain ⟨hh, g, d, t, os⟩ := s
  cases hc : clsIn K C with
  | none => unfold ks_superIn at hm; rw [hc] at hm; cases hm
  | some cd =>
    unfold ks_superIn at hm
    rw [hc] at hm
    refine method_super_init (N _ hso).1 (looks_opaque X ho) T (l₀ := cd.mro) (fun A Q E s k q => wpAny_bind ((looks_clsIn X hc) A _ E s k (wpAny_pure q))) rfl X hm (ks_ne X I hc) ?_
    obtain ⟨F', N', l'⟩ := ks_newsPush (s := ⟨hh, g, d, t, os⟩) (o := boundB "method-wrapper" "list.__init__" x) F N rfl (Heap.get?_push_at rfl rfl) (fun b o e => Heap.get?_push_of_some _ e)
    exact h _ _ F' N' l'

theorem bound_init {q : Addr} {Q : Value → Shared → Prop} (F : Fr h₀ L s.heap m) (N : News h₀ L s.heap news) (hq : (q, boundB "method-wrapper" "list.__init__" x) ∈ news) 
    (U : Upd x (accObj C dx #[] n) (accObj C dx #[] n) news news')
    (h : ∀ h', Fr h₀ L h' m → News h₀ L h' news' → Q .none { s with heap := h' }) : wpAny (model prog w) A (call (.ref q) []) Q E s := by
  obtain ⟨pre, post, rfl, rfl, a, b⟩ := U.split
  have hx : (x, accObj C dx #[] n) ∈ pre ++ (x, accObj C dx #[] n) :: post := by simp
  obtain ⟨U1, U2⟩ := news_upd (f := Obj.mapSeq fun _ => #[]) F N a b (seq_same C dx n) rfl
  have a1 := (N _ hq).1
  have a2 := (N _ hx).1
  obtain ⟨hh, g, d, t, os⟩ := s
  exact call_bound_init a1 a2 (h _ U1 U2)
end
end
section
theorem calm29 {M : PySem.Model} {A : PySem.Around} {Q : Unit → PySem.Shared → Prop} {E : PySem.Value → PySem.Shared → Prop} {s : PySem.Shared} (h : Q () s) : PySem.wpAny M A (pure ()) Q E s := by
  w_top off
  first | (walk1; done) | exact PySem.wpAny_pure h
open PySem PySem.W PySem.Calls PyProof.Rows Builtin Builtin.List
set_option maxHeartbeats 4000000
noncomputable abbrev rangeIt (x left step : Int) : Obj := { cls := .type "range_iterator", dict := none, data := .fields #[rawInt x, rawInt left, rawInt step], slots := #[] }
theorem range_eq {x y l k : Int} (h : x = y) (h2 : l = k) : some (rangeIt x l 1) = some (rangeIt y k 1) := by rw [h, h2]
/-- how a turn of a loop over a range ends -/
noncomputable def TurnG (h₀ : Heap) (L : Addr) (J : (Str → Option Value) → List (Addr × Obj) → Prop) (it : Addr) (o : Obj) (s₁ : Shared) (Q : Flow → Shared → Prop) (f : Flow) (s₂ : Shared) : Prop :=
  match f with
  | .ret v => Q (.ret v) s₂
  | .brk => Q .next s₂
  | _ => ∃ h' gg tk m' news', s₂ = { s₁ with heap := h', gens := gg, toks := tk } ∧ GenMoved s₁.gens gg ∧ Fr h₀ L h' m' ∧ News h₀ L h' ((it, o) :: news') ∧ (∀ q ∈ news', q.1 ≠ it) ∧ J m' news'
noncomputable def RL (prog : Program) (w : World) (A : Around) (env : Env) (h₀ : Heap) (x : Str) (body : List Stmt) (Q : Flow → Shared → Prop) (E : Value → Shared → Prop) (xv : Value) (s₁ : Shared) : Prop :=
  ∃ (r : Addr) (a b : Int) (t u v : Tok) (m : Str → Option Value) (news : List (Addr × Obj)) (n : Nat) (J : Nat → (Str → Option Value) → List (Addr × Obj) → Prop), xv = .ref r ∧ IsRange s₁.heap r a b 1 t u v ∧ Builtin.Range.small a b 1 = true ∧ Builtin.Range.rangeSize a b 1 = (n : Int) ∧
    Fr h₀ env.locals s₁.heap m ∧ News h₀ env.locals s₁.heap news ∧ J 0 m news ∧
    (∀ (i : Nat) m₁ news₁ (it : Addr) (o : Obj) (s₂ : Shared) (ti : Tok), i < n → J i m₁ news₁ → (∃ h gg tk, s₂ = { s₁ with heap := h, gens := gg, toks := tk } ∧ GenMoved s₁.gens gg) → (∀ q ∈ news₁, q.1 ≠ it) → (∀ q ∈ news, q.1 < it) → o.cls = .type "range_iterator" →
      Fr h₀ env.locals s₂.heap (fun y => if y = x then some (.int (a + (i : Int)) ti) else m₁ y) → News h₀ env.locals s₂.heap ((it, o) :: news₁) →
      wpAny (model prog w) A (execs body env) (TurnG h₀ env.locals (J (i + 1)) it o s₂ Q) E s₂) ∧
    (∀ h' gg tk m' news', Fr h₀ env.locals h' m' → News h₀ env.locals h' news' → J n m' news' → GenMoved s₁.gens gg → Q .next { s₁ with heap := h', gens := gg, toks := tk })
section
variable {prog : Program} {w : World} {A : Around} {E : Value → Shared → Prop} {s : Shared} {env : Env} {h₀ : Heap}
theorem same_frame {L it : Addr} {h h' : Heap} {m : Str → Option Value} {news : List (Addr × Obj)} (F : Fr h₀ L h m) (N : News h₀ L h news) (hs : ∀ b o, b ≠ it → h.get? b = some o → h'.get? b = some o) (hL : it ≠ L) (h0 : h₀.get? it = none) (hn : ∀ q ∈ news, q.1 ≠ it) :
    Fr h₀ L h' m ∧ News h₀ L h' news := by
  refine ⟨⟨F.ns.at fun o e => hs _ _ (Ne.symm hL) e, fun b o e => hs b o (fun q => ?_) (F.keep b o e), F.above⟩, fun q hq => ⟨hs _ _ (hn q hq) (N q hq).1, (N q hq).2⟩⟩
  rw [q, h0] at e; cases e
theorem For_range {x : Str} {px pos : Pos} {iter : Expr} {body : List Stmt} {Q : Flow → Shared → Prop} {m₀ : Str → Option Value} (_F : Fr h₀ env.locals s.heap m₀) (hx : env.kindOf x = some .local) (hp : (env.scope.kind == .class || (env.scope.kind == .module && env.locals != env.globals)) = false) (hh : A.handled = none)
    (h : wpAny (model prog w) A (PySem.eval iter env) (RL prog w A env h₀ x body Q E) E s)
    (hs : ∀ x, foldedSetIterable iter env x = pure x) (hE : PassesOwn (model prog w) A env E) :
    wpAny (model prog w) A (exec (.For (.Name x px) iter body [] pos) env) Q E s := by
  refine wpAny_For (wpAny_mono h (fun xv s₁ h₁ => ?_) fun _ _ e => e) hs
  obtain ⟨r, a, b, t, u, v, m, news, n, J, rfl, hr, hsm, hn, F, N, h0, step, hR⟩ := h₁
  refine wpAny_pyIter_range hr hsm ?_
  have hL : s₁.heap.objs.size ≠ env.locals := by
    obtain ⟨oL, es, ep, hL, _⟩ := F.ns
    exact Ne.symm (Nat.ne_of_lt (Heap.lt_size hL))
  have hnone : h₀.get? s₁.heap.objs.size = none := by
    cases q : h₀.get? s₁.heap.objs.size with
    | none => rfl
    | some o => exact absurd (Heap.lt_size (F.keep _ _ q)) (Nat.lt_irrefl _)
  have hlt : ∀ q ∈ news, q.1 < s₁.heap.objs.size := fun q hq => Heap.lt_size (N q hq).1
  refine codeAny_forLoop_any (fun k s' => ∃ (i : Nat), ∃ h' gg tk m' news', s' = { s₁ with heap := h', gens := gg, toks := tk } ∧ Fr h₀ env.locals h' m' ∧ News h₀ env.locals h' news' ∧ IsRangeIter h' s₁.heap.objs.size (a + (i : Int)) ((n : Int) - i) 1 ∧ (∀ q ∈ news', q.1 ≠ s₁.heap.objs.size) ∧ J i m' news' ∧ GenMoved s₁.gens gg ∧ i ≤ n ∧ k = n - i) ?_ n
    ⟨0, _, _, _, m, news, rfl, F.push _, N.grown (fun _ _ e => Heap.get?_push_of_some _ e), ?_, fun q hq => Nat.ne_of_lt (hlt q hq), h0, .refl, Nat.zero_le _, rfl⟩
  · (intro k s' wq7; obtain ⟨i, h', gg, tk, m', news', rfl, F', N', hit, hne, hJ, hgm, hi, rfl⟩ := wq7)
    by_cases hlt' : i < n
    · refine wpAny_pyNext_range_item hit (by omega) fun h₂ hit₂ hs₂ => ?_
      obtain ⟨F₂, N₂⟩ := same_frame F' N' (fun b o e q => hs₂.extBut b o e q) hL hnone hne
      dsimp only
      have lg : ∀ {Q' : Unit → Shared → Prop} {E' : Value → Shared → Prop} {s' : Shared} {vv : Value}, Q' () s' → wpAny (model prog w) A (letOwnedTupleGo (.Name x px) (.ref s₁.heap.objs.size) vv) Q' E' s' := fun q => wpAny_pure q
      refine lg (wpAny_assign_Name (wpAny_storeName_local hx F₂.ns (fun h₃ hn₃ hs₃ => ?_) hp))
      have F₃ := F₂.set hn₃ hs₃
      have N₃ : News h₀ env.locals h₃ news' := N₂.set hs₃
      have hit₃ : h₃.get? s₁.heap.objs.size = some (rangeIt (a + (i : Int) + 1) ((n : Int) - i - 1) 1) := hs₃.extBut _ _ hL hit₂
      have N₄ : News h₀ env.locals h₃ ((s₁.heap.objs.size, rangeIt (a + (i : Int) + 1) ((n : Int) - i - 1) 1) :: news') := fun q hq => by
        rcases List.mem_cons.mp hq with rfl | hq
        · exact ⟨hit₃, hL, hnone⟩
        · exact N₃ q hq
      refine wpAny_passesOwn hE (wpAny_mono (step i m' news' s₁.heap.objs.size _ _ _ hlt' hJ ⟨h₃, gg, _, rfl, hgm⟩ hne hlt rfl F₃ N₄) (fun f s₅ h₅ => ?_) fun _ _ e => e)
      cases f with
      | brk => exact h₅
      | ret v => exact h₅
      | next =>
        obtain ⟨h₆, g₆, t₆, m₆, n₆, rfl, gm₆, F₆, N₆, ne₆, J₆⟩ := h₅
        refine ⟨n - (i + 1), by omega, i + 1, h₆, g₆, t₆, m₆, n₆, rfl, F₆, fun q hq => N₆ q (List.mem_cons_of_mem _ hq), ?_, ne₆, J₆, hgm.trans gm₆, hlt', rfl⟩
        have := (N₆ _ List.mem_cons_self).1
        show Heap.get? h₆ _ = _
        rw [this]
        exact range_eq (by omega) (by omega)
      | cont =>
        obtain ⟨h₆, g₆, t₆, m₆, n₆, rfl, gm₆, F₆, N₆, ne₆, J₆⟩ := h₅
        refine ⟨n - (i + 1), by omega, i + 1, h₆, g₆, t₆, m₆, n₆, rfl, F₆, fun q hq => N₆ q (List.mem_cons_of_mem _ hq), ?_, ne₆, J₆, hgm.trans gm₆, hlt', rfl⟩
        have := (N₆ _ List.mem_cons_self).1
        show Heap.get? h₆ _ = _
        rw [this]
        exact range_eq (by omega) (by omega)
    · have e : i = n := by omega
      subst e
      refine wpAny_pyNext_range_end hh hit (by omega) fun h₂ hx₂ => ?_
      obtain ⟨F₂, N₂⟩ := same_frame F' N' (fun b o e q => hx₂ b o e q) hL hnone hne
      exact wpAny_execs_nil (hR _ _ _ m' news' F₂ N₂ hJ hgm)
  · show Heap.get? _ _ = _
    refine (Heap.get?_push_size _ rfl).trans ?_
    rw [hn]
    exact range_eq (by omega) (by omega)
end
end
section
theorem calm30 {M : PySem.Model} {A : PySem.Around} {Q : Unit → PySem.Shared → Prop} {E : PySem.Value → PySem.Shared → Prop} {s : PySem.Shared} (h : Q () s) : PySem.wpAny M A (pure ()) Q E s := by
  w_top off
  first | (walk1; done) | exact PySem.wpAny_pure h
open PySem PySem.W PySem.Calls PyProof.Rows Builtin Builtin.List
set_option maxHeartbeats 4000000
theorem iadd_fills : fillsInplaceSlot (.type "list") "add" (Operator.Add == .Add) = pure false := by
  unfold fillsInplaceSlot
  show (typeLookup (.type "list") (dunderI "add") >>= fun fi => pure (fi.isSome && !isSeqSlot fi)) = pure false
  rw [F.slot_list_iadd.lookup]
  rfl
theorem iadd_seq : seqSlot? (.type "list") (dunderI "add") = pure (some (.builtin "list.__iadd__")) := by
  unfold seqSlot?
  rw [F.slot_list_iadd.lookup]
  rfl
section
variable {prog : Program} {w : World} {A : Around} {E : Value → Shared → Prop} {s : Shared} {h₀ : Heap} {L l b : Addr} {m : Str → Option Value} {news news' : List (Addr × Obj)} {its its2 : Array Value} {n n2 : Nat}
theorem list_iadd {Q : Value → Shared → Prop} (F : Fr h₀ L s.heap m) (N : News h₀ L s.heap news) (hl : (l, listOf its n) ∈ news) (hb : (b, listOf its2 n2) ∈ news) (h1 : its.size ≤ 1000) (h2 : its2.size ≤ 1000) (h2' : 0 < its2.size)
    (U : Upd l (listOf its n) (listOf (its ++ its2) (n + 1)) news news') (h : ∀ h', Fr h₀ L h' m → News h₀ L h' news' → Q (.ref l) { s with heap := h' }) : wpAny (model prog w) A (inplaceOp .Add (.ref l) (.ref b)) Q E s := by
  have a1 := (N _ hl).1
  have a2 := (N _ hb).1
  have ha : s.TypeIs (.ref l) "list" := ⟨_, a1, rfl⟩
  have hb' : s.TypeIs (.ref b) "list" := ⟨_, a2, rfl⟩
  obtain ⟨pre, post, rfl, rfl, p1, p2⟩ := U.split
  have hms : Obj.mapSeq (fun x => x ++ its2) (listOf its n) = listOf (its ++ its2) (n + 1) := by
    have e2 : its2 ≠ #[] := fun z => by rw [z] at h2'; exact Nat.lt_irrefl _ h2'
    simp [Obj.mapSeq, e2]
  obtain ⟨U1, U2⟩ := news_upd (f := Obj.mapSeq fun x => x ++ its2) F N p1 p2 hms rfl
  unfold inplaceOp
  refine wpAny_holding ?_
  refine wpAny_bind (wpAny_typeOf ha (wpAny_bind (wpAny_of_eq iadd_fills ?_)))
  show wpAny _ A (if false = true then _ else _) Q E s
  rw [if_neg Bool.false_ne_true]
  refine wpAny_bind (wpAny_binaryOp1_none (nm := "add") ha hb' noFill_list_add ?_)
  refine wpAny_bind (wpAny_of_eq iadd_seq ?_)
  refine wpAny_bind (wpAny_rule ?_)
  refine call_meets PySem.F.slot_list_iadd ha PySem.F.entry_list_iadd (PySem.F.args_list_iadd_2 _ _) (PySem.AutoSeq1.list___iadd___list_list_0 l its n b its2 n2 (by
    have : Builtin.List.listTooLong (its.size + its2.size) = false := by unfold Builtin.List.listTooLong; rw [sizeLine_eq]; exact decide_eq_false (by omega)
    rw [this, Bool.and_false]; exact Bool.false_ne_true) (by rw [sizeLine_eq]; omega) (by rw [sizeLine_eq]; omega)) ⟨a1, a2, ?_⟩
  exact h _ U1 U2
end
end
section
theorem calm31 {M : PySem.Model} {A : PySem.Around} {Q : Unit → PySem.Shared → Prop} {E : PySem.Value → PySem.Shared → Prop} {s : PySem.Shared} (h : Q () s) : PySem.wpAny M A (pure ()) Q E s := by
  w_top off
  first | (walk1; done) | exact PySem.wpAny_pure h
open PySem PySem.W PySem.Calls PyProof.Rows Builtin Builtin.List
set_option maxHeartbeats 4000000
noncomputable def TextL (prog : Program) (w : World) (A : Around) (env : Env) (h₀ : Heap) (v : Str) (body : List Stmt) (Q : Flow → Shared → Prop) (E : Value → Shared → Prop) (xv : Value) (s₁ : Shared) : Prop :=
  ∃ (x : Str) (t : Tok) (m : Str → Option Value) (news : List (Addr × Obj)) (J : Nat → (Str → Option Value) → List (Addr × Obj) → Prop), xv = .str x t ∧ x.cps.all (· < 128) = true ∧
    Fr h₀ env.locals s₁.heap m ∧ News h₀ env.locals s₁.heap news ∧ J 0 m news ∧
    (∀ (i c : Nat) m₁ news₁ (it : Addr) (o : Obj) (s₂ : Shared) (tk : Tok), x.cps[i]? = some c → J i m₁ news₁ → (∃ h gg tk, s₂ = { s₁ with heap := h, gens := gg, toks := tk } ∧ GenMoved s₁.gens gg) → (∀ q ∈ news₁, q.1 ≠ it) → (∀ q ∈ news, q.1 < it) → o.cls = .type "str_ascii_iterator" →
      Fr h₀ env.locals s₂.heap (fun y => if y = v then some (.str ⟨#[c]⟩ tk) else m₁ y) → News h₀ env.locals s₂.heap ((it, o) :: news₁) →
      wpAny (model prog w) A (execs body env) (TurnG h₀ env.locals (J (i + 1)) it o s₂ Q) E s₂) ∧
    (∀ h' gg tk m' news', Fr h₀ env.locals h' m' → News h₀ env.locals h' news' → J x.cps.size m' news' → GenMoved s₁.gens gg → Q .next { s₁ with heap := h', gens := gg, toks := tk })
section
variable {prog : Program} {w : World} {A : Around} {E : Value → Shared → Prop} {s : Shared} {env : Env} {h₀ : Heap}
theorem For_text {v : Str} {px pos : Pos} {iter : Expr} {body : List Stmt} {Q : Flow → Shared → Prop} {m₀ : Str → Option Value} (_F : Fr h₀ env.locals s.heap m₀) (hx : env.kindOf v = some .local) (hp : (env.scope.kind == .class || (env.scope.kind == .module && env.locals != env.globals)) = false) (hh : A.handled = none)
    (h : wpAny (model prog w) A (PySem.eval iter env) (TextL prog w A env h₀ v body Q E) E s)
    (hs : ∀ x, foldedSetIterable iter env x = pure x) (hE : PassesOwn (model prog w) A env E) :
    wpAny (model prog w) A (exec (.For (.Name v px) iter body [] pos) env) Q E s := by
  refine wpAny_For (wpAny_mono h (fun xv s₁ h₁ => ?_) fun _ _ e => e) hs
  obtain ⟨x, t, m, news, J, rfl, ha, F, N, h0, step, hR⟩ := h₁
  refine wpAny_pyIter_ascii ha ?_
  have hL : s₁.heap.objs.size ≠ env.locals := by
    obtain ⟨oL, es, ep, hL, _⟩ := F.ns
    exact Ne.symm (Nat.ne_of_lt (Heap.lt_size hL))
  have hnone : h₀.get? s₁.heap.objs.size = none := by
    cases q : h₀.get? s₁.heap.objs.size with
    | none => rfl
    | some o => exact absurd (Heap.lt_size (F.keep _ _ q)) (Nat.lt_irrefl _)
  have hlt : ∀ q ∈ news, q.1 < s₁.heap.objs.size := fun q hq => Heap.lt_size (N q hq).1
  refine codeAny_forLoop_any (fun k s' => ∃ (i : Nat), ∃ h' gg tk m' news', s' = { s₁ with heap := h', gens := gg, toks := tk } ∧ Fr h₀ env.locals h' m' ∧ News h₀ env.locals h' news' ∧ h'.IsStrIter s₁.heap.objs.size "str_ascii_iterator" x t i ∧ (∀ q ∈ news', q.1 ≠ s₁.heap.objs.size) ∧ J i m' news' ∧ GenMoved s₁.gens gg ∧ i ≤ x.cps.size ∧ k = x.cps.size - i) ?_ x.cps.size
    ⟨0, _, _, _, m, news, rfl, F.push _, N.grown (fun _ _ e => Heap.get?_push_of_some _ e), ⟨_, Heap.get?_push_size _ rfl, rfl, rfl⟩, fun q hq => Nat.ne_of_lt (hlt q hq), h0, .refl, Nat.zero_le _, rfl⟩
  · (intro k s' wq8; obtain ⟨i, h', gg, tk, m', news', rfl, F', N', hit, hne, hJ, hgm, hi, rfl⟩ := wq8)
    cases hc : x.cps[i]? with
    | some c =>
      have hlt' : i < x.cps.size := (Array.getElem?_eq_some_iff.mp hc).1
      refine wpAny_pyNext_ascii_item hit hc fun h₂ hit₂ hs₂ => ?_
      obtain ⟨F₂, N₂⟩ := same_frame F' N' (fun b o e q => hs₂.extBut b o e q) hL hnone hne
      dsimp only
      have lg : ∀ {Q' : Unit → Shared → Prop} {E' : Value → Shared → Prop} {s' : Shared} {vv : Value}, Q' () s' → wpAny (model prog w) A (letOwnedTupleGo (.Name v px) (.ref s₁.heap.objs.size) vv) Q' E' s' := fun q => wpAny_pure q
      refine lg (wpAny_assign_Name (wpAny_storeName_local hx F₂.ns (fun h₃ hn₃ hs₃ => ?_) hp))
      have F₃ := F₂.set hn₃ hs₃
      have N₃ : News h₀ env.locals h₃ news' := N₂.set hs₃
      obtain ⟨o, ho, hoc, hod⟩ := hit₂.extBut hs₃.extBut hL
      have N₄ : News h₀ env.locals h₃ ((s₁.heap.objs.size, o) :: news') := fun q hq => by
        rcases List.mem_cons.mp hq with rfl | hq
        · exact ⟨ho, hL, hnone⟩
        · exact N₃ q hq
      refine wpAny_passesOwn hE (wpAny_mono (step i c m' news' s₁.heap.objs.size o _ _ hc hJ ⟨h₃, gg, _, rfl, hgm⟩ hne hlt hoc F₃ N₄) (fun f s₅ h₅ => ?_) fun _ _ e => e)
      cases f with
      | brk => exact h₅
      | ret v => exact h₅
      | next =>
        obtain ⟨h₆, g₆, t₆, m₆, n₆, rfl, gm₆, F₆, N₆, ne₆, J₆⟩ := h₅
        exact ⟨x.cps.size - (i + 1), by omega, i + 1, h₆, g₆, t₆, m₆, n₆, rfl, F₆, fun q hq => N₆ q (List.mem_cons_of_mem _ hq), ⟨o, (N₆ _ List.mem_cons_self).1, hoc, hod⟩, ne₆, J₆, hgm.trans gm₆, hlt', rfl⟩
      | cont =>
        obtain ⟨h₆, g₆, t₆, m₆, n₆, rfl, gm₆, F₆, N₆, ne₆, J₆⟩ := h₅
        exact ⟨x.cps.size - (i + 1), by omega, i + 1, h₆, g₆, t₆, m₆, n₆, rfl, F₆, fun q hq => N₆ q (List.mem_cons_of_mem _ hq), ⟨o, (N₆ _ List.mem_cons_self).1, hoc, hod⟩, ne₆, J₆, hgm.trans gm₆, hlt', rfl⟩
    | none =>
      have e : i = x.cps.size := Nat.le_antisymm hi (by simpa using hc)
      subst e
      refine wpAny_pyNext_ascii_end hh hit hc fun h₂ hx₂ => ?_
      obtain ⟨F₂, N₂⟩ := same_frame F' N' (fun b o e q => hx₂ b o e q) hL hnone hne
      exact wpAny_execs_nil (hR _ _ _ m' news' F₂ N₂ hJ hgm)
end
end
section
theorem calm32 {M : PySem.Model} {A : PySem.Around} {Q : Unit → PySem.Shared → Prop} {E : PySem.Value → PySem.Shared → Prop} {s : PySem.Shared} (h : Q () s) : PySem.wpAny M A (pure ()) Q E s := by
  w_top off
  first | (walk1; done) | exact PySem.wpAny_pure h
open PySem PySem.W PySem.Calls PyProof.Rows Builtin Builtin.List
set_option maxHeartbeats 4000000
theorem comp_end {h₀ : Heap} {L I C D : Addr} {m : Str → Option Value} {s₁ : Shared} {oI oC oD : Obj} {S : List (Addr × Obj) → Prop} {rest : Value → List (Addr × Obj) → Prop} {y : Value} {h' : Heap} {tk : Nat} {news' : List (Addr × Obj)}
    (F : Fr h₀ L h' m) (N : News h₀ L h' ((I, oI) :: (C, oC) :: (D, oD) :: news')) (off : LCg.Off3 I C D news') (hS : S news') (r : rest y news') :
    LCg.CompEnd h₀ L m s₁ I oI C oC D oD S rest y { s₁ with heap := h', toks := tk } := LCg.CompEnd.intro F N news' (fun _ h => h) off hS r
end
section
theorem calm33 {M : PySem.Model} {A : PySem.Around} {Q : Unit → PySem.Shared → Prop} {E : PySem.Value → PySem.Shared → Prop} {s : PySem.Shared} (h : Q () s) : PySem.wpAny M A (pure ()) Q E s := by
  w_top off
  first | (walk1; done) | exact PySem.wpAny_pure h
open PySem PySem.W PySem.Calls PyProof.Rows Builtin Builtin.List PyProof.Rows.LCg
set_option maxHeartbeats 4000000
/-- what feeds a comprehension: its iterator's steps, each up to the target's binding. wr: what a step may change; Ow: what must hold of the comprehension's own frame. -/
structure Feed (prog : Program) (w : World) (A : Around) (target : Expr) (I : Addr) (cenv : Env) (wr : Addr → Prop) (n : Nat) (Bd St : Nat → Heap → Prop) (Ow : Heap → Prop) : Prop where
  oframe : ∀ h h', Ow h → (∀ b o, wr b → h.get? b = some o → h'.get? b = some o) → Ow h'
  item : ∀ i (s : Shared) (Q : Shared → Prop) (E : Value → Shared → Prop), i < n → St i s.heap → Ow s.heap →
    (∀ h' tk, St (i + 1) h' → Bd i h' → Ow h' → (∀ b o, ¬ wr b → s.heap.get? b = some o → h'.get? b = some o) → Q { s with heap := h', toks := tk }) →
    wpAny (model prog w) A (pyNext (.ref I)) (fun r s₁ => match r with
      | none => False
      | some v => wpAny (model prog w) A (letOwnedTupleGo target (.ref I) v) (fun _ s₀ => wpAny (model prog w) A (assign target cenv v) (fun _ s₂ => Q s₂) E s₀) E s₁) E s
  done : ∀ (s : Shared) (Q : Shared → Prop) (E : Value → Shared → Prop), St n s.heap →
    (∀ h' tk, (∀ b o, ¬ wr b → s.heap.get? b = some o → h'.get? b = some o) → (Ow s.heap → Ow h') → Q { s with heap := h', toks := tk }) →
    wpAny (model prog w) A (pyNext (.ref I)) (fun r s₁ => match r with
      | none => Q s₁
      | some _ => False) E s
  self : ∀ (s : Shared) (Q : Value → Shared → Prop) (E : Value → Shared → Prop), St 0 s.heap → Q (.ref I) s → wpAny (model prog w) A (pyIter (.ref I)) Q E s
noncomputable def testsOf (ifs : List Expr) (env : Env) : Sem Bool := forIn ifs true fun c r => if r = true then do let ok ← isTrue c env (eval c env); pure (ForInStep.yield ok) else pure (ForInStep.yield r)
section
variable {prog : Program} {w : World} {A : Around} {E : Value → Shared → Prop} {R : Result → Shared → Prop} {s : Shared}
theorem loop_G {elt target iter : Expr} {ifs : List Expr} {scope : Scope} {pos : Pos} {it acc : Value} {env : Env} (J : Nat → Shared → Prop)
    (turn : ∀ k s, J k s → wpAny (model prog w) A (pyNext it) (fun r s₁ => match r with
      | none => R (.ok .next) s₁
      | some v => wpAny (model prog w) A (letOwnedTupleGo target it v) (fun _ s₀ => wpAny (model prog w) A (assign target env v) (fun _ s₂ =>
          wpAny (model prog w) A (testsOf ifs env) (fun ok s₃ =>
            if ok = true then wpAny (model prog w) A (eval elt env) (fun x s₄ => wpAny (model prog w) A (call (.builtin "list.append") [acc, x]) (fun _ s₅ => ∃ j, j < k ∧ J j s₅) (notedBy (model prog w) A env fun e s' => R (.error e) s') s₄) (notedBy (model prog w) A env fun e s' => R (.error e) s') s₃
            else ∃ j, j < k ∧ J j s₃) (notedBy (model prog w) A env fun e s' => R (.error e) s') s₂)
          (notedBy (model prog w) A env fun e s' => R (.error e) s') s₀) (notedBy (model prog w) A env fun e s' => R (.error e) s') s₁) (notedBy (model prog w) A env fun e s' => R (.error e) s') s)
    (k : Nat) (h : J k s) : codeAny (model prog w) A (.compLoop (.ListComp elt [⟨target, iter, ifs, 0⟩] scope pos) 0 it acc env) R s := by
  refine codeAny_loop rfl J (fun k s hJ => ?_) k h
  show wpAny _ A ((compTurn (.ListComp elt [⟨target, iter, ifs, 0⟩] scope pos) 0 it acc env).onRaise (fun x => do noteFrame x env; theTreesLotGoes x)) _ _ s
  refine wpAny_noted ?_
  rw [compTurn_list]
  refine wpAny_bind (wpAny_standAt (wpAny_bind (wpAny_mono (turn k s hJ) (fun r s₁ h₁ => ?_) fun _ _ x => x)))
  match r with
  | none => exact wpAny_pure h₁
  | some v =>
    refine wpAny_bind (wpAny_mono h₁ (fun _ s₀ h₀ => ?_) fun _ _ x => x)
    refine wpAny_bind (wpAny_mono h₀ (fun _ s₂ h₂ => ?_) fun _ _ x => x)
    refine wpAny_bind (wpAny_mono h₂ (fun ok s₃ h₃ => ?_) fun _ _ x => x)
    match ok with
    | false => exact wpAny_pure ⟨rfl, h₃⟩
    | true => exact wpAny_bind (wpAny_bind (wpAny_mono h₃ (fun y s₄ h₄ => wpAny_bind (wpAny_mono h₄ (fun _ s₅ h₅ => wpAny_pure (wpAny_pure ⟨rfl, h₅⟩)) fun _ _ x => x)) fun _ _ x => x))
/-- the frame of a comprehension, with its own cells -/
theorem open_G {M : Model} {scope : Scope} {globals : Addr} {closure : List (Str × Addr)} {qual : Str} {outer : Env} {Q : Env → Shared → Prop}
    (h : Q { scope, locals := s.heap.objs.size, globals, cells := cellsFrom (s.heap.objs.size + 1) scope.names closure, qual, func := none, code := outer.code, frame := outer.frame, builtins := outer.builtins }
      { s with heap := pushCells (s.heap.push { cls := .type "dict", data := .dict #[] }) scope.names }) :
    wpAny M A (newFunctionEnv scope globals closure [] qual none .none (some outer)) Q E s := by
  simp only [newFunctionEnv, Option.isSome_some, if_true]
  refine wpAny_bind (wpAny_alloc ?_)
  refine wpAny_bind (wpAny_layCells _ (fun name kind cells => by cases hkc : kind == NameKind.cell <;> simp [hkc]) _ _ _ _ ?_)
  rw [show ({ s with heap := s.heap.push { cls := .type "dict", data := .dict #[] } } : Shared).heap.objs.size = s.heap.objs.size + 1 from Heap.size_push ..]
  simp only [List.forIn_nil]
  exact wpAny_bind (wpAny_pure (wpAny_pure h))
end
end
section
theorem calm34 {M : PySem.Model} {A : PySem.Around} {Q : Unit → PySem.Shared → Prop} {E : PySem.Value → PySem.Shared → Prop} {s : PySem.Shared} (h : Q () s) : PySem.wpAny M A (pure ()) Q E s := by
  w_top off
  first | (walk1; done) | exact PySem.wpAny_pure h
open PySem PySem.W PySem.Calls PyProof.Rows Builtin Builtin.List PyProof.Rows.LCg
set_option maxHeartbeats 4000000
/-- how a turn of a comprehension ends -/
noncomputable def EndG (h₀ : Heap) (L : Addr) (m : Str → Option Value) (D : Addr) (ys : List Value) (wr : Addr → Prop) (St Ow : Heap → Prop) (rest : List (Addr × Obj) → Prop) (s₁ s' : Shared) : Prop :=
  ∃ h' tk news', s' = { s₁ with heap := h', toks := tk } ∧ Fr h₀ L h' m ∧ News h₀ L h' ((D, lst ys) :: news') ∧ (∀ p ∈ news', p.1 ≠ D ∧ ¬ wr p.1) ∧ St h' ∧ Ow h' ∧ rest news'
section
variable {prog : Program} {w : World} {A : Around} {E : Value → Shared → Prop} {h₀ : Heap} {L : Addr} {m : Str → Option Value} {env : Env} {s₂ : Shared} {news : List (Addr × Obj)}
theorem fr_wr {h h' : Heap} {wr : Addr → Prop} (F : Fr h₀ L h m) (wL : ¬ wr L) (w0 : ∀ b, wr b → h₀.get? b = none) (hk : ∀ b o, ¬ wr b → h.get? b = some o → h'.get? b = some o) : Fr h₀ L h' m :=
  ⟨F.ns.at' fun o e => hk L o wL e, fun b o e => hk b o (fun q => by rw [w0 b q] at e; cases e) (F.keep b o e), F.above⟩
theorem news_wr {h h' : Heap} {wr : Addr → Prop} (N : News h₀ L h news) (hk : ∀ b o, ¬ wr b → h.get? b = some o → h'.get? b = some o) (off : ∀ p ∈ news, ¬ wr p.1) : News h₀ L h' news :=
  fun p hp => ⟨hk _ _ (off p hp) (N p hp).1, (N p hp).2⟩
theorem item_then {target : Expr} {I : Addr} {cenv : Env} {wr : Addr → Prop} {n : Nat} {Bd St : Nat → Heap → Prop} {Ow : Heap → Prop} (Fd : Feed prog w A target I cenv wr n Bd St Ow) {i : Nat} {s : Shared} {P X : Shared → Prop} (hi : i < n) (hst : St i s.heap) (how : Ow s.heap)
    (h : ∀ h' tk, St (i + 1) h' → Bd i h' → Ow h' → (∀ b o, ¬ wr b → s.heap.get? b = some o → h'.get? b = some o) → P { s with heap := h', toks := tk }) :
    wpAny (model prog w) A (pyNext (.ref I)) (fun r s₁ => match r with
      | none => X s₁
      | some v => wpAny (model prog w) A (letOwnedTupleGo target (.ref I) v) (fun _ s₀ => wpAny (model prog w) A (assign target cenv v) (fun _ s₂ => P s₂) E s₀) E s₁) E s :=
  wpAny_mono (Fd.item i s P E hi hst how h) (fun r s₁ h₁ => by
    match r with
    | none => exact h₁.elim
    | some v => exact h₁) fun _ _ x => x
theorem done_then {target : Expr} {I : Addr} {cenv : Env} {wr : Addr → Prop} {n : Nat} {Bd St : Nat → Heap → Prop} {Ow : Heap → Prop} (Fd : Feed prog w A target I cenv wr n Bd St Ow) {s : Shared} {X : Shared → Prop} {Y : Value → Shared → Prop} (hst : St n s.heap)
    (h : ∀ h' tk, (∀ b o, ¬ wr b → s.heap.get? b = some o → h'.get? b = some o) → (Ow s.heap → Ow h') → X { s with heap := h', toks := tk }) :
    wpAny (model prog w) A (pyNext (.ref I)) (fun r s₁ => match r with
      | none => X s₁
      | some v => Y v s₁) E s :=
  wpAny_mono (Fd.done s X E hst h) (fun r s₁ h₁ => by
    match r with
    | none => exact h₁
    | some v => exact h₁.elim) fun _ _ x => x
theorem comp_G {elt target iter : Expr} {ifs : List Expr} {scope : Scope} {cl : List (Str × Addr)} {pos : Pos} {I : Addr} {wr : Addr → Prop} {n : Nat} {Bd St : Nat → Heap → Prop} {Ow : Heap → Prop} {J : Nat → List Value → List (Addr × Obj) → Prop} {RR : Value → Addr → Result → Shared → Prop} {D C : Addr}
    (eD : D = s₂.heap.objs.size) (eC : C = s₂.heap.objs.size + 1) (hn : n ≤ sizeLine)
    (Fd : Feed prog w A target I (compEnvC scope (cellsFrom (C + 1) scope.names cl) C env) wr n Bd St Ow)
    (sframe : ∀ i h h', St i h → (∀ b o, b ≠ D → h.get? b = some o → h'.get? b = some o) → St i h')
    (hst : St 0 s₂.heap) (hOw : Ow (pushCells ((s₂.heap.push { cls := .type "list", data := .seq #[] }).push { cls := .type "dict", data := .dict #[] }) scope.names))
    (wD : ¬ wr D) (wL : ¬ wr L) (w0 : ∀ b, wr b → h₀.get? b = none) (wN : ∀ p ∈ news, ¬ wr p.1) (hOC : ∀ h, Ow h → ∃ m', h.Ns C m')
    (F : Fr h₀ L s₂.heap m) (N : News h₀ L s₂.heap news) (h0 : J 0 [] news)
    (body : ∀ i ys news h tk (E' : Value → Shared → Prop), i < n → J i ys news → ys.length ≤ i → Fr h₀ L h m → News h₀ L h ((D, lst ys) :: news) → (∀ p ∈ news, p.1 ≠ D ∧ ¬ wr p.1) → St (i + 1) h → Bd i h → Ow h →
      wpAny (model prog w) A (testsOf ifs (compEnvC scope (cellsFrom (C + 1) scope.names cl) C env)) (fun ok s₃ =>
        if ok = true then wpAny (model prog w) A (eval elt (compEnvC scope (cellsFrom (C + 1) scope.names cl) C env)) (fun y s₄ => EndG h₀ L m D ys wr (St (i + 1)) Ow (J (i + 1) (ys ++ [y])) s₂ s₄) E' s₃
        else EndG h₀ L m D ys wr (St (i + 1)) Ow (J (i + 1) ys) s₂ s₃) E' { s₂ with heap := h, toks := tk })
    (hRR : ∀ h tk ys news', Fr h₀ L h m → News h₀ L h ((D, lst ys) :: news') → (∀ p ∈ news', p.1 ≠ D ∧ ¬ wr p.1) → (∃ m', h.Ns C m') → J n ys news' → RR (.ref D) C (.ok .next) { s₂ with heap := h, toks := tk }) :
    wpAny (model prog w) A (newList []) (fun acc s₃ => wpAny (model prog w) A (newFunctionEnv scope env.globals cl [] env.qual none .none (some env)) (fun cenv s₄ =>
      codeAny (model prog w) A (.compStart (.ListComp elt [⟨target, iter, ifs, 0⟩] scope pos) 0 (.ref I) acc { cenv with scope := relabel scope env }) (RR acc cenv.locals) s₄) E s₃) E s₂ := by
  subst eD
  refine wpAny_newObj_type (open_G ?_)
  dsimp only
  rw [Heap.size_push]
  have eC2 : s₂.heap.objs.size + 1 = C := eC.symm
  rw [eC2]
  generalize hH : pushCells ((s₂.heap.push { cls := .type "list", dict := none, data := .seq ([] : List Value).toArray }).push { cls := .type "dict", data := .dict #[] }) scope.names = H
  have old1 : ∀ b o, (s₂.heap.push { cls := .type "list", dict := none, data := .seq ([] : List Value).toArray }).get? b = some o → H.get? b = some o := fun b o e => by
    rw [← hH]
    exact pushCells_keeps _ _ b o (Heap.get?_push_of_some _ e)
  have old : ∀ b o, s₂.heap.get? b = some o → H.get? b = some o := fun b o e => old1 b o (Heap.get?_push_of_some _ e)
  have hacc : H.get? s₂.heap.objs.size = some (lst []) := old1 _ _ (Heap.get?_push_size _ rfl)
  have hOw' : Ow H := by rw [← hH]; exact hOw
  have hLlt : L < s₂.heap.objs.size := F.ns.lt
  have hDL : s₂.heap.objs.size ≠ L := Ne.symm (Nat.ne_of_lt hLlt)
  have fresh₀ : ∀ a, s₂.heap.objs.size ≤ a → h₀.get? a = none := fun a ha => by
    cases e : h₀.get? a with
    | none => rfl
    | some o' => exact absurd (Heap.lt_size (F.keep a o' e)) (Nat.not_lt.mpr ha)
  have hD₀ := fresh₀ _ (Nat.le_refl _)
  have hC₀ : h₀.get? C = none := fresh₀ _ (by rw [eC]; exact Nat.le_succ _)
  have hCD : s₂.heap.objs.size ≠ C := by rw [eC]; exact Nat.ne_of_lt (Nat.lt_succ_self _)
  have ap0 : ∀ p ∈ news, p.1 ≠ s₂.heap.objs.size ∧ ¬ wr p.1 := fun p hp => ⟨Nat.ne_of_lt (Heap.lt_size (N p hp).1), wN p hp⟩
  have hN0 : News h₀ L H ((s₂.heap.objs.size, lst []) :: news) := fun p hp => by
    rcases List.mem_cons.mp hp with rfl | hp
    · exact ⟨hacc, hDL, hD₀⟩
    · exact ⟨old _ _ (N p hp).1, (N p hp).2⟩
  have loop : ∀ s₃ : Shared, s₃ = { s₂ with heap := H } →
      codeAny (model prog w) A (.compLoop (.ListComp elt [⟨target, iter, ifs, 0⟩] scope pos) 0 (.ref I) (.ref s₂.heap.objs.size) (compEnvC scope (cellsFrom (C + 1) scope.names cl) C env)) (RR (.ref s₂.heap.objs.size) C) s₃ := by
    rintro s₃ rfl
    refine loop_G (fun k s' => ∃ h' tk i ys news', s' = { s₂ with heap := h', toks := tk } ∧ i ≤ n ∧ k = n + 1 - i ∧ ys.length ≤ i ∧ St i h' ∧ Ow h' ∧ Fr h₀ L h' m ∧ News h₀ L h' ((s₂.heap.objs.size, lst ys) :: news') ∧ (∀ p ∈ news', p.1 ≠ s₂.heap.objs.size ∧ ¬ wr p.1) ∧ J i ys news') ?_ (n + 1)
      ⟨H, _, 0, [], news, rfl, Nat.zero_le _, rfl, Nat.le_refl _, sframe 0 _ _ hst (fun b o _ e => old b o e), hOw', F.keeps old, hN0, ap0, h0⟩
    (intro k s' wq9; obtain ⟨h', tk, i, ys, news', rfl, hi, rfl, hyl, hst', hOw', F', N', ap', hJ⟩ := wq9)
    by_cases hlt : i < n
    · refine item_then Fd hlt hst' hOw' fun h₂ tk₂ hst₂ hbd₂ hOw₂ hk₂ => ?_
      have F₂ := fr_wr F' wL w0 hk₂
      have N₂ : News h₀ L h₂ ((s₂.heap.objs.size, lst ys) :: news') := news_wr N' hk₂ (List.forall_mem_cons.mpr ⟨wD, fun p hp => (ap' p hp).2⟩)
      refine wpAny_mono (body i ys news' h₂ tk₂ _ hlt hJ hyl F₂ N₂ ap' hst₂ hbd₂ hOw₂) (fun ok s₃ h₃ => ?_) fun _ _ x => x
      match ok with
      | false =>
        simp only [Bool.false_eq_true, if_false] at h₃ ⊢
        obtain ⟨h₄, tk₄, n₄, rfl, F₄, N₄, ap₄, st₄, ow₄, J₄⟩ := h₃
        exact ⟨n + 1 - (i + 1), by omega, h₄, tk₄, i + 1, ys, n₄, rfl, hlt, rfl, Nat.le_succ_of_le hyl, st₄, ow₄, F₄, N₄, ap₄, J₄⟩
      | true =>
        simp only [if_true] at h₃ ⊢
        refine wpAny_mono h₃ (fun y s₄ h₄ => ?_) fun _ _ x => x
        obtain ⟨h₄, tk₄, n₄, rfl, F₄, N₄, ap₄, st₄, ow₄, J₄⟩ := h₄
        have zD := (N₄ (s₂.heap.objs.size, lst ys) List.mem_cons_self).1
        refine append_at (hsz := by show ys.toArray.size ≤ sizeLine; rw [List.size_toArray]; exact Nat.le_trans (Nat.le_trans hyl hi) hn) zD fun h₅ hs₅ hD₅ => ?_
        refine ⟨n + 1 - (i + 1), by omega, h₅, tk₄, i + 1, ys ++ [y], n₄, rfl, hlt, rfl, by rw [List.length_append, List.length_singleton]; exact Nat.succ_le_succ hyl, sframe _ _ _ st₄ fun b o hb e => hs₅.extBut b o hb e, Fd.oframe _ _ ow₄ fun b o hb e => hs₅.extBut b o (fun q => wD (q ▸ hb)) e, F₄.change hs₅ hDL hD₀, fun p hp => ?_, ap₄, J₄⟩
        rcases List.mem_cons.mp hp with rfl | hp
        · exact ⟨hD₅.trans (congrArg some (lst_snoc ys y)), hDL, hD₀⟩
        · exact ⟨hs₅.extBut _ _ (ap₄ p hp).1 (N₄ p (List.mem_cons_of_mem _ hp)).1, (N₄ p (List.mem_cons_of_mem _ hp)).2⟩
    · have e : i = n := Nat.le_antisymm hi (Nat.not_lt.mp hlt)
      subst e
      refine done_then Fd hst' fun h₂ tk₂ hk₂ how₂ => ?_
      exact hRR h₂ tk₂ ys news' (fr_wr F' wL w0 hk₂) (news_wr N' hk₂ (List.forall_mem_cons.mpr ⟨wD, fun p hp => (ap' p hp).2⟩)) ap' (hOC _ (how₂ hOw')) hJ
  exact codeAny_compStart_list (loop _ rfl) (Fd.self _ _ _ (sframe 0 _ _ hst (fun b o _ e => old b o e)) (loop _ rfl))
/-- the whole comprehension -/
theorem ListComp_G {elt target iter : Expr} {ifs : List Expr} {scope : Scope} {cl : List (Str × Addr)} {pos : Pos} {Q : Value → Shared → Prop} {s : Shared}
    (hclos : closureFor scope env = pure cl) (hkind : scope.kind = .function) (hnames : ∀ y ∈ scope.names, y.2 = .local → scope.names.lookup y.1 = some .local)
    (h : wpAny (model prog w) A (eval iter env) (fun xv s₁ => wpAny (model prog w) A (pyIter xv) (fun it s₂ =>
      ∃ (I : Addr) (wr : Addr → Prop) (n : Nat) (Bd St : Nat → Heap → Prop) (Ow : Heap → Prop) (J : Nat → List Value → List (Addr × Obj) → Prop) (news : List (Addr × Obj)) (D C : Addr), it = .ref I ∧ D = s₂.heap.objs.size ∧ C = s₂.heap.objs.size + 1 ∧ n ≤ sizeLine ∧
        Feed prog w A target I (compEnvC scope (cellsFrom (C + 1) scope.names cl) C env) wr n Bd St Ow ∧
        (∀ i h h', St i h → (∀ b o, b ≠ D → h.get? b = some o → h'.get? b = some o) → St i h') ∧ St 0 s₂.heap ∧ Ow (pushCells ((s₂.heap.push { cls := .type "list", data := .seq #[] }).push { cls := .type "dict", data := .dict #[] }) scope.names) ∧
        ¬ wr D ∧ ¬ wr L ∧ (∀ b, wr b → h₀.get? b = none) ∧ (∀ p ∈ news, ¬ wr p.1) ∧ (∀ h, Ow h → ∃ m', h.Ns C m') ∧ wr C ∧ C ≠ L ∧ h₀.get? C = none ∧ Fr h₀ L s₂.heap m ∧ News h₀ L s₂.heap news ∧ J 0 [] news ∧
        (∀ i ys news h tk (E' : Value → Shared → Prop), i < n → J i ys news → ys.length ≤ i → Fr h₀ L h m → News h₀ L h ((D, lst ys) :: news) → (∀ p ∈ news, p.1 ≠ D ∧ ¬ wr p.1) → St (i + 1) h → Bd i h → Ow h →
          wpAny (model prog w) A (testsOf ifs (compEnvC scope (cellsFrom (C + 1) scope.names cl) C env)) (fun ok s₃ =>
            if ok = true then wpAny (model prog w) A (eval elt (compEnvC scope (cellsFrom (C + 1) scope.names cl) C env)) (fun y s₄ => EndG h₀ L m D ys wr (St (i + 1)) Ow (J (i + 1) (ys ++ [y])) s₂ s₄) E' s₃
            else EndG h₀ L m D ys wr (St (i + 1)) Ow (J (i + 1) ys) s₂ s₃) E' { s₂ with heap := h, toks := tk }) ∧
        (∀ h tk ys news', Fr h₀ L h m → News h₀ L h ((D, lst ys) :: news') → (∀ p ∈ news', @Ne Nat p.1 D) → J n ys news' → Q (.ref D) { s₂ with heap := h, toks := tk })) E s₁) E s)
    (hs : ∀ x, foldedSetIterable iter env x = pure x := by intro _; rfl) :
    wpAny (model prog w) A (eval (.ListComp elt [⟨target, iter, ifs, 0⟩] scope pos) env) Q E s := by
  rw [eval_ListComp]
  refine wpAny_comprehension_free (use := none) rfl hs hclos hkind hnames (wpAny_mono h (fun xv s₁ h₁ => wpAny_mono h₁ (fun it s₂ h₂ => ?_) fun _ _ x => x) fun _ _ x => x)
  obtain ⟨I, wr, n, Bd, St, Ow, J, news, D, C, rfl, eD, eC, hn, Fd, sf, hst, how, wD, wL, w0, wN, hOC, wC, hCL, hC0, F, N, h0, body, hret⟩ := h₂
  refine comp_G eD eC hn Fd sf hst how wD wL w0 wN hOC F N h0 body fun h tk ys news' F' N' ap ns hJ => ?_
  obtain ⟨m', hm'⟩ := ns
  refine ⟨m', hm', fun h'' hs'' => hret h'' tk ys news' (F'.change hs'' hCL hC0) (fun p hp => ⟨hs''.extBut _ _ ?_ (N' p hp).1, (N' p hp).2⟩) (fun p hp => (ap p hp).1) hJ⟩
  rcases List.mem_cons.mp hp with rfl | hp
  · exact fun (q : D = C) => wD (by rw [q]; exact wC)
  · exact fun q => (ap p hp).2 (by rw [q]; exact wC)
end
end
section
theorem calm35 {M : PySem.Model} {A : PySem.Around} {Q : Unit → PySem.Shared → Prop} {E : PySem.Value → PySem.Shared → Prop} {s : PySem.Shared} (h : Q () s) : PySem.wpAny M A (pure ()) Q E s := by
  w_top off
  first | (walk1; done) | exact PySem.wpAny_pure h
open PySem PySem.W PySem.Calls PyProof.Rows Builtin Builtin.List PyProof.Rows.LCg
set_option maxHeartbeats 4000000
noncomputable abbrev trip3 (x : Int × Int × Int) (ta tb tc : Tok) : Array Value := #[.int x.1 ta, .int x.2.1 tb, .int x.2.2 tc]
/-- the values are references to triples of ints -/
noncomputable def TripIn (h : Heap) (vs : List Value) (ws : List (Int × Int × Int)) : Prop := vs.length = ws.length ∧ ∀ (j : Nat) (v : Value), vs[j]? = some v → ∃ (t : Addr) (x : Int × Int × Int) (ta tb tc : Tok), v = Value.ref t ∧ ws[j]? = some x ∧ IsTup h t (trip3 x ta tb tc)
theorem TripIn.but {h h' : Heap} {vs : List Value} {ws : List (Int × Int × Int)} {p : Addr → Prop} (x : TripIn h vs ws) (hp : ∀ (j : Nat) (t : Addr), vs[j]? = some (Value.ref t) → ¬ p t) (hk : ∀ b o, ¬ p b → h.get? b = some o → h'.get? b = some o) : TripIn h' vs ws :=
  ⟨x.1, fun j v e => by
    obtain ⟨t, y, ta, tb, tc, rfl, e2, o, ho, r⟩ := x.2 j v e
    exact ⟨t, y, ta, tb, tc, rfl, e2, o, hk t o (hp j t e) ho, r⟩⟩
section
variable {prog : Program} {w : World} {A : Around} {E : Value → Shared → Prop} {h₀ : Heap} {L : Addr} {m : Str → Option Value} {env : Env} {s : Shared} {news : List (Addr × Obj)}
theorem feed3 {a b c : Str} {pa pb pc tp : Pos} {kk : Nat} {scope : Scope} {cl : List (Str × Addr)} {I C ax : Addr} {vs : List Value} {ws : List (Int × Int × Int)}
    (hh : A.handled = none) (hkind : scope.kind = .function) (ha : scope.names.lookup a = some .local) (hb : scope.names.lookup b = some .local) (hc : scope.names.lookup c = some .local) (hab : a ≠ b) (hac : a ≠ c) (hbc : b ≠ c)
    (haI : ax ≠ I) (haC : ax ≠ C) (hIC : I ≠ C) (htu : ∀ (j : Nat) (t : Addr), vs[j]? = some (Value.ref t) → t ≠ I ∧ t ≠ C) :
    Feed prog w A (.Tuple [.Name a pa, .Name b pb, .Name c pc] kk tp) I (compEnvC scope cl C env) (fun z => z = I ∨ z = C) vs.length
      (fun i h => ∃ (m' : Str → Option Value) (x : Int × Int × Int) (ta tb tc : Tok), ws[i]? = some x ∧ h.Ns C m' ∧ m' a = some (.int x.1 ta) ∧ m' b = some (.int x.2.1 tb) ∧ m' c = some (.int x.2.2 tc))
      (fun i h => h.IsListIter I ax i ∧ h.IsList ax vs.toArray ∧ TripIn h vs ws) (fun h => ∃ m', h.Ns C m') where
  oframe := fun h h' ⟨m', hn⟩ hk => ⟨m', hn.at' fun o e => hk C o (.inr rfl) e⟩
  self := fun s Q E st hQ => (Walks.list (prog := prog) (w := w) (A := A) hh I ax haI vs.toArray).self 0 s Q E ⟨st.1, st.2.1⟩ hQ
  done := by
    intro s Q E st hQ
    have W := Walks.list (prog := prog) (w := w) (A := A) hh I ax haI vs.toArray
    refine W.done s (fun r s₁ => match r with | none => Q s₁ | some _ => False) E ⟨by simpa using st.1, st.2.1⟩ fun h' tk hk => hQ h' tk (fun b o hb e => hk b o (fun hm => hb (.inl (List.mem_singleton.mp hm))) e) fun ⟨m', hn⟩ => ⟨m', hn.at' fun o e => hk C o (fun hm => hIC (List.mem_singleton.mp hm).symm) e⟩
  item := by
    intro i s Q E hi st how hQ
    obtain ⟨m', hn⟩ := how
    have W := Walks.list (prog := prog) (w := w) (A := A) hh I ax haI vs.toArray
    refine W.item i s _ E (by simpa using hi) ⟨st.1, st.2.1⟩ fun v h₂ tk₂ hPv hst₂ hk₂ => ?_
    have hv : vs[i]? = some v := by simpa using hPv
    have T₂ : TripIn h₂ vs ws := st.2.2.but (p := fun z => z = I) (fun j t e q => (htu j t e).1 q) fun b o hb e => hk₂ b o (fun hm => hb (List.mem_singleton.mp hm)) e
    obtain ⟨t, x, ta, tb, tc, rfl, hx, ht⟩ := T₂.2 i v hv
    have hn₂ : h₂.Ns C m' := hn.at' fun o e => hk₂ C o (fun hm => hIC (List.mem_singleton.mp hm).symm) e
    refine wpAny_letOwnedTupleGo_listiter hst₂.1 ?_
    refine assign_Tuple_tuple hh ht rfl rfl fun h₅ he => ?_
    have he' : ∀ b o, h₂.get? b = some o → h₅.get? b = some o := fun b o e => he b o (Nat.ne_of_lt (Heap.lt_size e)) e
    have hp : ((compEnvC scope cl C env).scope.kind == .class || ((compEnvC scope cl C env).scope.kind == .module && (compEnvC scope cl C env).locals != (compEnvC scope cl C env).globals)) = false := by simp [compEnvC, relabel, hkind]
    refine assignInOrder_cons (wpAny_assign_Name (wpAny_storeName_local (lookup_relabel_local ha) (hn₂.at' fun o e => he' _ o e) (fun h₆ hn₆ hs₆ => ?_) hp))
    refine assignInOrder_cons (wpAny_assign_Name (wpAny_storeName_local (lookup_relabel_local hb) hn₆ (fun h₇ hn₇ hs₇ => ?_) hp))
    refine assignInOrder_cons (wpAny_assign_Name (wpAny_storeName_local (lookup_relabel_local hc) hn₇ (fun h₈ hn₈ hs₈ => ?_) hp))
    refine assignInOrder_nil ?_
    have up : ∀ b o, b ≠ C → h₂.get? b = some o → h₈.get? b = some o := fun b o hb e => hs₈.extBut b o hb (hs₇.extBut b o hb (hs₆.extBut b o hb (he' b o e)))
    refine hQ h₈ _ ⟨hst₂.1.at fun o e => up I o hIC e, hst₂.2.at fun o e => up ax o haC e, T₂.but (p := fun z => z = C) (fun j t e q => (htu j t e).2 q) up⟩ ⟨_, x, ta, tb, tc, hx, hn₈, ?_, ?_, ?_⟩ ⟨_, hn₈⟩ fun b o hb e => up b o (fun q => hb (.inr q)) (hk₂ b o (fun hm => hb (.inl (List.mem_singleton.mp hm))) e)
    · simp [hab, hac]
    · simp [hbc]
    · simp
end
end
section
theorem calm36 {M : PySem.Model} {A : PySem.Around} {Q : Unit → PySem.Shared → Prop} {E : PySem.Value → PySem.Shared → Prop} {s : PySem.Shared} (h : Q () s) : PySem.wpAny M A (pure ()) Q E s := by
  w_top off
  first | (walk1; done) | exact PySem.wpAny_pure h
open PySem PySem.W PySem.Calls PyProof.Rows Builtin Builtin.List PyProof.Rows.LCg
set_option maxHeartbeats 4000000
/-- references to triples that the ledger holds -/
noncomputable def TripsN (news : List (Addr × Obj)) (vs : List Value) (ws : List (Int × Int × Int)) : Prop :=
  vs.length = ws.length ∧ ∀ (j : Nat) (v : Value), vs[j]? = some v → ∃ (t : Addr) (x : Int × Int × Int) (ta tb tc : Tok), v = Value.ref t ∧ ws[j]? = some x ∧ (t, ({ cls := .type "tuple", data := .seq (trip3 x ta tb tc) } : Obj)) ∈ news
theorem TripsN.heap {h₀ h : Heap} {L : Addr} {news : List (Addr × Obj)} {vs : List Value} {ws : List (Int × Int × Int)} (x : TripsN news vs ws) (N : News h₀ L h news) : TripIn h vs ws :=
  ⟨x.1, fun j v e => by
    obtain ⟨t, y, ta, tb, tc, rfl, e2, hm⟩ := x.2 j v e
    exact ⟨t, y, ta, tb, tc, rfl, e2, _, (N _ hm).1, rfl, 0, rfl⟩⟩
noncomputable def Src3 (prog : Program) (w : World) (A : Around) (h₀ : Heap) (L : Addr) (m : Str → Option Value) (env : Env) (a b c : Str) (test elt : PySem.Expr) (scope : Scope) (cl : List (Str × Addr)) (Q : Value → Shared → Prop) (xv : Value) (s₁ : Shared) : Prop :=
  ∃ (ax : Addr) (vs : List Value) (k : Nat) (ws : List (Int × Int × Int)) (news : List (Addr × Obj)) (J : Nat → List Value → Prop), xv = .ref ax ∧ A.handled = none ∧ Fr h₀ L s₁.heap m ∧ News h₀ L s₁.heap news ∧ (ax, listOf vs.toArray k) ∈ news ∧ TripsN news vs ws ∧ vs.length ≤ sizeLine ∧ J 0 [] ∧
    (∀ (i : Nat) (x : Int × Int × Int) (ys : List Value) (h : Heap) (tk : Nat) (E' : Value → Shared → Prop) (I : Addr) (oI : Obj) (C : Addr) (oC : Obj) (D : Addr) (m₂ : Str → Option Value) (ta tb tc : Tok), ws[i]? = some x → J i ys → ys.length ≤ i → NsObj oC m₂ → m₂ a = some (.int x.1 ta) → m₂ b = some (.int x.2.1 tb) → m₂ c = some (.int x.2.2 tc) →
      Fr h₀ L h m → News h₀ L h ((I, oI) :: (C, oC) :: (D, lst ys) :: news) → Off3 I C D news → ((@Ne Nat I C) ∧ (@Ne Nat I D) ∧ (@Ne Nat C D)) →
      wpAny (model prog w) A (isTrue test (compEnvC scope cl C env) (PySem.eval test (compEnvC scope cl C env))) (fun ok s₃ => if ok = true then
          wpAny (model prog w) A (PySem.eval elt (compEnvC scope cl C env)) (CompEnd h₀ L m { s₁ with heap := h, toks := tk } I oI C oC D (lst ys) (fun news' => ∀ q ∈ news, q ∈ news') (fun y _ => J (i + 1) (ys ++ [y]))) E' s₃
        else CompEnd h₀ L m { s₁ with heap := h, toks := tk } I oI C oC D (lst ys) (fun news' => ∀ q ∈ news, q ∈ news') (fun _ _ => J (i + 1) ys) .none s₃) E' { s₁ with heap := h, toks := tk }) ∧
    (∀ D h tk ys, Fr h₀ L h m → News h₀ L h ((D, lst ys) :: news) → (∀ p ∈ news, @Ne Nat p.1 D) → J vs.length ys → Q (.ref D) { s₁ with heap := h, toks := tk })
section
variable {prog : Program} {w : World} {A : Around} {E : Value → Shared → Prop} {h₀ : Heap} {L : Addr} {m : Str → Option Value} {env : Env} {s : Shared}
theorem LC3 {elt iter test : PySem.Expr} {a b c : Str} {pa pb pc tp : Pos} {kk : Nat} {scope : Scope} {cl : List (Str × Addr)} {pos : Pos} {Q : Value → Shared → Prop}
    (_F₀ : Fr h₀ L s.heap m)
    (hclos : closureFor scope env = pure cl) (hkind : scope.kind = .function) (hnames : ∀ y ∈ scope.names, y.2 = .local → scope.names.lookup y.1 = some .local)
    (ha : scope.names.lookup a = some .local) (hb : scope.names.lookup b = some .local) (hc : scope.names.lookup c = some .local) (hab : a ≠ b) (hac : a ≠ c) (hbc : b ≠ c) (hcf : ∀ k, cellsFrom k scope.names cl = cl) (hpc : ∀ h, pushCells h scope.names = h)
    (h : wpAny (model prog w) A (PySem.eval iter env) (Src3 prog w A h₀ L m env a b c test elt scope cl Q) E s)
    (hs : ∀ x, foldedSetIterable iter env x = pure x := by intro _; rfl) :
    wpAny (model prog w) A (PySem.eval (.ListComp elt [⟨.Tuple [.Name a pa, .Name b pb, .Name c pc] kk tp, iter, [test], 0⟩] scope pos) env) Q E s := by
  refine ListComp_G (h₀ := h₀) (L := L) (m := m) hclos hkind hnames (wpAny_mono h (fun xv s₁ h₁ => ?_) fun _ _ e => e) hs
  obtain ⟨ax, vs, k, ws, news, J, rfl, hh, F, N, hm, tr, hsz, h0, turn, hret⟩ := h₁
  have hl : s₁.heap.IsList ax vs.toArray := News.isList N hm
  refine wpAny_pyIter_list hl ?_
  generalize eI : s₁.heap.objs.size = I at *
  have up : ∀ b o, s₁.heap.get? b = some o → (s₁.heap.push { cls := .type "list_iterator", data := .fields #[.ref ax, .int 0 0] }).get? b = some o := fun b o e => Heap.get?_push_of_some _ e
  have hIat : (s₁.heap.push { cls := .type "list_iterator", data := .fields #[.ref ax, .int 0 0] }).get? I = some { cls := .type "list_iterator", data := .fields #[.ref ax, .int 0 0] } := by rw [← eI]; exact Heap.get?_push_size _ rfl
  have hsz2 : (s₁.heap.push { cls := .type "list_iterator", data := .fields #[.ref ax, .int 0 0] }).objs.size = I + 1 := by rw [Heap.size_push, eI]
  have lt : ∀ b o, s₁.heap.get? b = some o → b < I := fun b o e => by have := Heap.lt_size e; rw [eI] at this; exact this
  have ltN : ∀ p ∈ news, p.1 < I := fun p hp => lt _ _ (N p hp).1
  have haxI : ax < I := ltN _ hm
  have hLI : L < I := by have := F.ns.lt; rw [eI] at this; exact this
  have fresh₀ : ∀ z, I ≤ z → h₀.get? z = none := fun z hz => by
    cases e : h₀.get? z with
    | none => rfl
    | some o' => exact absurd (lt z o' (F.keep z o' e)) (Nat.not_lt.mpr hz)
  have htu : ∀ (j : Nat) (t : Addr), vs[j]? = some (Value.ref t) → t < I := fun j t e => by
    obtain ⟨t', _, _, _, _, e1, _, hm'⟩ := tr.2 j _ e
    cases e1
    exact ltN _ hm'
  refine ⟨I, fun z => z = I ∨ z = I + 1 + 1, vs.length, fun i h => ∃ (m' : Str → Option Value) (x : Int × Int × Int) (ta tb tc : Tok), ws[i]? = some x ∧ h.Ns (I + 1 + 1) m' ∧ m' a = some (.int x.1 ta) ∧ m' b = some (.int x.2.1 tb) ∧ m' c = some (.int x.2.2 tc),
    fun i h => h.IsListIter I ax i ∧ h.IsList ax vs.toArray ∧ TripIn h vs ws, fun h => ∃ m', h.Ns (I + 1 + 1) m', fun i ys news' => news' = news ∧ J i ys, news, I + 1, I + 1 + 1, rfl, hsz2.symm, by rw [hsz2], hsz, ?_, ?_, ?_, ?_, ?_, ?_, ?_, ?_, ?_, .inr rfl, ?_, fresh₀ _ (by omega), F.keeps up, N.grown up, ⟨rfl, h0⟩, ?_, ?_⟩
  · rw [hcf]
    exact feed3 hh hkind ha hb hc hab hac hbc (Nat.ne_of_lt haxI) (by have := haxI; exact Nat.ne_of_lt (Nat.lt_of_lt_of_le this (by omega))) (by show I ≠ I + 1 + 1; exact Nat.ne_of_lt (by omega)) fun j t e => ⟨Nat.ne_of_lt (htu j t e), Nat.ne_of_lt (Nat.lt_trans (htu j t e) (by omega))⟩
  · intro i h h' st hk
    have hk' : ∀ b o, b < I + 1 → h.get? b = some o → h'.get? b = some o := fun b o hb e => hk b o (Nat.ne_of_lt hb) e
    exact ⟨st.1.at fun o e => hk' I o (by omega) e, st.2.1.at fun o e => hk' ax o (Nat.lt_succ_of_lt haxI) e, st.2.2.but (p := fun z => z = I + 1) (fun j t e q => Nat.ne_of_lt (Nat.lt_succ_of_lt (htu j t e)) q) hk⟩
  · exact ⟨⟨_, hIat, rfl, rfl⟩, hl.at fun o e => up ax o e, (tr.heap N).but (p := fun _ => False) (fun _ _ _ q => q) fun b o _ e => up b o e⟩
  · rw [hpc]
    refine ⟨fun _ => none, ?_⟩
    have := Heap.Ns.new ((s₁.heap.push { cls := .type "list_iterator", data := .fields #[.ref ax, .int 0 0] }).push { cls := .type "list", data := .seq #[] }) (.type "dict")
    rw [Heap.size_push, hsz2] at this
    exact this
  · rintro (e | e)
    · exact absurd e (by show ¬ I + 1 = I; omega)
    · exact absurd e (by show ¬ I + 1 = I + 1 + 1; omega)
  · rintro (e | e)
    · exact Nat.ne_of_lt hLI e
    · exact Nat.ne_of_lt (Nat.lt_trans hLI (show I < I + 1 + 1 by omega)) e
  · rintro z (rfl | rfl)
    · exact fresh₀ _ (Nat.le_refl _)
    · exact fresh₀ _ (by omega)
  · rintro p hp (e | e)
    · exact Nat.ne_of_lt (ltN p hp) e
    · exact Nat.ne_of_lt (Nat.lt_trans (ltN p hp) (show I < I + 1 + 1 by omega)) e
  · exact fun h x => x
  · exact Nat.ne_of_gt (Nat.lt_trans hLI (show I < I + 1 + 1 by omega))
  · (intro i ys news' h tk E' hi wq10; obtain ⟨rfl, hJ⟩ := wq10; intro hyl F' N' ap hst wq11; obtain ⟨m₂, x, ta, tb, tc, hx, hn₂, e1, e2, e3⟩ := wq11; intro how)
    rw [hcf]
    obtain ⟨oI, hoI, hoc, hod⟩ := hst.1
    obtain ⟨oC, heC, hoC⟩ := ns_obj hn₂
    have N₃ : News h₀ L h ((I, oI) :: (I + 1 + 1, oC) :: (I + 1, lst ys) :: news') := fun p hp => by
      rcases List.mem_cons.mp hp with rfl | hp
      · exact ⟨hoI, Nat.ne_of_gt hLI, fresh₀ _ (Nat.le_refl _)⟩
      · rcases List.mem_cons.mp hp with rfl | hp
        · exact ⟨heC, Nat.ne_of_gt (Nat.lt_trans hLI (show I < I + 1 + 1 by omega)), fresh₀ _ (by omega)⟩
        · exact N' p hp
    have off : Off3 I (I + 1 + 1) (I + 1) news' := Off3.of fun p hp => ⟨fun q => (ap p hp).2 (.inl q), fun q => (ap p hp).2 (.inr q), (ap p hp).1⟩
    have conv : ∀ {y : Value} {rest : Value → List (Addr × Obj) → Prop} {ys' : List Value} {s' : Shared}, (∀ n, rest y n → J (i + 1) ys') → CompEnd h₀ L m { s₁ with heap := h, toks := tk } I oI (I + 1 + 1) oC (I + 1) (lst ys) (fun news'' => ∀ q ∈ news', q ∈ news'') rest y s' →
        EndG h₀ L m (I + 1) ys (fun z => z = I ∨ z = I + 1 + 1) (fun h => h.IsListIter I ax (i + 1) ∧ h.IsList ax vs.toArray ∧ TripIn h vs ws) (fun h => ∃ m', h.Ns (I + 1 + 1) m') (fun news'' => news'' = news' ∧ J (i + 1) ys') { s₁ with heap := s₁.heap.push { cls := .type "list_iterator", data := .fields #[.ref ax, .int 0 0] } } s' := by
      intro y rest ys' s' hr ⟨h₄, tk₄, n₄, e, F₄, N₄, off₄, hS, r₄⟩
      have N₅ : News h₀ L h₄ ((I + 1, lst ys) :: news') := fun p hp => by
        rcases List.mem_cons.mp hp with rfl | hp
        · exact N₄ _ (List.mem_cons_of_mem _ (List.mem_cons_of_mem _ List.mem_cons_self))
        · exact N₄ p (List.mem_cons_of_mem _ (List.mem_cons_of_mem _ (List.mem_cons_of_mem _ (hS p hp))))
      have N₆ : News h₀ L h₄ news' := fun p hp => N₅ p (List.mem_cons_of_mem _ hp)
      exact ⟨h₄, tk₄, news', e, F₄, N₅, ap, ⟨⟨oI, (N₄ (I, oI) List.mem_cons_self).1, hoc, hod⟩, News.isList N₆ hm, tr.heap N₆⟩, ⟨_, hoC.ns (N₄ (I + 1 + 1, oC) (List.mem_cons_of_mem _ List.mem_cons_self)).1⟩, rfl, hr _ r₄⟩
    refine wpAny_tests_one (wpAny_mono (turn i x ys h tk E' I oI (I + 1 + 1) oC (I + 1) m₂ ta tb tc hx hJ hyl hoC e1 e2 e3 F' N₃ off ⟨by show ¬ I = I + 1 + 1; omega, by show ¬ I = I + 1; omega, by show ¬ I + 1 + 1 = I + 1; omega⟩) (fun ok s₃ h₃ => ?_) fun _ _ e => e)
    match ok with
    | false =>
      simp only [Bool.false_eq_true, if_false] at h₃ ⊢
      exact conv (rest := fun _ _ => J (i + 1) ys) (y := Value.none) (fun _ r => r) h₃
    | true =>
      simp only [if_true] at h₃ ⊢
      exact wpAny_mono h₃ (fun y s₄ h₄ => conv (rest := fun y _ => J (i + 1) (ys ++ [y])) (y := y) (fun _ r => r) h₄) fun _ _ e => e
  · (intro h tk ys news' F' N' ap wq12; obtain ⟨rfl, hJ⟩ := wq12)
    exact hret _ h tk ys F' N' ap hJ
end
end
section
theorem calm37 {M : PySem.Model} {A : PySem.Around} {Q : Unit → PySem.Shared → Prop} {E : PySem.Value → PySem.Shared → Prop} {s : PySem.Shared} (h : Q () s) : PySem.wpAny M A (pure ()) Q E s := by
  w_top off
  first | (walk1; done) | exact PySem.wpAny_pure h
open PySem PySem.W PySem.Calls PyProof.Rows Builtin Builtin.List PyProof.Rows.LCg
set_option maxHeartbeats 4000000
/-- a fresh enumerate object apart from the ledger -/
structure EnumNew (h₀ : Heap) (L : Addr) (h : Heap) (news : List (Addr × Obj)) (e it ax : Addr) : Prop where
  en : IsEnum h e it 0 .none
  li : h.IsListIter it ax 0
  ap : ∀ p ∈ news, @Ne Nat p.1 e ∧ @Ne Nat p.1 it
  ne : @Ne Nat e it
  eL : @Ne Nat e L
  iL : @Ne Nat it L
  e0 : h₀.get? e = none
  i0 : h₀.get? it = none
section
variable {prog : Program} {w : World} {A : Around} {E : Value → Shared → Prop} {h₀ : Heap} {L : Addr} {m : Str → Option Value} {env : Env} {s : Shared} {news : List (Addr × Obj)}
theorem enum_K {ax : Addr} {items : Array Value} {k : Nat} {Q : Value → Shared → Prop} (F : Fr h₀ L s.heap m) (N : News h₀ L s.heap news) (hm : (ax, listOf items k) ∈ news)
    (h : ∀ h' e it, Fr h₀ L h' m → News h₀ L h' news → EnumNew h₀ L h' news e it ax → Q (.ref e) { s with heap := h' }) :
    wpAny (model prog w) A (call (.type "enumerate") [.ref ax]) Q E s := by
  refine call_enumerate_list (items := items) ⟨_, (N _ hm).1, rfl, k, rfl⟩ fun h' he hi _ hk => ?_
  have lt : ∀ p ∈ news, p.1 < s.heap.objs.size := fun p hp => Heap.lt_size (N p hp).1
  have hL : L < s.heap.objs.size := F.ns.lt
  have fresh₀ : ∀ z, s.heap.objs.size ≤ z → h₀.get? z = none := fun z hz => by
    cases e : h₀.get? z with
    | none => rfl
    | some o' => exact absurd (Heap.lt_size (F.keep z o' e)) (Nat.not_lt.mpr hz)
  exact h h' _ _ (F.keeps hk) (N.grown hk) ⟨he, hi, fun p hp => ⟨Nat.ne_of_lt (Nat.lt_succ_of_lt (lt p hp)), Nat.ne_of_lt (lt p hp)⟩, Nat.succ_ne_self _, Nat.ne_of_gt (Nat.lt_succ_of_lt hL), Nat.ne_of_gt hL, fresh₀ _ (Nat.le_succ _), fresh₀ _ (Nat.le_refl _)⟩
theorem feedE {a b : Str} {pa pb tp : Pos} {kk : Nat} {scope : Scope} {cl : List (Str × Addr)} {e it C ax : Addr} {vs : List Value} {ns : List Int}
    (hh : A.handled = none) (hkind : scope.kind = .function) (ha : scope.names.lookup a = some .local) (hb : scope.names.lookup b = some .local) (hab : a ≠ b)
    (hei : e ≠ it) (hae : ax ≠ e) (hai : ax ≠ it) (haC : ax ≠ C) (heC : e ≠ C) (hiC : it ≠ C) (hvs : IntsAre vs ns) :
    Feed prog w A (.Tuple [.Name a pa, .Name b pb] kk tp) e (compEnvC scope cl C env) (fun z => z = e ∨ z = it ∨ z = C) vs.length
      (fun i h => ∃ (m' : Str → Option Value) (n : Int) (ta tb : Tok), ns[i]? = some n ∧ h.Ns C m' ∧ m' a = some (.int (i : Int) ta) ∧ m' b = some (.int n tb))
      (fun i h => (∃ old, IsEnum h e it i old) ∧ h.IsListIter it ax i ∧ h.IsList ax vs.toArray) (fun h => ∃ m', h.Ns C m') where
  oframe := fun h h' ⟨m', hn⟩ hk => ⟨m', hn.at' fun o e => hk C o (.inr (.inr rfl)) e⟩
  self := fun s Q E st hQ => (WalksT.enumerate (prog := prog) (w := w) (A := A) hh e it ax hei hae hai vs.toArray).self 0 s Q E st hQ
  done := by
    intro s Q E st hQ
    have W := WalksT.enumerate (prog := prog) (w := w) (A := A) hh e it ax hei hae hai vs.toArray
    have eC : ∀ b, b ∈ [e, it] → b = e ∨ b = it := fun b hb => by simpa using hb
    refine W.done s (fun r s₁ => match r with | none => Q s₁ | some _ => False) E (by simpa using st) fun h' tk hk => hQ h' tk (fun b o hb x => hk b o (fun hm => hb ((eC b hm).elim .inl fun q => .inr (.inl q))) x) fun ⟨m', hn⟩ => ⟨m', hn.at' fun o x => hk C o (fun hm => (eC C hm).elim (fun q => heC q.symm) fun q => hiC q.symm) x⟩
  item := by
    intro i s Q E hi st how hQ
    obtain ⟨m', hn⟩ := how
    have W := WalksT.enumerate (prog := prog) (w := w) (A := A) hh e it ax hei hae hai vs.toArray
    have eC : ∀ b, b ∈ [e, it] → b = e ∨ b = it := fun b hb => by simpa using hb
    refine W.item i s _ E (by simpa using hi) st fun T vals h₂ tk₂ hPt hTs hT hMid hk₂ => ?_
    obtain ⟨ta, x, hx, rfl⟩ := hPt
    have hv : vs[i]? = some x := by simpa using hx
    obtain ⟨n, tb, rfl, hnn⟩ := IntsAre.at hvs i x hv
    have kC : ∀ {g g' : Heap}, (∀ b o, b ∉ [e, it] → g.get? b = some o → g'.get? b = some o) → ∀ o, g.get? C = some o → g'.get? C = some o := fun hk o x => hk C o (fun hm => (eC C hm).elim (fun q => heC q.symm) fun q => hiC q.symm) x
    refine W.go _ _ _ i T _ _ E hMid fun h₃ hst₃ hk₃ => ?_
    have hTa := W.apart i T h₂ hMid
    have ht₃ : IsTup h₃ T #[.int (i : Int) ta, .int n tb] := by
      obtain ⟨o, ho, r⟩ := hT
      exact ⟨o, hk₃ T o hTa ho, r⟩
    have hn₃ : h₃.Ns C m' := (hn.at' (kC hk₂)).at' (kC hk₃)
    refine assign_Tuple_tuple hh ht₃ rfl rfl fun h₅ he => ?_
    have he' : ∀ b o, h₃.get? b = some o → h₅.get? b = some o := fun b o x => he b o (Nat.ne_of_lt (Heap.lt_size x)) x
    have hp : ((compEnvC scope cl C env).scope.kind == .class || ((compEnvC scope cl C env).scope.kind == .module && (compEnvC scope cl C env).locals != (compEnvC scope cl C env).globals)) = false := by simp [compEnvC, relabel, hkind]
    refine assignInOrder_cons (wpAny_assign_Name (wpAny_storeName_local (lookup_relabel_local ha) (hn₃.at' fun o x => he' _ o x) (fun h₆ hn₆ hs₆ => ?_) hp))
    refine assignInOrder_cons (wpAny_assign_Name (wpAny_storeName_local (lookup_relabel_local hb) hn₆ (fun h₈ hn₈ hs₈ => ?_) hp))
    refine assignInOrder_nil ?_
    have up : ∀ b o, b ≠ C → h₃.get? b = some o → h₈.get? b = some o := fun b o hb x => hs₈.extBut b o hb (hs₆.extBut b o hb (he' b o x))
    obtain ⟨⟨old, hen⟩, hli, hl⟩ := hst₃
    refine hQ h₈ _ ⟨⟨old, up e _ heC hen⟩, hli.at fun o x => up it o hiC x, hl.at fun o x => up ax o haC x⟩ ⟨_, n, ta, tb, hnn, hn₈, ?_, ?_⟩ ⟨_, hn₈⟩ fun b o hb x => up b o (fun q => hb (.inr (.inr q))) (hk₃ b o (fun hm => hb ((eC b hm).elim .inl fun q => .inr (.inl q))) (hk₂ b o (fun hm => hb ((eC b hm).elim .inl fun q => .inr (.inl q))) x))
    · simp [hab]
    · simp
noncomputable def SrcE (prog : Program) (w : World) (A : Around) (h₀ : Heap) (L : Addr) (m : Str → Option Value) (env : Env) (a b : Str) (elt : PySem.Expr) (scope : Scope) (cl : List (Str × Addr)) (Q : Value → Shared → Prop) (xv : Value) (s₁ : Shared) : Prop :=
  ∃ (e it ax : Addr) (vs : List Value) (k : Nat) (ns : List Int) (news : List (Addr × Obj)) (J : Nat → List Value → Prop), xv = .ref e ∧ A.handled = none ∧ Fr h₀ L s₁.heap m ∧ News h₀ L s₁.heap news ∧ (ax, listOf vs.toArray k) ∈ news ∧ IntsAre vs ns ∧ EnumNew h₀ L s₁.heap news e it ax ∧ vs.length ≤ sizeLine ∧ J 0 [] ∧
    (∀ (i : Nat) (n : Int) (ys : List Value) (h : Heap) (tk : Nat) (E' : Value → Shared → Prop) (oe : Obj) (oi : Obj) (C : Addr) (oC : Obj) (D : Addr) (m₂ : Str → Option Value) (ta tb : Tok), ns[i]? = some n → J i ys → ys.length ≤ i → NsObj oC m₂ → m₂ a = some (.int (i : Int) ta) → m₂ b = some (.int n tb) →
      Fr h₀ L h m → News h₀ L h ((e, oe) :: (C, oC) :: (D, lst ys) :: (it, oi) :: news) → Off3 e C D ((it, oi) :: news) → ((@Ne Nat e C) ∧ (@Ne Nat e D) ∧ (@Ne Nat C D)) → (∀ p ∈ news, @Ne Nat p.1 it) →
      wpAny (model prog w) A (PySem.eval elt (compEnvC scope cl C env)) (CompEnd h₀ L m { s₁ with heap := h, toks := tk } e oe C oC D (lst ys) (fun news' => ∀ q ∈ (it, oi) :: news, q ∈ news') (fun y _ => J (i + 1) (ys ++ [y]))) E' { s₁ with heap := h, toks := tk }) ∧
    (∀ D h tk ys, Fr h₀ L h m → News h₀ L h ((D, lst ys) :: news) → (∀ p ∈ news, @Ne Nat p.1 D) → J vs.length ys → Q (.ref D) { s₁ with heap := h, toks := tk })
theorem LE {elt iter : PySem.Expr} {a b : Str} {pa pb tp : Pos} {kk : Nat} {scope : Scope} {cl : List (Str × Addr)} {pos : Pos} {Q : Value → Shared → Prop}
    (_F₀ : Fr h₀ L s.heap m)
    (hclos : closureFor scope env = pure cl) (hkind : scope.kind = .function) (hnames : ∀ y ∈ scope.names, y.2 = .local → scope.names.lookup y.1 = some .local)
    (ha : scope.names.lookup a = some .local) (hb : scope.names.lookup b = some .local) (hab : a ≠ b) (hcf : ∀ k, cellsFrom k scope.names cl = cl) (hpc : ∀ h, pushCells h scope.names = h)
    (h : wpAny (model prog w) A (PySem.eval iter env) (SrcE prog w A h₀ L m env a b elt scope cl Q) E s)
    (hs : ∀ x, foldedSetIterable iter env x = pure x := by intro _; rfl) :
    wpAny (model prog w) A (PySem.eval (.ListComp elt [⟨.Tuple [.Name a pa, .Name b pb] kk tp, iter, [], 0⟩] scope pos) env) Q E s := by
  refine ListComp_G (h₀ := h₀) (L := L) (m := m) hclos hkind hnames (wpAny_mono h (fun xv s₁ h₁ => ?_) fun _ _ e => e) hs
  obtain ⟨e, it, ax, vs, k, ns, news, J, rfl, hh, F, N, hm, hvs, en, hsz, h0, turn, hret⟩ := h₁
  have hl : s₁.heap.IsList ax vs.toArray := News.isList N hm
  have hax := en.ap _ hm
  have hst0 : (∃ old, IsEnum s₁.heap e it 0 old) ∧ s₁.heap.IsListIter it ax 0 ∧ s₁.heap.IsList ax vs.toArray := ⟨⟨_, en.en⟩, en.li, hl⟩
  refine (WalksT.enumerate (prog := prog) (w := w) (A := A) hh e it ax en.ne hax.1 hax.2 vs.toArray).self 0 _ _ _ hst0 ?_
  generalize eI : s₁.heap.objs.size = I at *
  have lt : ∀ b o, s₁.heap.get? b = some o → b < I := fun b o e => by have := Heap.lt_size e; rw [eI] at this; exact this
  have ltN : ∀ p ∈ news, p.1 < I := fun p hp => lt _ _ (N p hp).1
  have hle : e < I := lt _ _ en.en
  have hli : it < I := by obtain ⟨o, ho, _⟩ := en.li; exact lt _ _ ho
  have haxI : ax < I := ltN _ hm
  have hLI : L < I := by have := F.ns.lt; rw [eI] at this; exact this
  have fresh₀ : ∀ z, I ≤ z → h₀.get? z = none := fun z hz => by
    cases q : h₀.get? z with
    | none => rfl
    | some o' => exact absurd (lt z o' (F.keep z o' q)) (Nat.not_lt.mpr hz)
  have s1 : I < I + 1 := by omega
  refine ⟨e, fun z => z = e ∨ z = it ∨ z = I + 1, vs.length, fun i h => ∃ (m' : Str → Option Value) (n : Int) (ta tb : Tok), ns[i]? = some n ∧ h.Ns (I + 1) m' ∧ m' a = some (.int (i : Int) ta) ∧ m' b = some (.int n tb),
    fun i h => (∃ old, IsEnum h e it i old) ∧ h.IsListIter it ax i ∧ h.IsList ax vs.toArray, fun h => ∃ m', h.Ns (I + 1) m', fun i ys news' => news' = news ∧ J i ys, news, I, I + 1, rfl, rfl, rfl, hsz, ?_, ?_, hst0, ?_, ?_, ?_, ?_, ?_, ?_, .inr (.inr rfl), ?_, fresh₀ _ (by omega), F, N, ⟨rfl, h0⟩, ?_, ?_⟩
  · rw [hcf]
    exact feedE hh hkind ha hb hab en.ne hax.1 hax.2 (Nat.ne_of_lt (Nat.lt_succ_of_lt haxI)) (Nat.ne_of_lt (Nat.lt_succ_of_lt hle)) (Nat.ne_of_lt (Nat.lt_succ_of_lt hli)) hvs
  · intro i h h' st hk
    obtain ⟨⟨old, he⟩, st2, st3⟩ := st
    exact ⟨⟨old, hk e _ (Nat.ne_of_lt hle) he⟩, st2.at fun o x => hk it o (Nat.ne_of_lt hli) x, st3.at fun o x => hk ax o (Nat.ne_of_lt haxI) x⟩
  · rw [hpc]
    refine ⟨fun _ => none, ?_⟩
    have := Heap.Ns.new (s₁.heap.push { cls := .type "list", data := .seq #[] }) (.type "dict")
    rw [Heap.size_push, eI] at this
    exact this
  · rintro (q | q | q)
    · exact absurd q (Nat.ne_of_gt hle)
    · exact absurd q (Nat.ne_of_gt hli)
    · exact absurd q (Nat.ne_of_lt s1)
  · rintro (q | q | q)
    · exact en.eL q.symm
    · exact en.iL q.symm
    · exact Nat.ne_of_lt (Nat.lt_trans hLI s1) q
  · rintro z (rfl | rfl | rfl)
    · exact en.e0
    · exact en.i0
    · exact fresh₀ _ (Nat.le_succ _)
  · rintro p hp (q | q | q)
    · exact (en.ap p hp).1 q
    · exact (en.ap p hp).2 q
    · exact Nat.ne_of_lt (Nat.lt_succ_of_lt (ltN p hp)) q
  · exact fun h x => x
  · exact Nat.ne_of_gt (Nat.lt_trans hLI s1)
  · (intro i ys news' h tk E' hi wq13; obtain ⟨rfl, hJ⟩ := wq13; intro hyl F' N' ap hst wq14; obtain ⟨m₂, n, ta, tb, hx, hn₂, e1, e2⟩ := wq14; intro how)
    rw [hcf]
    obtain ⟨⟨old, hen⟩, ⟨oi, hoi, hoc, hod⟩, hls⟩ := hst
    obtain ⟨oC, heC, hoC⟩ := ns_obj hn₂
    have N₃ : News h₀ L h ((e, _) :: (I + 1, oC) :: (I, lst ys) :: (it, oi) :: news') := fun p hp => by
      rcases List.mem_cons.mp hp with rfl | hp
      · exact ⟨hen, en.eL, en.e0⟩
      rcases List.mem_cons.mp hp with rfl | hp
      · exact ⟨heC, Nat.ne_of_gt (Nat.lt_trans hLI s1), fresh₀ _ (Nat.le_succ _)⟩
      rcases List.mem_cons.mp hp with rfl | hp
      · exact N' _ List.mem_cons_self
      rcases List.mem_cons.mp hp with rfl | hp
      · exact ⟨hoi, en.iL, en.i0⟩
      exact N' p (List.mem_cons_of_mem _ hp)
    have off : Off3 e (I + 1) I ((it, oi) :: news') := Off3.of fun p hp => by
      rcases List.mem_cons.mp hp with rfl | hp
      · exact ⟨fun q => en.ne q.symm, Nat.ne_of_lt (Nat.lt_trans hli s1), Nat.ne_of_lt hli⟩
      · exact ⟨fun q => (ap p hp).2 (.inl q), fun q => (ap p hp).2 (.inr (.inr q)), (ap p hp).1⟩
    refine wpAny_tests_nil ?_
    simp only [if_true]
    refine wpAny_mono (turn i n ys h tk E' _ oi (I + 1) oC I m₂ ta tb hx hJ hyl hoC e1 e2 F' N₃ off ⟨Nat.ne_of_lt (Nat.lt_trans hle s1), Nat.ne_of_lt hle, Nat.ne_of_gt s1⟩ fun p hp => (en.ap p hp).2) (fun y s₄ h₄ => ?_) fun _ _ x => x
    obtain ⟨h₄, tk₄, n₄, e₄, F₄, N₄, off₄, hS, r₄⟩ := h₄
    have N₅ : News h₀ L h₄ ((I, lst ys) :: news') := fun p hp => by
      rcases List.mem_cons.mp hp with rfl | hp
      · exact N₄ _ (List.mem_cons_of_mem _ (List.mem_cons_of_mem _ List.mem_cons_self))
      · exact N₄ p (List.mem_cons_of_mem _ (List.mem_cons_of_mem _ (List.mem_cons_of_mem _ (hS p (List.mem_cons_of_mem _ hp)))))
    have N₆ : News h₀ L h₄ news' := fun p hp => N₅ p (List.mem_cons_of_mem _ hp)
    exact ⟨h₄, tk₄, news', e₄, F₄, N₅, ap, ⟨⟨old, (N₄ _ List.mem_cons_self).1⟩, ⟨oi, (N₄ (it, oi) (List.mem_cons_of_mem _ (List.mem_cons_of_mem _ (List.mem_cons_of_mem _ (hS _ List.mem_cons_self))))).1, hoc, hod⟩, News.isList N₆ hm⟩, ⟨_, hoC.ns (N₄ (I + 1, oC) (List.mem_cons_of_mem _ List.mem_cons_self)).1⟩, rfl, r₄⟩
  · (intro h tk ys news' F' N' ap wq15; obtain ⟨rfl, hJ⟩ := wq15)
    exact hret _ h tk ys F' N' ap hJ
end
end
section
theorem calm38 {M : PySem.Model} {A : PySem.Around} {Q : Unit → PySem.Shared → Prop} {E : PySem.Value → PySem.Shared → Prop} {s : PySem.Shared} (h : Q () s) : PySem.wpAny M A (pure ()) Q E s := by
  w_top off
  first | (walk1; done) | exact PySem.wpAny_pure h
open PySem PySem.W PySem.Calls PyProof.Rows Builtin Builtin.List PyProof.Rows.LCg
set_option maxHeartbeats 4000000
theorem strs_at {vs : List Value} {ys : List Str} (x : StrsAre vs ys) : ∀ (j : Nat), j < ys.length → ∃ t, vs[j]? = some (.str (ys.getD j Str.empty) t) := by
  induction x with
  | nil => intro j hj; exact absurd hj (Nat.not_lt_zero _)
  | cons y t _ ih =>
    intro j hj
    match j with
    | 0 => exact ⟨_, rfl⟩
    | j + 1 =>
      obtain ⟨t', e⟩ := ih j (Nat.lt_of_succ_lt_succ hj)
      exact ⟨t', e⟩
theorem fmod_bd (z : Int) {k : Int} (hk : 0 < k) : 0 ≤ z.fmod k ∧ z.fmod k < k := ⟨Int.fmod_nonneg_of_pos _ hk, Int.fmod_lt_of_pos _ hk⟩
section
variable {prog : Program} {w : World} {A : Around} {E : Value → Shared → Prop} {h₀ : Heap} {L : Addr} {m : Str → Option Value} {env : Env} {s : Shared} {news : List (Addr × Obj)}
theorem sub_strs {l : Addr} {vs : List Value} {n : Nat} {ys : List Str} {k : Int} {u : Tok} {value slice : PySem.Expr} {Q : Value → Shared → Prop}
    (N : News h₀ L s.heap news) (hm : (l, listOf vs.toArray n) ∈ news) (hs : StrsAre vs ys) (h0 : 0 ≤ k) (h1 : k < ys.length) (hf : ys.length ≤ 1000) (h : ∀ t, Q (.str (ys.getD k.toNat Str.empty) t) s)
    (hsb : subscripted slice false (.ref l) (.int k u) = operate [.ref l, .int k u] (getItem (.ref l) (.int k u))) (hg : ∀ r, letTemporaryGo value (.ref l) r = pure ()) :
    wpAny (model prog w) A (subscriptTail value slice (.ref l) (.int k u)) Q E s := by
  obtain ⟨t, e⟩ := strs_at hs k.toNat (by omega)
  have hl : s.heap.IsList l vs.toArray := News.isList N hm
  have hlen : vs.length = ys.length := hs.length
  exact subscriptTail_builtin hl.typeIs F.slot_list_getitem.lookup (wpAny_getItem_list hl h0 (by omega) (x := .str (ys.getD k.toNat Str.empty) t) (by rw [List.getElem?_toArray]; exact e) (h t)) hsb hg
theorem comp_end1 {I C D : Addr} {s₁ : Shared} {x : Addr × Obj} {oI oC oD : Obj} {S : List (Addr × Obj) → Prop} {rest : Value → List (Addr × Obj) → Prop} {y : Value} {h' : Heap} {tk : Nat} {news' : List (Addr × Obj)}
    (F : Fr h₀ L h' m) (N : News h₀ L h' (x :: (I, oI) :: (C, oC) :: (D, oD) :: news')) (off : LCg.Off3 I C D news') (hS : S news') (r : rest y news') :
    LCg.CompEnd h₀ L m s₁ I oI C oC D oD S rest y { s₁ with heap := h', toks := tk } := comp_end F (fun q hq => N q (List.mem_cons_of_mem _ hq)) off hS r
end
end
section
theorem calm39 {M : PySem.Model} {A : PySem.Around} {Q : Unit → PySem.Shared → Prop} {E : PySem.Value → PySem.Shared → Prop} {s : PySem.Shared} (h : Q () s) : PySem.wpAny M A (pure ()) Q E s := by
  w_top off
  first | (walk1; done) | exact PySem.wpAny_pure h
open PySem PySem.W PySem.Calls PyProof.Rows Builtin Builtin.List PyProof.Rows.LCg
set_option maxHeartbeats 4000000
section
variable {prog : Program} {w : World} {A : Around} {E : Value → Shared → Prop} {h₀ : Heap} {L : Addr} {m : Str → Option Value} {env : Env} {s : Shared} {news : List (Addr × Obj)}
theorem cell_at {h h' : Heap} {c : Addr} {v : Option Value} (x : h.IsCell c v) (hk : ∀ o, h.get? c = some o → h'.get? c = some o) : h'.IsCell c v := by
  obtain ⟨o, ho, r⟩ := x
  exact ⟨o, hk o ho, r⟩
theorem feedC {x : Str} {px : Pos} {scope : Scope} {cl : List (Str × Addr)} {I C c : Addr} {a : Int} {n : Nat}
    (hh : A.handled = none) (hkind : scope.kind = .function) (hx : (compEnvC scope ((x, c) :: cl) C env).kindOf x = some .cell) (hIC : I ≠ C) (hIc : I ≠ c) (hCc : C ≠ c) :
    Feed prog w A (.Name x px) I (compEnvC scope ((x, c) :: cl) C env) (fun z => z = I ∨ z = C ∨ z = c) n (fun i h => ∃ t, h.IsCell c (some (.int (a + (i : Int)) t)))
      (fun i h => IsRangeIter h I (a + (i : Nat) * 1) ((n : Int) - (i : Nat)) 1) (fun h => (∃ m', h.Ns C m') ∧ ∃ v, h.IsCell c v) where
  oframe := fun h h' ⟨⟨m', hn⟩, v, hc⟩ hk => ⟨⟨m', hn.at' fun o e => hk C o (.inr (.inl rfl)) e⟩, v, cell_at hc fun o e => hk c o (.inr (.inr rfl)) e⟩
  self := fun s Q E st hQ => (range_walks (prog := prog) (w := w) (A := A) hh a n).self 0 s Q E st hQ
  done := by
    intro s Q E st hQ
    have W := range_walks (prog := prog) (w := w) (A := A) (I := I) hh a n
    refine W.done s (fun r s₁ => match r with | none => Q s₁ | some _ => False) E st fun h' tk hk => hQ h' tk (fun b o hb e => hk b o (fun hm => hb (.inl (List.mem_singleton.mp hm))) e) fun ⟨⟨m', hn⟩, v, hc⟩ => ⟨⟨m', hn.at' fun o e => hk C o (fun hm => hIC (List.mem_singleton.mp hm).symm) e⟩, v, cell_at hc fun o e => hk c o (fun hm => hIc (List.mem_singleton.mp hm).symm) e⟩
  item := by
    intro i s Q E hi st how hQ
    obtain ⟨⟨m', hn⟩, v0, hc⟩ := how
    have W := range_walks (prog := prog) (w := w) (A := A) (I := I) hh a n
    refine W.item i s _ E hi st fun v h₂ tk₂ hPv hst₂ hk₂ => ?_
    obtain ⟨t, rfl⟩ := hPv
    have hn₂ : h₂.Ns C m' := hn.at' fun o e => hk₂ C o (fun hm => hIC (List.mem_singleton.mp hm).symm) e
    have hc₂ : h₂.IsCell c v0 := cell_at hc fun o e => hk₂ c o (fun hm => hIc (List.mem_singleton.mp hm).symm) e
    have lg : ∀ {Q' : Unit → Shared → Prop} {E' : Value → Shared → Prop} {s' : Shared} {vv : Value}, Q' () s' → wpAny (model prog w) A (letOwnedTupleGo (.Name x px) (.ref I) vv) Q' E' s' := fun q => wpAny_pure q
    refine lg (wpAny_assign_Name (wpAny_storeName_cell hkind hx (by show List.lookup x ((x, c) :: cl) = some c; simp) hc₂ fun h₃ hc₃ hs₃ => ?_))
    refine hQ h₃ _ ?_ ⟨t, hc₃⟩ ⟨⟨m', hn₂.at' fun o e => hs₃.extBut _ o hCc e⟩, _, hc₃⟩ fun b o hb e => hs₃.extBut b o (fun q => hb (.inr (.inr q))) (hk₂ b o (fun hm => hb (.inl (List.mem_singleton.mp hm))) e)
    exact hs₃.extBut _ _ hIc hst₂
end
end
section
theorem calm40 {M : PySem.Model} {A : PySem.Around} {Q : Unit → PySem.Shared → Prop} {E : PySem.Value → PySem.Shared → Prop} {s : PySem.Shared} (h : Q () s) : PySem.wpAny M A (pure ()) Q E s := by
  w_top off
  first | (walk1; done) | exact PySem.wpAny_pure h
open PySem PySem.W PySem.Calls PyProof.Rows Builtin Builtin.List PyProof.Rows.LCg
set_option maxHeartbeats 4000000
section
variable {prog : Program} {w : World} {A : Around} {E : Value → Shared → Prop} {h₀ : Heap} {L : Addr} {m : Str → Option Value} {env : Env}
theorem ListCompA_G {elt target iter : Expr} {y : Str} {py spos : Pos} {ifs : List Expr} {scope : Scope} {cl : List (Str × Addr)} {pos : Pos} {Q : Flow → Shared → Prop} {s : Shared}
    (hLe : env.locals = L) (hsw : swapsWith (.ListComp elt [⟨target, iter, ifs, 0⟩] scope pos) (some (.Name y py)) spos.line env = pure true) (hy : env.kindOf y = some .local) (hp : (env.scope.kind == .class || (env.scope.kind == .module && env.locals != env.globals)) = false)
    (hclos : closureFor scope env = pure cl) (hkind : scope.kind = .function) (hnames : ∀ y ∈ scope.names, y.2 = .local → scope.names.lookup y.1 = some .local)
    (h : wpAny (model prog w) A (eval iter env) (fun xv s₁ => wpAny (model prog w) A (pyIter xv) (fun it s₂ =>
      ∃ (I : Addr) (wr : Addr → Prop) (n : Nat) (Bd St : Nat → Heap → Prop) (Ow : Heap → Prop) (J : Nat → List Value → List (Addr × Obj) → Prop) (news : List (Addr × Obj)) (D C : Addr), it = .ref I ∧ D = s₂.heap.objs.size ∧ C = s₂.heap.objs.size + 1 ∧ n ≤ sizeLine ∧
        Feed prog w A target I (compEnvC scope (cellsFrom (C + 1) scope.names cl) C env) wr n Bd St Ow ∧
        (∀ i h h', St i h → (∀ b o, b ≠ D → h.get? b = some o → h'.get? b = some o) → St i h') ∧ St 0 s₂.heap ∧ Ow (pushCells ((s₂.heap.push { cls := .type "list", data := .seq #[] }).push { cls := .type "dict", data := .dict #[] }) scope.names) ∧
        ¬ wr D ∧ ¬ wr L ∧ (∀ b, wr b → h₀.get? b = none) ∧ (∀ p ∈ news, ¬ wr p.1) ∧ (∀ h, Ow h → ∃ m', h.Ns C m') ∧ wr C ∧ C ≠ L ∧ h₀.get? C = none ∧ Fr h₀ L s₂.heap m ∧ News h₀ L s₂.heap news ∧ J 0 [] news ∧
        (∀ i ys news h tk (E' : Value → Shared → Prop), i < n → J i ys news → ys.length ≤ i → Fr h₀ L h m → News h₀ L h ((D, lst ys) :: news) → (∀ p ∈ news, p.1 ≠ D ∧ ¬ wr p.1) → St (i + 1) h → Bd i h → Ow h →
          wpAny (model prog w) A (testsOf ifs (compEnvC scope (cellsFrom (C + 1) scope.names cl) C env)) (fun ok s₃ =>
            if ok = true then wpAny (model prog w) A (eval elt (compEnvC scope (cellsFrom (C + 1) scope.names cl) C env)) (fun y s₄ => EndG h₀ L m D ys wr (St (i + 1)) Ow (J (i + 1) (ys ++ [y])) s₂ s₄) E' s₃
            else EndG h₀ L m D ys wr (St (i + 1)) Ow (J (i + 1) ys) s₂ s₃) E' { s₂ with heap := h, toks := tk }) ∧
        (∀ h tk ys news', Fr h₀ L h (fun z => if z = y then some (.ref D) else m z) → News h₀ L h ((D, lst ys) :: news') → (∀ p ∈ news', @Ne Nat p.1 D) → J n ys news' → Q .next { s₂ with heap := h, toks := tk })) E s₁) E s)
    (hs : ∀ x, foldedSetIterable iter env x = pure x := by intro _; rfl) :
    wpAny (model prog w) A (exec (.Assign [.Name y py] (.ListComp elt [⟨target, iter, ifs, 0⟩] scope pos) spos) env) Q E s := by
  subst hLe
  rw [exec_Assign_Name_used _ _ _ _ hsw]
  refine wpAny_bind (wpAny_standAt (wpAny_bind ?_))
  show wpAny _ A (do let _ ← comprehension (.ListComp elt [⟨target, iter, ifs, 0⟩] scope pos) scope env _ (newList []) false (PySem.eval iter env) (some (assign (.Name y py) env))) _ _ s
  refine wpAny_bind (wpAny_mono (wpAny_comprehension_free (use := some (assign (.Name y py) env)) (Q := fun _ s' => Q .next s') rfl hs hclos hkind hnames
    (wpAny_mono h (fun xv s₁ h₁ => wpAny_mono h₁ (fun it s₂ h₂ => ?_) fun _ _ x => x) fun _ _ x => x)) (fun _ s' hq => wpAny_pure (wpAny_pure hq)) fun _ _ x => x)
  obtain ⟨I, wr, n, Bd, St, Ow, J, news, D, C, rfl, eD, eC, hn, Fd, sf, hst, how, wD, wL, w0, wN, hOC, wC, hCL, hC0, F, N, h0, body, hret⟩ := h₂
  refine comp_G eD eC hn Fd sf hst how wD wL w0 wN hOC F N h0 body fun h tk ys news' F' N' ap ns hJ => ?_
  obtain ⟨m', hm'⟩ := ns
  show wpAny _ A (assign (.Name y py) env (.ref D)) _ _ _
  refine wpAny_assign_Name (wpAny_storeName_local hy F'.ns (fun h₂ hn₂ hs₂ => ?_) hp)
  have F₂ := F'.set hn₂ hs₂
  refine ⟨m', hm'.sameBut hs₂ hCL, fun h'' hs'' => hret h'' _ ys news' (F₂.change hs'' hCL hC0) (fun p hp => ⟨hs''.extBut _ _ ?_ (hs₂.extBut _ _ (N' p hp).2.1 (N' p hp).1), (N' p hp).2⟩) (fun p hp => (ap p hp).1) hJ⟩
  rcases List.mem_cons.mp hp with rfl | hp
  · exact fun (q : D = C) => wD (by rw [q]; exact wC)
  · exact fun q => (ap p hp).2 (by rw [q]; exact wC)
end
section
variable {prog : Program} {w : World} {A : Around} {E : Value → Shared → Prop} {h₀ : Heap} {L : Addr} {m : Str → Option Value} {env : Env} {s : Shared} {news : List (Addr × Obj)}
noncomputable def SrcCA (prog : Program) (w : World) (A : Around) (h₀ : Heap) (L : Addr) (m : Str → Option Value) (env : Env) (x : Str) (elt : PySem.Expr) (scope : Scope) (cl : List (Str × Addr)) (y : Str) (Q : Flow → Shared → Prop) (xv : Value) (s₁ : Shared) : Prop :=
  ∃ (r : Addr) (a b : Int) (t u v : Tok) (n : Nat) (news : List (Addr × Obj)) (J : Nat → List Value → Prop), xv = .ref r ∧ A.handled = none ∧ Fr h₀ L s₁.heap m ∧ News h₀ L s₁.heap news ∧ IsRange s₁.heap r a b 1 t u v ∧ Builtin.Range.small a b 1 = true ∧ Builtin.Range.rangeSize a b 1 = (n : Int) ∧ n ≤ sizeLine ∧ J 0 [] ∧
    (∀ (i : Nat) (ys : List Value) (h : Heap) (tk : Nat) (E' : Value → Shared → Prop) (I : Addr) (oI : Obj) (C : Addr) (oC : Obj) (D c : Addr) (oc : Obj) (m₂ : Str → Option Value) (ti : Tok), i < n → J i ys → ys.length ≤ i → NsObj oC m₂ → oc.data = .cell (some (.int (a + (i : Int)) ti)) →
      Fr h₀ L h m → News h₀ L h ((I, oI) :: (C, oC) :: (D, lst ys) :: (c, oc) :: news) → Off3 I C D ((c, oc) :: news) → ((@Ne Nat I C) ∧ (@Ne Nat I D) ∧ (@Ne Nat C D)) → (∀ p ∈ news, @Ne Nat p.1 c) →
      wpAny (model prog w) A (PySem.eval elt (compEnvC scope ((x, c) :: cl) C env)) (CompEnd h₀ L m { s₁ with heap := h, toks := tk } I oI C oC D (lst ys) (fun news' => ∀ q ∈ (c, oc) :: news, q ∈ news') (fun y _ => J (i + 1) (ys ++ [y]))) E' { s₁ with heap := h, toks := tk }) ∧
    (∀ D h tk ys, Fr h₀ L h (fun z => if z = y then some (.ref D) else m z) → News h₀ L h ((D, lst ys) :: news) → (∀ p ∈ news, @Ne Nat p.1 D) → J n ys → Q .next { s₁ with heap := h, toks := tk })
theorem ALCc {elt iter : PySem.Expr} {x y : Str} {px py spos : Pos} {scope : Scope} {cl : List (Str × Addr)} {pos : Pos} {Q : Flow → Shared → Prop}
    (_F₀ : Fr h₀ L s.heap m)
    (hLe : env.locals = L) (hsw : swapsWith (.ListComp elt [⟨.Name x px, iter, [], 0⟩] scope pos) (some (.Name y py)) spos.line env = pure true) (hy : env.kindOf y = some .local) (hp : (env.scope.kind == .class || (env.scope.kind == .module && env.locals != env.globals)) = false)
    (hclos : closureFor scope env = pure cl) (hkind : scope.kind = .function) (hnames : ∀ y ∈ scope.names, y.2 = .local → scope.names.lookup y.1 = some .local)
    (hx : ∀ cl' C, (compEnvC scope cl' C env).kindOf x = some .cell) (hcf : ∀ k, cellsFrom k scope.names cl = (x, k) :: cl) (hpc : ∀ h, pushCells h scope.names = h.push { cls := .type "cell", data := .cell none })
    (h : wpAny (model prog w) A (PySem.eval iter env) (SrcCA prog w A h₀ L m env x elt scope cl y Q) E s)
    (hs : ∀ x, foldedSetIterable iter env x = pure x := by intro _; rfl) :
    wpAny (model prog w) A (exec (.Assign [.Name y py] (.ListComp elt [⟨.Name x px, iter, [], 0⟩] scope pos) spos) env) Q E s := by
  refine ListCompA_G (h₀ := h₀) (L := L) (m := m) hLe hsw hy hp hclos hkind hnames (wpAny_mono h (fun xv s₁ h₁ => ?_) fun _ _ e => e) hs
  obtain ⟨r, a, b, t, u, v, n, news, J, rfl, hh, F, N, hr, hsm, hn, hsz, h0, turn, hret⟩ := h₁
  refine wpAny_pyIter_range hr hsm ?_
  rw [hn]
  generalize eI : s₁.heap.objs.size = I at *
  have up : ∀ b o, s₁.heap.get? b = some o → (s₁.heap.push { cls := .type "range_iterator", data := .fields #[rawInt a, rawInt (n : Int), rawInt 1] }).get? b = some o := fun b o e => Heap.get?_push_of_some _ e
  have hIat : (s₁.heap.push { cls := .type "range_iterator", data := .fields #[rawInt a, rawInt (n : Int), rawInt 1] }).get? I = some { cls := .type "range_iterator", data := .fields #[rawInt a, rawInt (n : Int), rawInt 1] } := by rw [← eI]; exact Heap.get?_push_size _ rfl
  have hsz2 : (s₁.heap.push { cls := .type "range_iterator", data := .fields #[rawInt a, rawInt (n : Int), rawInt 1] }).objs.size = I + 1 := by rw [Heap.size_push, eI]
  have lt : ∀ b o, s₁.heap.get? b = some o → b < I := fun b o e => by have := Heap.lt_size e; rw [eI] at this; exact this
  have ltN : ∀ p ∈ news, p.1 < I := fun p hp => lt _ _ (N p hp).1
  have hLI : L < I := by have := F.ns.lt; rw [eI] at this; exact this
  have fresh₀ : ∀ z, I ≤ z → h₀.get? z = none := fun z hz => by
    cases e : h₀.get? z with
    | none => rfl
    | some o' => exact absurd (lt z o' (F.keep z o' e)) (Nat.not_lt.mpr hz)
  have s1 : I < I + 1 := by omega
  have s2 : I < I + 1 + 1 := by omega
  have s3 : I < I + 1 + 1 + 1 := by omega
  refine ⟨I, fun z => z = I ∨ z = I + 1 + 1 ∨ z = I + 1 + 1 + 1, n, fun i h => ∃ t, h.IsCell (I + 1 + 1 + 1) (some (.int (a + (i : Int)) t)),
    fun i h => IsRangeIter h I (a + (i : Nat) * 1) ((n : Int) - (i : Nat)) 1, fun h => (∃ m', h.Ns (I + 1 + 1) m') ∧ ∃ v, h.IsCell (I + 1 + 1 + 1) v, fun i ys news' => news' = news ∧ J i ys, news, I + 1, I + 1 + 1, rfl, hsz2.symm, by rw [hsz2], hsz, ?_, ?_, ?_, ?_, ?_, ?_, ?_, ?_, ?_, .inr (.inl rfl), ?_, fresh₀ _ (Nat.le_of_lt s2), F.keeps up, N.grown up, ⟨rfl, h0⟩, ?_, ?_⟩
  · rw [hcf]
    exact feedC hh hkind (hx _ _) (Nat.ne_of_lt s2) (Nat.ne_of_lt s3) (Nat.ne_of_lt (Nat.lt_succ_self _))
  · intro i h h' st hk
    exact hk I _ (Nat.ne_of_lt s1) st
  · show IsRangeIter _ I (a + ((0 : Nat) : Int) * 1) ((n : Int) - ((0 : Nat) : Int)) 1
    simpa using hIat
  · rw [hpc]
    have e2 := Heap.Ns.new ((s₁.heap.push { cls := .type "range_iterator", data := .fields #[rawInt a, rawInt (n : Int), rawInt 1] }).push { cls := .type "list", data := .seq #[] }) (.type "dict")
    have e3 := Heap.get?_push_size (((s₁.heap.push { cls := .type "range_iterator", data := .fields #[rawInt a, rawInt (n : Int), rawInt 1] }).push { cls := .type "list", data := .seq #[] }).push { cls := .type "dict", data := .dict #[] }) (o := { cls := .type "cell", data := .cell none }) rfl
    rw [Heap.size_push, hsz2] at e2
    rw [Heap.size_push, Heap.size_push, hsz2] at e3
    exact ⟨⟨fun _ => none, e2.push _⟩, none, _, e3, rfl⟩
  · rintro (e | e | e)
    · exact absurd e (Nat.ne_of_gt s1)
    · exact absurd e (Nat.ne_of_lt (Nat.lt_succ_self _))
    · exact absurd e (Nat.ne_of_lt (Nat.lt_trans (Nat.lt_succ_self (I + 1)) (Nat.lt_succ_self _)))
  · rintro (e | e | e)
    · exact Nat.ne_of_lt hLI e
    · exact Nat.ne_of_lt (Nat.lt_trans hLI s2) e
    · exact Nat.ne_of_lt (Nat.lt_trans hLI s3) e
  · rintro z (rfl | rfl | rfl)
    · exact fresh₀ _ (Nat.le_refl _)
    · exact fresh₀ _ (Nat.le_of_lt s2)
    · exact fresh₀ _ (Nat.le_of_lt s3)
  · rintro p hp (e | e | e)
    · exact Nat.ne_of_lt (ltN p hp) e
    · exact Nat.ne_of_lt (Nat.lt_trans (ltN p hp) s2) e
    · exact Nat.ne_of_lt (Nat.lt_trans (ltN p hp) s3) e
  · exact fun h x => x.1
  · exact Nat.ne_of_gt (Nat.lt_trans hLI s2)
  · (intro i ys news' h tk E' hi wq16; obtain ⟨rfl, hJ⟩ := wq16; intro hyl F' N' ap hst wq17; obtain ⟨ti, oc, hoc, hocd⟩ := wq17; intro wq18; obtain ⟨⟨m₂, hn₂⟩, _⟩ := wq18)
    rw [hcf]
    obtain ⟨oC, heC, hoC⟩ := ns_obj hn₂
    have N₃ : News h₀ L h ((I, _) :: (I + 1 + 1, oC) :: (I + 1, lst ys) :: (I + 1 + 1 + 1, oc) :: news') := fun p hp => by
      rcases List.mem_cons.mp hp with rfl | hp
      · exact ⟨hst, Nat.ne_of_gt hLI, fresh₀ _ (Nat.le_refl _)⟩
      rcases List.mem_cons.mp hp with rfl | hp
      · exact ⟨heC, Nat.ne_of_gt (Nat.lt_trans hLI s2), fresh₀ _ (Nat.le_of_lt s2)⟩
      rcases List.mem_cons.mp hp with rfl | hp
      · exact N' _ List.mem_cons_self
      rcases List.mem_cons.mp hp with rfl | hp
      · exact ⟨hoc, Nat.ne_of_gt (Nat.lt_trans hLI s3), fresh₀ _ (Nat.le_of_lt s3)⟩
      exact N' p (List.mem_cons_of_mem _ hp)
    have off : Off3 I (I + 1 + 1) (I + 1) ((I + 1 + 1 + 1, oc) :: news') := Off3.of fun p hp => by
      rcases List.mem_cons.mp hp with rfl | hp
      · exact ⟨Nat.ne_of_gt s3, Nat.ne_of_gt (Nat.lt_succ_self _), Nat.ne_of_gt (Nat.lt_trans (Nat.lt_succ_self (I + 1)) (Nat.lt_succ_self _))⟩
      · exact ⟨fun q => (ap p hp).2 (.inl q), fun q => (ap p hp).2 (.inr (.inl q)), (ap p hp).1⟩
    refine wpAny_tests_nil ?_
    simp only [if_true]
    refine wpAny_mono (turn i ys h tk E' I _ (I + 1 + 1) oC (I + 1) (I + 1 + 1 + 1) oc m₂ ti hi hJ hyl hoC hocd F' N₃ off ⟨Nat.ne_of_lt s2, Nat.ne_of_lt s1, Nat.ne_of_gt (Nat.lt_succ_self _)⟩ fun p hp q => (ap p hp).2 (.inr (.inr q))) (fun y s₄ h₄ => ?_) fun _ _ x => x
    obtain ⟨h₄, tk₄, n₄, e₄, F₄, N₄, off₄, hS, r₄⟩ := h₄
    have N₅ : News h₀ L h₄ ((I + 1, lst ys) :: news') := fun p hp => by
      rcases List.mem_cons.mp hp with rfl | hp
      · exact N₄ _ (List.mem_cons_of_mem _ (List.mem_cons_of_mem _ List.mem_cons_self))
      · exact N₄ p (List.mem_cons_of_mem _ (List.mem_cons_of_mem _ (List.mem_cons_of_mem _ (hS p (List.mem_cons_of_mem _ hp)))))
    exact ⟨h₄, tk₄, news', e₄, F₄, N₅, ap, (N₄ _ List.mem_cons_self).1, ⟨⟨_, hoC.ns (N₄ (I + 1 + 1, oC) (List.mem_cons_of_mem _ List.mem_cons_self)).1⟩, _, oc, (N₄ (I + 1 + 1 + 1, oc) (List.mem_cons_of_mem _ (List.mem_cons_of_mem _ (List.mem_cons_of_mem _ (hS _ List.mem_cons_self))))).1, hocd⟩, rfl, r₄⟩
  · (intro h tk ys news' F' N' ap wq19; obtain ⟨rfl, hJ⟩ := wq19)
    exact hret _ h tk ys F' N' ap hJ
end
end
section
local macro_rules | `(tactic| k_room) => `(tactic| ktr_room)
local macro_rules | `(tactic| k_all) => `(tactic| first | assumption | exact allLt_ne (by assumption) | exact allLt_ne (And.right (by assumption)) | exact allLt_ne (And.right (And.right (by assumption))) | exact allLt_ne (And.right (And.right (And.right (by assumption)))) | exact allLt_ne (And.right (And.right (And.right (And.right (by assumption))))))
local macro_rules | `(tactic| k_all) => `(tactic| first | exact List.forall_mem_nil _ | (refine' List.forall_mem_cons.mpr ⟨?a, ?b⟩; (case a => k_ne); (case b => k_all)))
local macro_rules | `(tactic| walk_at "exec For Tuple Call") => `(tactic| (refine wpAny_For ?_ (fun _ => rfl)))
local macro_rules | `(tactic| walk_at "CompEnd") => `(tactic| (refine' comp_end ?F ?N ?o ?S ?r; (case F => k_asm); (case N => k_asm); (case o => assumption); (case S => first | lcg_src | exact trivial)))
section
local macro_rules | `(tactic| omega) => `(tactic| first | tb_rel | lia)
section
theorem calm41 {M : PySem.Model} {A : PySem.Around} {Q : Unit → PySem.Shared → Prop} {E : PySem.Value → PySem.Shared → Prop} {s : PySem.Shared} (h : Q () s) : PySem.wpAny M A (pure ()) Q E s := by
  w_top off
  first | (walk1; done) | exact PySem.wpAny_pure h
theorem strip_call (w : World) (p : Program) (loose : List Str) (mean : ExcName → Option Value) (mg mb : Str → Option Value)
  (dp un : Nat) (gd : Option (List Code)) (cn : Str) (cs : Scope) (a : Addr) (ccd : Value) (cl : List (Str × Addr)) (outer : List Env) (A₀ : Around) (base h₀ : Heap) (L : Addr) (m : Str → Option Value) (s : Shared) (news : List (Addr × Obj)) (Q : Value → Shared → Prop) (E : Value → Shared → Prop)
  (B : Below A₀ base outer h₀) (F : Fr h₀ L s.heap m) (X : (heap39 w.params).In h₀) (N : News h₀ L s.heap news) (T : Top p loose mean mg mb h₀) (hk : cs.kind = .function) (hd' : dp + 10 < recursionLimit) (hu : un + 40 < cLine)
  (x : Str) (tk : Tok) (hx : x.length < 1000) (hesc : escAt x.cps.toList false = false)
  (hret : ∀ t (h' : Heap) gg (tk' : Nat), Fr h₀ L h' m → News h₀ L h' news → GenMoved s.gens gg → Q (.str (stripQ x) t) { s with heap := h', gens := gg, toks := tk' }) :
   wpAny (model PP w) (ktrTop dp un gd cn cs L a ccd cl outer) (call (.ref (nat_lit 35)) [.str x tk]) Q E s := by
  have _k : (fun (_ : OpenLaw) => True) PySem.Challenge.rw_tc0068_02 ∧ heap39 = heap39 := by
    k_fill
    exact ⟨trivial, rfl⟩
  clear _k
  refine wpAny_call ?_
  cell_enter
  repeat' (first | (k_unfold; (try dsimp only)) | (k_end; wrow_close) | (k_here; (with_reducible show wpAny _ _ (call (Value.ref 28) [Value.str _ _]) _ _ _); k_dflt (refine' gen_make (gq 5) ?k1 ?k2 ?k3 ?k4 ?k5 ?k6 ?g1 ?g2 ?g3 ?g4 ?k7 ?k8 ?k9 ?kx ?_; (case k1 => k_asm); (case k2 => k_asm); (case k3 => k_asm); (case k4 => k_asm); (case k5 => ktr_room); (case k6 => k_is); (case g1 => rfl); (case g2 => rfl); (case g3 => rfl); (case g4 => rfl); (case k7 => k_is); (case k8 => k_is); (case k9 => rfl); (case kx => assumption); k_whole; intro ag'q lg'q gn'q gst'q h'q gens'q tk'q F'q N'q hM'q hG'q)) | walk1 | (dsimp only; walk1) | (leave1; walk_say "STEP leave1"; try dsimp only) | fail "no step")
  · rename (List.isEmpty _ = true) => hoc
    rw [stripQ_pos (show (Builtin.Str.occurrences x quo 0 x.length 1).isEmpty = true from hoc)] at hret
    rename Fr _ _ _ _ => Fz; rename News _ _ _ _ => Nz
    exact hret _ _ _ _ Fz Nz .refl
  · rename (List.isEmpty _ = false) => hoc
    rename GenMade _ _ _ _ _ _ _ _ _ _ _ _ => hG
    rename GenMoved _ _ => hM
    rename Fr _ _ _ _ => F1
    rename News _ _ _ _ => N1
    rename_i lr _ _ _ _ _
    skip
    have hlr : ∀ p ∈ news, p.1 ≠ lr := by k_all
    refine wpAny_pyIter_gen hG.isGen ?_
    refine gen_for rfl (Top.nolimit (by assumption)) (by ktr_room) rfl rfl rfl F1 N1 hG.fresh hG.apart hG.off hG.ledger hG.isGen hG.gen hG.goes
      (fun pre m₁ n₁ => StripJ x lr news (qfold (cutOf x) pre) pre.length m₁ n₁) ⟨_, 0, _, _, _, rfl, rfl, rfl, rfl, rfl, .nil, Nat.le_refl _⟩ ?_ ?_
    · (intro pre p u post m₁ n₁ own₁ s₁ tp tu hU wq20; obtain ⟨ts, to, nn, vs, ta, rfl, e1, e2, e3, e4, hS, hz⟩ := wq20; intro wq21; obtain ⟨hh1, gg1, tk1, rfl, hgm⟩ := wq21; intro hdis F₁ N₁)
      rw [map4 m₁ e1 e2 e3 e4] at F₁
      clear F1 N1 hG
      have hpl : pre.length ≤ 1000 := by
        have := units_length x.cps.toList 0 false
        rw [hU] at this
        simp only [List.length_append, Array.length_toList] at this
        have hx' : x.cps.size < 1000 := hx
        omega
      simp only [qfold_snoc, List.length_append, List.length_cons, List.length_nil]
      have hd1 : ∀ p ∈ own₁, p.1 ≠ lr := fun p hp => hdis p hp _ (.head _)
      have hd2 : ∀ p ∈ own₁, ∀ q ∈ news, p.1 ≠ q.1 := fun p hp q hq => hdis p hp q (.tail _ hq)
      clear hdis
      rw [List.cons_append] at N₁
      have htl : ∀ p ∈ news ++ own₁, p.1 ≠ lr := off_tail hlr hd1
      generalize htl0 : news ++ own₁ = tl at N₁ htl
      generalize (qfold (cutOf x) pre) = S at *
      obtain ⟨st, op, res⟩ := S
      clear hesc
      cases op with
      | none =>
        dsimp only [opV] at F₁
        repeat' (first | (k_unfold; (try dsimp only)) | (k_end; wrow_close) | (k_here; (with_reducible show wpAny _ _ (call (Value.ref 28) [Value.str _ _]) _ _ _); k_dflt (refine' gen_make (gq 5) ?k1 ?k2 ?k3 ?k4 ?k5 ?k6 ?g1 ?g2 ?g3 ?g4 ?k7 ?k8 ?k9 ?kx ?_; (case k1 => k_asm); (case k2 => k_asm); (case k3 => k_asm); (case k4 => k_asm); (case k5 => ktr_room); (case k6 => k_is); (case g1 => rfl); (case g2 => rfl); (case g3 => rfl); (case g4 => rfl); (case k7 => k_is); (case k8 => k_is); (case k9 => rfl); (case kx => assumption); k_whole; intro ag'q lg'q gn'q gst'q h'q gens'q tk'q F'q N'q hM'q hG'q)) | walk1 | (dsimp only; walk1) | (leave1; walk_say "STEP leave1"; try dsimp only) | fail "no step")
        all_goals (rename Fr _ _ _ _ => Fz; rename News _ _ _ _ => Nz; rename (_ == _) = _ => hq)
        · have hq' : qstep (cutOf x) (st, none, res) (p, u) = (st, some p, res) := by unfold qstep; dsimp only; rw [if_pos (show (u == quo) = true from hq)]
          rw [hq']
          exact strip_end Fz Nz htl0 hd1 hd2 rfl rfl rfl rfl hS (Nat.le_succ_of_le hz)
        · have hq' : qstep (cutOf x) (st, none, res) (p, u) = (st, none, res) := by unfold qstep; dsimp only; rw [if_neg (by rw [show (u == quo) = _ from hq]; exact Bool.false_ne_true)]
          rw [hq']
          exact strip_end (to := 0) Fz Nz htl0 hd1 hd2 rfl rfl rfl rfl hS (Nat.le_succ_of_le hz)
      | some k =>
        dsimp only [opV] at F₁
        repeat' (first | (k_unfold; (try dsimp only)) | (k_end; wrow_close) | (k_here; (with_reducible show wpAny _ _ (call (Value.ref 28) [Value.str _ _]) _ _ _); k_dflt (refine' gen_make (gq 5) ?k1 ?k2 ?k3 ?k4 ?k5 ?k6 ?g1 ?g2 ?g3 ?g4 ?k7 ?k8 ?k9 ?kx ?_; (case k1 => k_asm); (case k2 => k_asm); (case k3 => k_asm); (case k4 => k_asm); (case k5 => ktr_room); (case k6 => k_is); (case g1 => rfl); (case g2 => rfl); (case g3 => rfl); (case g4 => rfl); (case k7 => k_is); (case k8 => k_is); (case k9 => rfl); (case kx => assumption); k_whole; intro ag'q lg'q gn'q gst'q h'q gens'q tk'q F'q N'q hM'q hG'q)) | walk1 | (dsimp only; walk1) | (leave1; walk_say "STEP leave1"; try dsimp only) | fail "no step")
        all_goals (rename Fr _ _ _ _ => Fz; rename News _ _ _ _ => Nz; rename (_ == _) = _ => hq)
        · have hne : ¬ st = k := by omega
          have hq' : qstep (cutOf x) (st, some k, res) (p, u) = (p + 1, none, res ++ [cutOf x st k]) := by unfold qstep; dsimp only; rw [if_pos (show (u == quo) = true from hq), if_neg hne]
          rw [hq']
          exact strip_end (to := 0) Fz Nz htl0 hd1 hd2 rfl rfl rfl rfl (by simpa using hS.append' (.cons _ _ .nil)) (by simpa using hz)
        · have hne : st = k := by omega
          have hq' : qstep (cutOf x) (st, some k, res) (p, u) = (p + 1, none, res) := by unfold qstep; dsimp only; rw [if_pos (show (u == quo) = true from hq), if_pos hne]
          rw [hq']
          exact strip_end (to := 0) Fz Nz htl0 hd1 hd2 rfl rfl rfl rfl hS (Nat.le_succ_of_le hz)
        · have hq' : qstep (cutOf x) (st, some k, res) (p, u) = (st, some k, res) := by unfold qstep; dsimp only; rw [if_neg (by rw [show (u == quo) = _ from hq]; exact Bool.false_ne_true)]
          rw [hq']
          exact strip_end Fz Nz htl0 hd1 hd2 rfl rfl rfl rfl hS (Nat.le_succ_of_le hz)
    · (intro h' gg tk m' n' F₁ N₁ wq22; obtain ⟨ts, to, nn, vs, ta, rfl, e1, e2, e3, e4, hS, hz⟩ := wq22; intro hgm)
      rw [map4 m' e1 e2 e3 e4] at F₁
      clear F1 N1 hG
      have hpl : vs.size ≤ 1001 := by
        have := units_length x.cps.toList 0 false
        simp only [Array.length_toList] at this
        have hx' : x.cps.size < 1000 := hx
        omega
      have hle : ∀ y ∈ (qfold (cutOf x) (units 0 x.cps.toList false)).2.2, y.length ≤ x.length := qfold_le _ _ (fun _ h => nomatch h)
      rw [stripQ_neg (show (Builtin.Str.occurrences x quo 0 x.length 1).isEmpty = false from hoc)] at hret
      generalize (qfold (cutOf x) (units 0 x.cps.toList false)) = S at *
      obtain ⟨st, op, res⟩ := S
      have hlen : res.length ≤ 1001 := by rw [← hS.length]; simpa using hpl
      dsimp only at F₁ hret hle
      repeat' (first | (k_unfold; (try dsimp only)) | (k_end; wrow_close) | (k_here; (with_reducible show wpAny _ _ (call (Value.ref 28) [Value.str _ _]) _ _ _); k_dflt (refine' gen_make (gq 5) ?k1 ?k2 ?k3 ?k4 ?k5 ?k6 ?g1 ?g2 ?g3 ?g4 ?k7 ?k8 ?k9 ?kx ?_; (case k1 => k_asm); (case k2 => k_asm); (case k3 => k_asm); (case k4 => k_asm); (case k5 => ktr_room); (case k6 => k_is); (case g1 => rfl); (case g2 => rfl); (case g3 => rfl); (case g4 => rfl); (case k7 => k_is); (case k8 => k_is); (case k9 => rfl); (case kx => assumption); k_whole; intro ag'q lg'q gn'q gst'q h'q gens'q tk'q F'q N'q hM'q hG'q)) | walk1 | (dsimp only; walk1) | (leave1; walk_say "STEP leave1"; try dsimp only) | fail "no step")
      · refine join_listW (by is_list) (ys := res ++ [Txt.slice x (some (st : Int)) none]) (by simpa using hS.append' (.cons _ _ .nil)) (by decide +kernel) ?_ ?_
        · refine join_weight (x := x) (n := 1002) (fun y hy => ?_) hx (by simpa using hlen) (by decide)
          rcases List.mem_append.mp hy with hy | hy
          · exact hle y hy
          · rw [List.mem_singleton.mp hy]; exact Txt.slice_le _ _ _
        · intro t k
          repeat' (first | (k_unfold; (try dsimp only)) | (k_end; wrow_close) | (k_here; (with_reducible show wpAny _ _ (call (Value.ref 28) [Value.str _ _]) _ _ _); k_dflt (refine' gen_make (gq 5) ?k1 ?k2 ?k3 ?k4 ?k5 ?k6 ?g1 ?g2 ?g3 ?g4 ?k7 ?k8 ?k9 ?kx ?_; (case k1 => k_asm); (case k2 => k_asm); (case k3 => k_asm); (case k4 => k_asm); (case k5 => ktr_room); (case k6 => k_is); (case g1 => rfl); (case g2 => rfl); (case g3 => rfl); (case g4 => rfl); (case k7 => k_is); (case k8 => k_is); (case k9 => rfl); (case kx => assumption); k_whole; intro ag'q lg'q gn'q gst'q h'q gens'q tk'q F'q N'q hM'q hG'q)) | walk1 | (dsimp only; walk1) | (leave1; walk_say "STEP leave1"; try dsimp only) | fail "no step")
          rename Fr _ _ _ _ => Fz; rename News _ _ _ _ => Nz
          rw [if_pos (by omega)] at hret
          exact hret _ _ _ _ Fz (fun q hq => Nz q (.tail _ hq)) (hM.trans hgm)
      · refine join_listW (by is_list) hS (by decide +kernel) ?_ ?_
        · exact join_weight (x := x) (n := 1001) hle hx hlen (by decide)
        · intro t k
          repeat' (first | (k_unfold; (try dsimp only)) | (k_end; wrow_close) | (k_here; (with_reducible show wpAny _ _ (call (Value.ref 28) [Value.str _ _]) _ _ _); k_dflt (refine' gen_make (gq 5) ?k1 ?k2 ?k3 ?k4 ?k5 ?k6 ?g1 ?g2 ?g3 ?g4 ?k7 ?k8 ?k9 ?kx ?_; (case k1 => k_asm); (case k2 => k_asm); (case k3 => k_asm); (case k4 => k_asm); (case k5 => ktr_room); (case k6 => k_is); (case g1 => rfl); (case g2 => rfl); (case g3 => rfl); (case g4 => rfl); (case k7 => k_is); (case k8 => k_is); (case k9 => rfl); (case kx => assumption); k_whole; intro ag'q lg'q gn'q gst'q h'q gens'q tk'q F'q N'q hM'q hG'q)) | walk1 | (dsimp only; walk1) | (leave1; walk_say "STEP leave1"; try dsimp only) | fail "no step")
          rename Fr _ _ _ _ => Fz; rename News _ _ _ _ => Nz
          rw [if_neg (by omega)] at hret
          exact hret _ _ _ _ Fz (fun q hq => Nz q (.tail _ hq)) (hM.trans hgm)
end
end
section
theorem calm42 {M : PySem.Model} {A : PySem.Around} {Q : Unit → PySem.Shared → Prop} {E : PySem.Value → PySem.Shared → Prop} {s : PySem.Shared} (h : Q () s) : PySem.wpAny M A (pure ()) Q E s := by
  w_top off
  first | (walk1; done) | exact PySem.wpAny_pure h
theorem check_call (w : World) (p : Program) (loose : List Str) (mean : ExcName → Option Value) (mg mb : Str → Option Value)
  (dp un : Nat) (gd : Option (List Code)) (cn : Str) (cs : Scope) (a : Addr) (ccd : Value) (cl : List (Str × Addr)) (outer : List Env) (A₀ : Around) (base h₀ : Heap) (L : Addr) (m : Str → Option Value) (s : Shared) (news : List (Addr × Obj)) (Q : Value → Shared → Prop) (E : Value → Shared → Prop)
  (B : Below A₀ base outer h₀) (F : Fr h₀ L s.heap m) (X : (heap39 w.params).In h₀) (N : News h₀ L s.heap news) (T : Top p loose mean mg mb h₀) (hk : cs.kind = .function) (hd' : dp + 20 < recursionLimit) (hu : un + 80 < cLine)
  (x : Str) (tk : Tok) (hx : x.length < 1000) (hesc : escAt x.cps.toList false = false) (hx2 : (stripQ x).length < 1000) (hesc2 : escAt (stripQ x).cps.toList false = false)
  (hret : ∀ (h' : Heap) gg (tk' : Nat), Fr h₀ L h' m → News h₀ L h' news → GenMoved s.gens gg → Q (.bool (chkP x)) { s with heap := h', gens := gg, toks := tk' }) :
   wpAny (model PP w) (ktrTop dp un gd cn cs L a ccd cl outer) (call (.ref (nat_lit 42)) [.str x tk]) Q E s := by
  have _k : (fun (_ : OpenLaw) => True) PySem.Challenge.rw_tc0068_02 ∧ heap39 = heap39 := by
    k_fill
    exact ⟨trivial, rfl⟩
  clear _k
  refine wpAny_call ?_
  cell_enter
  repeat' (first | (k_unfold; (try dsimp only)) | (k_end; wrow_close) | ((with_reducible show wpAny _ _ (call (Value.ref _) _) _ _ _); first | (k_here; (with_reducible show wpAny _ _ (call (Value.ref 35) [Value.str _ _]) _ _ _); k_dflt (refine' strip_call _ _ _ _ _ _ _ _ _ _ _ _ _ _ _ _ _ _ _ _ _ _ _ _ ?k1 ?k2 ?k3 ?k4 ?k5 ?k6 ?k7 ?k8 _ _ ?k9 ?kx ?_; (case k1 => k_asm); (case k2 => k_asm); (case k3 => k_asm); (case k4 => k_asm); (case k5 => k_asm); (case k6 => exact rfl); (case k7 => ktr_room); (case k8 => ktr_units); (case k9 => assumption); (case kx => assumption); k_whole; intro t'q h'q gens'q tk'q F'q N'q hM'q)) | (k_here; (with_reducible show wpAny _ _ (call (Value.ref 28) [Value.str _ _]) _ _ _); k_dflt (refine' gen_make (gq 5) ?k1 ?k2 ?k3 ?k4 ?k5 ?k6 ?g1 ?g2 ?g3 ?g4 ?k7 ?k8 ?k9 ?kx ?_; (case k1 => k_asm); (case k2 => k_asm); (case k3 => k_asm); (case k4 => k_asm); (case k5 => ktr_room); (case k6 => k_is); (case g1 => rfl); (case g2 => rfl); (case g3 => rfl); (case g4 => rfl); (case k7 => k_is); (case k8 => k_is); (case k9 => rfl); (case kx => assumption); k_whole; intro ag'q lg'q gn'q gst'q h'q gens'q tk'q F'q N'q hM'q hG'q))) | walk1 | (dsimp only; walk1) | (leave1; walk_say "STEP leave1"; try dsimp only) | fail "no step")
  rename GenMade _ _ _ _ _ _ _ _ _ _ _ _ => hG
  rename GenMoved s.gens _ => hM0
  rename GenMoved _ _ => hM
  rename Fr _ _ _ _ => F1
  rename News _ _ _ _ => N1
  refine wpAny_pyIter_gen hG.isGen ?_
  have hret' : ∀ (b : Bool), chkP x = b → ∀ (h' : Heap) gg (tk' : Nat), Fr h₀ L h' m → News h₀ L h' news → GenMoved s.gens gg → Q (.bool b) { s with heap := h', gens := gg, toks := tk' } := by
    intro b hb; rw [← hb]; exact hret
  clear hret
  refine gen_for rfl (Top.nolimit (by assumption)) (by ktr_room) rfl rfl rfl F1 N1 hG.fresh hG.apart hG.off hG.ledger hG.isGen hG.gen hG.goes
      (fun pre m₁ n₁ => ChkJ news (ckFold pre) m₁ n₁) ⟨_, _, rfl, rfl, rfl⟩ ?_ ?_
  · (intro pre p u post m₁ n₁ own₁ s₁ tp tu hU wq23; obtain ⟨o, to, e0, rfl, e1⟩ := wq23; intro wq24; obtain ⟨hh1, gg1, tk1, rfl, hgm⟩ := wq24; intro hdis F₁ N₁)
    rw [map1 m₁ e1] at F₁
    clear F1 N1 hG
    have hfin : ckFold (pre ++ [(p, u)]) = none → chkP x = false := fun h => by
      have hz : ckFold (units 0 (stripQ x).cps.toList false) = none := by
        rw [hU, show pre ++ (p, u) :: post = (pre ++ [(p, u)]) ++ post from by simp]; exact ckFold_none h
      unfold chkP; rw [hz]
    simp only [ckFold_snoc] at hfin ⊢
    rw [e0] at hfin ⊢
    have ho : (0 : Int) ≤ o ∧ o ≤ 10000 := by
      have h1 := ckFold_bound pre o e0
      have h2 := units_length (stripQ x).cps.toList 0 false
      rw [hU] at h2
      simp only [List.length_append, Array.length_toList] at h2
      have hx' : (stripQ x).cps.size < 1000 := hx2
      omega
    clear hesc hesc2
    repeat' (first | (k_unfold; (try dsimp only)) | (k_end; wrow_close) | ((with_reducible show wpAny _ _ (call (Value.ref _) _) _ _ _); first | (k_here; (with_reducible show wpAny _ _ (call (Value.ref 35) [Value.str _ _]) _ _ _); k_dflt (refine' strip_call _ _ _ _ _ _ _ _ _ _ _ _ _ _ _ _ _ _ _ _ _ _ _ _ ?k1 ?k2 ?k3 ?k4 ?k5 ?k6 ?k7 ?k8 _ _ ?k9 ?kx ?_; (case k1 => k_asm); (case k2 => k_asm); (case k3 => k_asm); (case k4 => k_asm); (case k5 => k_asm); (case k6 => exact rfl); (case k7 => ktr_room); (case k8 => ktr_units); (case k9 => assumption); (case kx => assumption); k_whole; intro t'q h'q gens'q tk'q F'q N'q hM'q)) | (k_here; (with_reducible show wpAny _ _ (call (Value.ref 28) [Value.str _ _]) _ _ _); k_dflt (refine' gen_make (gq 5) ?k1 ?k2 ?k3 ?k4 ?k5 ?k6 ?g1 ?g2 ?g3 ?g4 ?k7 ?k8 ?k9 ?kx ?_; (case k1 => k_asm); (case k2 => k_asm); (case k3 => k_asm); (case k4 => k_asm); (case k5 => ktr_room); (case k6 => k_is); (case g1 => rfl); (case g2 => rfl); (case g3 => rfl); (case g4 => rfl); (case k7 => k_is); (case k8 => k_is); (case k9 => rfl); (case kx => assumption); k_whole; intro ag'q lg'q gn'q gst'q h'q gens'q tk'q F'q N'q hM'q hG'q))) | walk1 | (dsimp only; walk1) | (leave1; walk_say "STEP leave1"; try dsimp only) | fail "no step")
    · rename Fr _ _ _ _ => Fz; rename News _ _ _ _ => Nz; rename (_ == _) = true => hq
      have hq' : ckStep (some o) (p, u) = some (o + 1) := by unfold ckStep; dsimp only; rw [if_pos (show (u == opn) = true from hq)]
      rw [hq']
      exact chk_end Fz Nz hdis rfl rfl
    · rename Fr _ _ _ _ => Fz; rename News _ _ _ _ => Nz; rename (_ == _) = true => hq; rename (u == Str.ofString "(") = false => hq0
      have hlt : o - 1 < 0 := by omega
      have hq' : ckStep (some o) (p, u) = none := by unfold ckStep; dsimp only; rw [if_neg (by rw [show (u == opn) = false from hq0]; exact Bool.false_ne_true), if_pos (show (u == cls) = true from hq), if_pos hlt]
      have hres := hret' _ (hfin hq')
      clear hret'
      dsimp only [TurnPost]
      repeat' (first | (k_unfold; (try dsimp only)) | (k_end; wrow_close) | ((with_reducible show wpAny _ _ (call (Value.ref _) _) _ _ _); first | (k_here; (with_reducible show wpAny _ _ (call (Value.ref 35) [Value.str _ _]) _ _ _); k_dflt (refine' strip_call _ _ _ _ _ _ _ _ _ _ _ _ _ _ _ _ _ _ _ _ _ _ _ _ ?k1 ?k2 ?k3 ?k4 ?k5 ?k6 ?k7 ?k8 _ _ ?k9 ?kx ?_; (case k1 => k_asm); (case k2 => k_asm); (case k3 => k_asm); (case k4 => k_asm); (case k5 => k_asm); (case k6 => exact rfl); (case k7 => ktr_room); (case k8 => ktr_units); (case k9 => assumption); (case kx => assumption); k_whole; intro t'q h'q gens'q tk'q F'q N'q hM'q)) | (k_here; (with_reducible show wpAny _ _ (call (Value.ref 28) [Value.str _ _]) _ _ _); k_dflt (refine' gen_make (gq 5) ?k1 ?k2 ?k3 ?k4 ?k5 ?k6 ?g1 ?g2 ?g3 ?g4 ?k7 ?k8 ?k9 ?kx ?_; (case k1 => k_asm); (case k2 => k_asm); (case k3 => k_asm); (case k4 => k_asm); (case k5 => ktr_room); (case k6 => k_is); (case g1 => rfl); (case g2 => rfl); (case g3 => rfl); (case g4 => rfl); (case k7 => k_is); (case k8 => k_is); (case k9 => rfl); (case kx => assumption); k_whole; intro ag'q lg'q gn'q gst'q h'q gens'q tk'q F'q N'q hM'q hG'q))) | walk1 | (dsimp only; walk1) | (leave1; walk_say "STEP leave1"; try dsimp only) | fail "no step")
      rename Fr _ _ _ _ => Fz; rename News _ _ _ _ => Nz
      exact hres _ _ _ Fz (fun q hq => Nz q (List.mem_append_left _ hq)) ((hM0.trans hM).trans hgm)
    · rename Fr _ _ _ _ => Fz; rename News _ _ _ _ => Nz; rename (_ == _) = true => hq; rename (u == Str.ofString "(") = false => hq0
      have hlt : ¬ o - 1 < 0 := by omega
      have hq' : ckStep (some o) (p, u) = some (o - 1) := by unfold ckStep; dsimp only; rw [if_neg (by rw [show (u == opn) = false from hq0]; exact Bool.false_ne_true), if_pos (show (u == cls) = true from hq), if_neg hlt]
      rw [hq']
      exact chk_end Fz Nz hdis rfl rfl
    · rename Fr _ _ _ _ => Fz; rename News _ _ _ _ => Nz; rename (u == Str.ofString ")") = false => hq; rename (u == Str.ofString "(") = false => hq0
      have hq' : ckStep (some o) (p, u) = some o := by
        unfold ckStep; dsimp only
        rw [if_neg (by first | (rw [show (u == opn) = false from hq0]; exact Bool.false_ne_true) | (rw [show (u == opn) = false from hq]; exact Bool.false_ne_true)), if_neg (by first | (rw [show (u == cls) = false from hq]; exact Bool.false_ne_true) | (rw [show (u == cls) = false from hq0]; exact Bool.false_ne_true))]
      rw [hq']
      exact chk_end Fz Nz hdis rfl rfl
  · (intro h' gg tk m' n' F₁ N₁ wq25; obtain ⟨o, to, e0, rfl, e1⟩ := wq25; intro hgm)
    rw [map1 m' e1] at F₁
    clear F1 N1 hG
    have hb : chkP x = decide (o = 0) := by unfold chkP; rw [e0]
    have hres := hret' _ hb
    clear hret'
    repeat' (first | (k_unfold; (try dsimp only)) | (k_end; wrow_close) | ((with_reducible show wpAny _ _ (call (Value.ref _) _) _ _ _); first | (k_here; (with_reducible show wpAny _ _ (call (Value.ref 35) [Value.str _ _]) _ _ _); k_dflt (refine' strip_call _ _ _ _ _ _ _ _ _ _ _ _ _ _ _ _ _ _ _ _ _ _ _ _ ?k1 ?k2 ?k3 ?k4 ?k5 ?k6 ?k7 ?k8 _ _ ?k9 ?kx ?_; (case k1 => k_asm); (case k2 => k_asm); (case k3 => k_asm); (case k4 => k_asm); (case k5 => k_asm); (case k6 => exact rfl); (case k7 => ktr_room); (case k8 => ktr_units); (case k9 => assumption); (case kx => assumption); k_whole; intro t'q h'q gens'q tk'q F'q N'q hM'q)) | (k_here; (with_reducible show wpAny _ _ (call (Value.ref 28) [Value.str _ _]) _ _ _); k_dflt (refine' gen_make (gq 5) ?k1 ?k2 ?k3 ?k4 ?k5 ?k6 ?g1 ?g2 ?g3 ?g4 ?k7 ?k8 ?k9 ?kx ?_; (case k1 => k_asm); (case k2 => k_asm); (case k3 => k_asm); (case k4 => k_asm); (case k5 => ktr_room); (case k6 => k_is); (case g1 => rfl); (case g2 => rfl); (case g3 => rfl); (case g4 => rfl); (case k7 => k_is); (case k8 => k_is); (case k9 => rfl); (case kx => assumption); k_whole; intro ag'q lg'q gn'q gst'q h'q gens'q tk'q F'q N'q hM'q hG'q))) | walk1 | (dsimp only; walk1) | (leave1; walk_say "STEP leave1"; try dsimp only) | fail "no step")
    rename Fr _ _ _ _ => Fz; rename News _ _ _ _ => Nz
    exact hres _ _ _ Fz Nz ((hM0.trans hM).trans hgm)
end
section
local macro_rules | `(tactic| k_inst) => `(tactic| (refine' inst_acc ?N ?h1 ?h2; (case N => k_asm); (case h1 => k_mem); (case h2 => k_mem)))
local macro_rules | `(tactic| walk_at "getMethod ref") => `(tactic| (k_here; k_dflt (refine' method_L ?k1 ?k2 ?k3 ?k4 ?k5 ?k6 ?k7 ?k8 ?k9 ?_; (case k1 => k_asm); (case k2 => k_asm); (case k3 => k_inst); (case k4 => k_is); (case k5 => k_is); (case k6 => k_is); (case k7 => k_is); (case k8 => decide +kernel); (case k9 => k_get); k_whole)))
local macro_rules | `(tactic| walk_at "getAttr ref") => `(tactic| (k_here; k_dflt (refine' get_ownL ?k1 ?k2 ?k3 ?k4 ?k5 ?k6 ?k7 ?k8 ?k9 ?k10 ?k11 ?_; (case k1 => k_asm); (case k2 => k_asm); (case k3 => k_inst); (case k4 => k_is); (case k5 => k_is); (case k6 => k_is); (case k7 => k_is); (case k8 => k_is); (case k9 => k_is); (case k10 => k_get); (case k11 => k_handed); k_whole)))
local macro_rules | `(tactic| walk_at "call builtin:list.append") => `(tactic| (k_here; (with_reducible show wpAny _ _ (call (Value.builtin _) [Value.ref _, _]) _ _ _); k_dflt (refine' append_A ?k1 ?k2 ?k3 ?k4 ?k5 ?z ?_; (case k1 => k_asm); (case k2 => k_asm); (case k3 => k_asm); (case k5 => k_upd); (case k4 => k_is); (case z => first | assumption | omega); k_whole); intro h' F' N'; (try k_sweep)))
local macro_rules | `(tactic| walk_at "setAttr ref") => `(tactic| (k_here; k_dflt (refine' set_dictL ?k1 ?k2 ?k3 ?k4 ?k5 ?k6 ?k7 ?k8 ?k9 ?k10 ?k11 ?k12 ?k13 ?_; (case k1 => k_asm); (case k2 => k_asm); (case k3 => k_asm); (case k4 => (refine' inst_acc ?N ?h1 ?h2; (case N => k_asm); (case h1 => k_mem); (case h2 => k_mem))); (case k5 => exact rfl); (case k6 => k_is); (case k7 => kernel_rfl); (case k8 => k_is); (case k9 => k_is); (case k10 => k_get); (case k11 => k_put); (case k12 => k_upd); (case k13 => exact Nat.le_of_ble_eq_true rfl); k_whole; intro h' F' N'; (try k_sweep))))
local macro_rules | `(tactic| k_get) => `(tactic| assumption)
section
theorem calm43 {M : PySem.Model} {A : PySem.Around} {Q : Unit → PySem.Shared → Prop} {E : PySem.Value → PySem.Shared → Prop} {s : PySem.Shared} (h : Q () s) : PySem.wpAny M A (pure ()) Q E s := by
  w_top off
  first | (walk1; done) | exact PySem.wpAny_pure h
noncomputable abbrev iniOf (P : Params) (t1 t2 : Tok) : Obj := dictOf [⟨PyData.keyHash P "_initial_size", .str "_initial_size" t1, .int 0 t2⟩] 1
structure Off7 (fo fd ll ac da : Addr) (tl : List (Addr × Obj)) : Prop where
  c1 : @LT.lt Nat _ 168 fd
  c2 : @LT.lt Nat _ fd fo
  c3 : @LT.lt Nat _ fo ll
  c4 : @LT.lt Nat _ ll da
  c5 : @LT.lt Nat _ da ac
  t1 : ∀ p ∈ tl, p.1 ≠ 161
  t2 : ∀ p ∈ tl, p.1 ≠ 168
  t3 : ∀ p ∈ tl, p.1 ≠ fo
  t4 : ∀ p ∈ tl, p.1 ≠ fd
  t5 : ∀ p ∈ tl, p.1 ≠ ll
  t6 : ∀ p ∈ tl, p.1 ≠ ac
  t7 : ∀ p ∈ tl, p.1 ≠ da
theorem count_call {w : World} {p : Program} {loose : List Str} {mean : ExcName → Option Value} {mg mb : Str → Option Value}
  {dp un : Nat} {gd : Option (List Code)} {cn : Str} {cs : Scope} {a : Addr} {ccd : Value} {cl : List (Str × Addr)} {outer : List Env} {A₀ : Around} {base h₀ : Heap} {L : Addr} {m : Str → Option Value} {s : Shared} {Q : Value → Shared → Prop} {E : Value → Shared → Prop}
  {o1 o2 fob fdb llb : Obj} {fo fd ll ac da : Addr} {tl : List (Addr × Obj)} {its : Array Value} {k : Nat} {t1 t2 : Tok} (O : Off7 fo fd ll ac da tl)
  (B : Below A₀ base outer h₀) (F : Fr h₀ L s.heap m) (X : (heap39 w.params).In h₀)
  (N : News h₀ L s.heap ((161, o1) :: (168, o2) :: (fo, fob) :: (fd, fdb) :: (ll, llb) :: (ac, accObj 199 da its k) :: (da, iniOf w.params t1 t2) :: tl))
  (T : Top p loose mean mg mb h₀) (hk : cs.kind = .function) (hd' : dp + 20 < recursionLimit) (hu : un + 80 < cLine)
  (hz : its.size ≤ 1000)
  (hret : ∀ (h' : Heap) (t' tk' : Nat), Fr h₀ L h' m → News h₀ L h' ((161, o1) :: (168, o2) :: (fo, fob) :: (fd, fdb) :: (ll, llb) :: (ac, accObj 199 da its k) :: (da, iniOf w.params t1 t2) :: tl) → Q (.int its.size t') { s with heap := h', toks := tk' }) :
   wpAny (model PP w) (ktrTop dp un gd cn cs L a ccd cl outer) (call (.ref (nat_lit 196)) [.ref ac]) Q E s := by
  have _k : (fun (_ : OpenLaw) => True) PySem.Challenge.rw_tc0068_02 ∧ heap39 = heap39 := by
    k_fill
    exact ⟨trivial, rfl⟩
  clear _k
  obtain ⟨c1, c2, c3, c4, c5, u1, u2, u3, u4, u5, u6, u7⟩ := O
  refine wpAny_call ?_
  refine' ks_code_super ?k1 ?k2 ?k3 ?k4 ?k5 ?kA ?kF ?kK ?k6 ?k7 ?k8 ?k9 ?kB ?_ ?c1 ?c2 ?c3 ?c4; (case kA => exact rfl); (case kF => exact rfl); (case kK => exact hk); (case k1 => k_asm); (case k2 => k_asm); (case k3 => k_asm); (case k4 => k_asm); (case k5 => k_asm); (case k6 => k_is); (case k7 => k_is); (case k8 => k_room); (case k9 => exact BindsTo.of_eq rfl); (case kB => exact locs rfl); (case c1 => decide); (case c2 => exact rfl); (case c3 => exact rfl); (case c4 => exact rfl); intro g' L' h' FG' F' N' B' X' T' l1; (try k_lt l1); (try dsimp only); (try k_lift B')
  repeat' (first | (k_unfold; (try dsimp only)) | (k_end; wrow_close) | ((with_reducible show wpAny _ _ (call (Value.ref _) _) _ _ _); first | (k_here; (with_reducible show wpAny _ _ (call (Value.ref _) []) _ _ _); k_dflt (refine' bound_pop ?k1 ?k2 ?k3 ?k4 ?k5 ?k6 ?k7 ?k8 ?_; (case k1 => k_asm); (case k2 => k_asm); (case k3 => k_asm); (case k5 => k_mem); (case k8 => k_upd); (case k6 => exact rfl); (case k7 => first | assumption | omega); (case k4 => kernel_rfl); k_whole; intro h'q F'q N'q; (try k_sweep))) | (k_here; (with_reducible show wpAny _ _ (call (Value.ref _) []) _ _ _); k_dflt (refine' bound_len ?k1 ?k2 ?k3 ?_; (case k1 => k_asm); (case k2 => k_mem); (case k3 => k_mem); k_whole))) | ((with_reducible show wpAny _ _ (getMethod (Value.ref _) _ _) _ _ _); (k_here; k_dflt (refine' super_pop ?k1 ?k2 ?k3 ?k4 ?k5 ?k6 ?k7 ?k8 ?_; (case k1 => k_asm); (case k2 => k_asm); (case k3 => k_asm); (case k4 => k_mem); (case k5 => k_inst); (case k6 => k_is); (case k7 => k_is); (case k8 => kernel_rfl); k_whole; intro q'q h'q F'q N'q l1q; (try k_lt l1q); (try dsimp only)))) | ((with_reducible show wpAny _ _ (callWith _ (Value.ref _) _ _ _) _ _ _); (k_here; k_dflt (refine' callWith_B ?k1 ?k2 ?k3 ?_; (case k1 => k_asm); (case k2 => k_mem); (case k3 => decide +kernel); k_whole; (try dsimp only [List.nil_append, List.cons_append])))) | ((with_reducible show wpAny _ _ (getMethod (Value.ref _) _ _) _ _ _); (k_here; k_dflt (refine' super_len ?k1 ?k2 ?k3 ?k4 ?k5 ?k6 ?k7 ?k8 ?_; (case k1 => k_asm); (case k2 => k_asm); (case k3 => k_asm); (case k4 => k_mem); (case k5 => k_inst); (case k6 => k_is); (case k7 => k_is); (case k8 => kernel_rfl); k_whole; intro q'q h'q F'q N'q l1q; (try k_lt l1q); (try dsimp only)))) | walk1 | (dsimp only; walk1) | (leave1; walk_say "STEP leave1"; try dsimp only) | fail "no step")
  rename Fr _ _ _ _ => Fz; rename News _ _ _ _ => Nz
  exact hret _ _ _ Fz (fun q hq => Nz q (by first | (revert q; (repeat (refine sub_cons (by repeat (first | exact List.mem_cons_self | apply List.mem_cons_of_mem)) ?_)); (first | exact (fun _ h => absurd h List.not_mem_nil) | (intro x9 hx9; repeat (first | exact hx9 | exact hs x9 hx9 | apply List.mem_cons_of_mem)))) | (simp only [List.mem_cons] at hq ⊢; rcases hq with h | h | h | h | h | h | h | h <;> simp [h])))
end
section
theorem calm44 {M : PySem.Model} {A : PySem.Around} {Q : Unit → PySem.Shared → Prop} {E : PySem.Value → PySem.Shared → Prop} {s : PySem.Shared} (h : Q () s) : PySem.wpAny M A (pure ()) Q E s := by
  w_top off
  first | (walk1; done) | exact PySem.wpAny_pure h
theorem push_code {w : World} {p : Program} {loose : List Str} {mean : ExcName → Option Value} {mg mb : Str → Option Value}
  {dp un : Nat} {gd : Option (List Code)} {cn : Str} {cs : Scope} {a : Addr} {ccd : Value} {cl : List (Str × Addr)} {outer : List Env} {A₀ : Around} {base h₀ : Heap} {L : Addr} {m : Str → Option Value} {s : Shared} {Q : Value → Shared → Prop} {E : Value → Shared → Prop}
  {o1 o2 fob fdb llb : Obj} {fo fd ll ac da : Addr} {tl : List (Addr × Obj)} {its : Array Value} {k : Nat} {t1 t2 : Tok} (O : Off7 fo fd ll ac da tl)
  (B : Below A₀ base outer h₀) (F : Fr h₀ L s.heap m) (X : (heap39 w.params).In h₀)
  (N : News h₀ L s.heap ((161, o1) :: (168, o2) :: (fo, fob) :: (fd, fdb) :: (ll, llb) :: (ac, accObj 199 da its k) :: (da, iniOf w.params t1 t2) :: tl))
  (T : Top p loose mean mg mb h₀) (hk : cs.kind = .function) (hd' : dp + 20 < recursionLimit) (hu : un + 80 < cLine)
  {v u : Str} {tv tu : Tok} (hz : its.size ≤ 1000)
  (hret : ∀ (t : Addr) (h' : Heap) (tk' : Nat), Fr h₀ L h' m → News h₀ L h' ((161, o1) :: (168, o2) :: (fo, fob) :: (fd, fdb) :: (ll, llb) :: (ac, accObj 199 da (its.push (.ref t)) (k + 1)) :: (da, iniOf w.params t1 t2) :: (t, tupOf #[.str v tv, .str u tu]) :: tl) →
    Off7 fo fd ll ac da ((t, tupOf #[.str v tv, .str u tu]) :: tl) → Q .none { s with heap := h', toks := tk' }) :
   codeAny (model PP w) (ktrTop dp un gd cn cs L a ccd cl outer) (.call (.ref (nat_lit 143)) ⟨[.ref ac, .str v tv, .str u tu], []⟩) (fun r s' => match r with | .ok (.ret v) => Q v s' | .ok _ => False | .error e => E e s') s := by
  have _k : (fun (_ : OpenLaw) => True) PySem.Challenge.rw_tc0068_02 ∧ heap39 = heap39 := by
    k_fill
    exact ⟨trivial, rfl⟩
  clear _k
  obtain ⟨c1, c2, c3, c4, c5, u1, u2, u3, u4, u5, u6, u7⟩ := O
  cell_enter
  repeat' (first | (k_unfold; (try dsimp only)) | (k_end; wrow_close) | ((with_reducible show wpAny _ _ (call (Value.ref _) _) _ _ _); first | (k_here; (with_reducible show wpAny _ _ (call (Value.ref _) []) _ _ _); k_dflt (refine' bound_pop ?k1 ?k2 ?k3 ?k4 ?k5 ?k6 ?k7 ?k8 ?_; (case k1 => k_asm); (case k2 => k_asm); (case k3 => k_asm); (case k5 => k_mem); (case k8 => k_upd); (case k6 => exact rfl); (case k7 => first | assumption | omega); (case k4 => kernel_rfl); k_whole; intro h'q F'q N'q; (try k_sweep))) | (k_here; (with_reducible show wpAny _ _ (call (Value.ref _) []) _ _ _); k_dflt (refine' bound_len ?k1 ?k2 ?k3 ?_; (case k1 => k_asm); (case k2 => k_mem); (case k3 => k_mem); k_whole))) | ((with_reducible show wpAny _ _ (getMethod (Value.ref _) _ _) _ _ _); (k_here; k_dflt (refine' super_pop ?k1 ?k2 ?k3 ?k4 ?k5 ?k6 ?k7 ?k8 ?_; (case k1 => k_asm); (case k2 => k_asm); (case k3 => k_asm); (case k4 => k_mem); (case k5 => k_inst); (case k6 => k_is); (case k7 => k_is); (case k8 => kernel_rfl); k_whole; intro q'q h'q F'q N'q l1q; (try k_lt l1q); (try dsimp only)))) | ((with_reducible show wpAny _ _ (callWith _ (Value.ref _) _ _ _) _ _ _); (k_here; k_dflt (refine' callWith_B ?k1 ?k2 ?k3 ?_; (case k1 => k_asm); (case k2 => k_mem); (case k3 => decide +kernel); k_whole; (try dsimp only [List.nil_append, List.cons_append])))) | ((with_reducible show wpAny _ _ (getMethod (Value.ref _) _ _) _ _ _); (k_here; k_dflt (refine' super_len ?k1 ?k2 ?k3 ?k4 ?k5 ?k6 ?k7 ?k8 ?_; (case k1 => k_asm); (case k2 => k_asm); (case k3 => k_asm); (case k4 => k_mem); (case k5 => k_inst); (case k6 => k_is); (case k7 => k_is); (case k8 => kernel_rfl); k_whole; intro q'q h'q F'q N'q l1q; (try k_lt l1q); (try dsimp only)))) | walk1 | (dsimp only; walk1) | (leave1; walk_say "STEP leave1"; try dsimp only) | fail "no step")
  rename Fr _ _ _ _ => Fz; rename News _ _ _ _ => Nz; rename _ ∧ _ => l9
  rename_i lr _ _ _ _ _ _
  skip
  obtain ⟨e1, e2, e3, e4, e5, e6, e7, e8⟩ := l9
  refine hret lr _ _ Fz (fun q hq => Nz q ?_) ⟨c1, c2, c3, c4, c5, ?_, ?_, ?_, ?_, ?_, ?_, ?_⟩
  · first | (revert q; (repeat (refine sub_cons (by repeat (first | exact List.mem_cons_self | apply List.mem_cons_of_mem)) ?_)); (first | exact (fun _ h => absurd h List.not_mem_nil) | (intro x9 hx9; repeat (first | exact hx9 | exact hs x9 hx9 | apply List.mem_cons_of_mem)))) | (simp only [List.mem_cons] at hq ⊢; rcases hq with h | h | h | h | h | h | h | h | h <;> simp [h])
  all_goals (refine List.forall_mem_cons.mpr ⟨?_, by assumption⟩; k_ne)

theorem push_call {w : World} {p : Program} {loose : List Str} {mean : ExcName → Option Value} {mg mb : Str → Option Value}
  {dp un : Nat} {gd : Option (List Code)} {cn : Str} {cs : Scope} {a : Addr} {ccd : Value} {cl : List (Str × Addr)} {outer : List Env} {A₀ : Around} {base h₀ : Heap} {L : Addr} {m : Str → Option Value} {s : Shared} {Q : Value → Shared → Prop} {E : Value → Shared → Prop}
  {o1 o2 fob fdb llb : Obj} {fo fd ll ac da : Addr} {tl : List (Addr × Obj)} {its : Array Value} {k : Nat} {t1 t2 : Tok} (O : Off7 fo fd ll ac da tl)
  (B : Below A₀ base outer h₀) (F : Fr h₀ L s.heap m) (X : (heap39 w.params).In h₀)
  (N : News h₀ L s.heap ((161, o1) :: (168, o2) :: (fo, fob) :: (fd, fdb) :: (ll, llb) :: (ac, accObj 199 da its k) :: (da, iniOf w.params t1 t2) :: tl))
  (T : Top p loose mean mg mb h₀) (hk : cs.kind = .function) (hd' : dp + 20 < recursionLimit) (hu : un + 80 < cLine)
  {v u : Str} {tv tu : Tok} (hz : its.size ≤ 1000)
  (hret : ∀ (t : Addr) (h' : Heap) (tk' : Nat), Fr h₀ L h' m → News h₀ L h' ((161, o1) :: (168, o2) :: (fo, fob) :: (fd, fdb) :: (ll, llb) :: (ac, accObj 199 da (its.push (.ref t)) (k + 1)) :: (da, iniOf w.params t1 t2) :: (t, tupOf #[.str v tv, .str u tu]) :: tl) →
    Off7 fo fd ll ac da ((t, tupOf #[.str v tv, .str u tu]) :: tl) → Q .none { s with heap := h', toks := tk' }) :
   wpAny (model PP w) (ktrTop dp un gd cn cs L a ccd cl outer) (call (.ref (nat_lit 143)) [.ref ac, .str v tv, .str u tu]) Q E s :=
  wpAny_call (push_code O B F X N T hk hd' hu hz hret)
end
section
theorem calm45 {M : PySem.Model} {A : PySem.Around} {Q : Unit → PySem.Shared → Prop} {E : PySem.Value → PySem.Shared → Prop} {s : PySem.Shared} (h : Q () s) : PySem.wpAny M A (pure ()) Q E s := by
  w_top off
  first | (walk1; done) | exact PySem.wpAny_pure h
local macro_rules | `(tactic| walk_at "wpAt") => `(tactic| (dsimp only; ks_step "execs cons"; refine ks_wpAt_execs_cons ?_))
theorem pop_call {w : World} {p : Program} {loose : List Str} {mean : ExcName → Option Value} {mg mb : Str → Option Value}
  {dp un : Nat} {gd : Option (List Code)} {cn : Str} {cs : Scope} {a : Addr} {ccd : Value} {cl : List (Str × Addr)} {outer : List Env} {A₀ : Around} {base h₀ : Heap} {L : Addr} {m : Str → Option Value} {s : Shared} {Q : Value → Shared → Prop} {E : Value → Shared → Prop}
  {o1 o2 fob fdb llb : Obj} {fo fd ll ac da : Addr} {tl : List (Addr × Obj)} {ys : Array Value} {v : Value} {k : Nat} {t1 t2 : Tok} (O : Off7 fo fd ll ac da tl)
  (B : Below A₀ base outer h₀) (F : Fr h₀ L s.heap m) (X : (heap39 w.params).In h₀)
  (N : News h₀ L s.heap ((161, o1) :: (168, o2) :: (fo, fob) :: (fd, fdb) :: (ll, llb) :: (ac, accObj 199 da (ys.push v) k) :: (da, iniOf w.params t1 t2) :: tl))
  (T : Top p loose mean mg mb h₀) (hk : cs.kind = .function) (hd' : dp + 40 < recursionLimit) (hu : un + 300 < cLine)
  (hz : ys.size < 1000)
  (hret : ∀ (h' : Heap) (tk' : Nat), Fr h₀ L h' m → News h₀ L h' ((161, o1) :: (168, o2) :: (fo, fob) :: (fd, fdb) :: (ll, llb) :: (ac, accObj 199 da ys (k + 1)) :: (da, iniOf w.params t1 t2) :: tl) → Q v { s with heap := h', toks := tk' }) :
   wpAny (model PP w) (ktrTop dp un gd cn cs L a ccd cl outer) (call (.ref (nat_lit 159)) [.ref ac]) Q E s := by
  have _k : (fun (_ : OpenLaw) => True) PySem.Challenge.rw_tc0068_02 ∧ heap39 = heap39 := by
    k_fill
    exact ⟨trivial, rfl⟩
  clear _k
  have O' := O
  obtain ⟨c1, c2, c3, c4, c5, u1, u2, u3, u4, u5, u6, u7⟩ := O
  refine wpAny_call ?_
  refine' ks_code_super ?k1 ?k2 ?k3 ?k4 ?k5 ?kA ?kF ?kK ?k6 ?k7 ?k8 ?k9 ?kB ?_ ?c1 ?c2 ?c3 ?c4; (case kA => exact rfl); (case kF => exact rfl); (case kK => exact hk); (case k1 => k_asm); (case k2 => k_asm); (case k3 => k_asm); (case k4 => k_asm); (case k5 => k_asm); (case k6 => k_is); (case k7 => k_is); (case k8 => k_room); (case k9 => exact BindsTo.of_eq rfl); (case kB => exact locs rfl); (case c1 => decide); (case c2 => exact rfl); (case c3 => exact rfl); (case c4 => exact rfl); intro g' L' h' FG' F' N' B' X' T' l1; (try k_lt l1); (try dsimp only); (try k_lift B')
  repeat' ((fail_if_success (with_reducible show PySem.wpAt _ _ _ (eval (Expr.Call (Expr.Attribute (Expr.Call _ _ _ _) _ _) _ _ _) _) _ _ _)); (first | (k_unfold; (try dsimp only)) | (k_end; wrow_close) | ((with_reducible show wpAny _ _ (call (Value.ref _) _) _ _ _); first | (k_here; (k_dflt (show wpAny _ _ (call (Value.ref 196) [Value.ref _]) _ _ _)); k_dflt (refine' count_call ?k4 ?k0 ?k1 ?k2 ?k3 ?k5 ?k6 ?k7 ?k8 ?k9 ?_; (case k4 => k_asm); (case k0 => k_asm); (case k1 => k_asm); (case k2 => k_asm); (case k3 => k_asm); (case k5 => k_asm); (case k6 => exact rfl); (case k7 => ktr_room); (case k8 => ktr_units); (case k9 => first | assumption | omega | (simp only [Array.size_push]; omega)); k_whole; intro h'q t'q tk'q F'q N'q; (try k_sweep))) | (k_here; (with_reducible show wpAny _ _ (call (Value.ref _) []) _ _ _); k_dflt (refine' bound_pop ?k1 ?k2 ?k3 ?k4 ?k5 ?k6 ?k7 ?k8 ?_; (case k1 => k_asm); (case k2 => k_asm); (case k3 => k_asm); (case k5 => k_mem); (case k8 => k_upd); (case k6 => exact rfl); (case k7 => first | assumption | omega); (case k4 => kernel_rfl); k_whole; intro h'q F'q N'q; (try k_sweep))) | (k_here; (with_reducible show wpAny _ _ (call (Value.ref _) []) _ _ _); k_dflt (refine' bound_len ?k1 ?k2 ?k3 ?_; (case k1 => k_asm); (case k2 => k_mem); (case k3 => k_mem); k_whole))) | ((with_reducible show wpAny _ _ (getMethod (Value.ref _) _ _) _ _ _); (k_here; k_dflt (refine' super_pop ?k1 ?k2 ?k3 ?k4 ?k5 ?k6 ?k7 ?k8 ?_; (case k1 => k_asm); (case k2 => k_asm); (case k3 => k_asm); (case k4 => k_mem); (case k5 => k_inst); (case k6 => k_is); (case k7 => k_is); (case k8 => kernel_rfl); k_whole; intro q'q h'q F'q N'q l1q; (try k_lt l1q); (try dsimp only)))) | ((with_reducible show wpAny _ _ (callWith _ (Value.ref _) _ _ _) _ _ _); (k_here; k_dflt (refine' callWith_B ?k1 ?k2 ?k3 ?_; (case k1 => k_asm); (case k2 => k_mem); (case k3 => decide +kernel); k_whole; (try dsimp only [List.nil_append, List.cons_append])))) | ((with_reducible show wpAny _ _ (getMethod (Value.ref _) _ _) _ _ _); (k_here; k_dflt (refine' super_len ?k1 ?k2 ?k3 ?k4 ?k5 ?k6 ?k7 ?k8 ?_; (case k1 => k_asm); (case k2 => k_asm); (case k3 => k_asm); (case k4 => k_mem); (case k5 => k_inst); (case k6 => k_is); (case k7 => k_is); (case k8 => kernel_rfl); k_whole; intro q'q h'q F'q N'q l1q; (try k_lt l1q); (try dsimp only)))) | walk1 | (dsimp only; walk1) | (leave1; walk_say "STEP leave1"; try dsimp only) | fail "no step"))
  · exfalso; rename _ = (0 : Int) => z; simp only [Array.size_push] at z; omega
  (ks_step "eval Call"; refine ks_wpAt_MethodCall ?_)
  ks_step "attributeBase Call"
  k_here
  k_dflt (refine ks_node (by k_asm) (by k_asm) (by k_asm) (by k_asm) (by k_is) (by rfl) (by rfl) (by k_inst) (by k_is) (by rfl) (by first | rfl | decide +kernel) (by k_is) (by k_is) (by k_is) (by k_is) (by decide) (by rfl) (by rfl) (by rfl) (by rfl) (by decide +kernel) (by first | boot_by_name | rfl | kernel_rfl) ?_; intro so' h' F' N' l1; (try k_lt l1))
  repeat' (first | (k_unfold; (try dsimp only)) | (k_end; wrow_close) | ((with_reducible show wpAny _ _ (call (Value.ref _) _) _ _ _); first | (k_here; (k_dflt (show wpAny _ _ (call (Value.ref 196) [Value.ref _]) _ _ _)); k_dflt (refine' count_call ?k4 ?k0 ?k1 ?k2 ?k3 ?k5 ?k6 ?k7 ?k8 ?k9 ?_; (case k4 => k_asm); (case k0 => k_asm); (case k1 => k_asm); (case k2 => k_asm); (case k3 => k_asm); (case k5 => k_asm); (case k6 => exact rfl); (case k7 => ktr_room); (case k8 => ktr_units); (case k9 => first | assumption | omega | (simp only [Array.size_push]; omega)); k_whole; intro h'q t'q tk'q F'q N'q; (try k_sweep))) | (k_here; (with_reducible show wpAny _ _ (call (Value.ref _) []) _ _ _); k_dflt (refine' bound_pop ?k1 ?k2 ?k3 ?k4 ?k5 ?k6 ?k7 ?k8 ?_; (case k1 => k_asm); (case k2 => k_asm); (case k3 => k_asm); (case k5 => k_mem); (case k8 => k_upd); (case k6 => exact rfl); (case k7 => first | assumption | omega); (case k4 => kernel_rfl); k_whole; intro h'q F'q N'q; (try k_sweep))) | (k_here; (with_reducible show wpAny _ _ (call (Value.ref _) []) _ _ _); k_dflt (refine' bound_len ?k1 ?k2 ?k3 ?_; (case k1 => k_asm); (case k2 => k_mem); (case k3 => k_mem); k_whole))) | ((with_reducible show wpAny _ _ (getMethod (Value.ref _) _ _) _ _ _); (k_here; k_dflt (refine' super_pop ?k1 ?k2 ?k3 ?k4 ?k5 ?k6 ?k7 ?k8 ?_; (case k1 => k_asm); (case k2 => k_asm); (case k3 => k_asm); (case k4 => k_mem); (case k5 => k_inst); (case k6 => k_is); (case k7 => k_is); (case k8 => kernel_rfl); k_whole; intro q'q h'q F'q N'q l1q; (try k_lt l1q); (try dsimp only)))) | ((with_reducible show wpAny _ _ (callWith _ (Value.ref _) _ _ _) _ _ _); (k_here; k_dflt (refine' callWith_B ?k1 ?k2 ?k3 ?_; (case k1 => k_asm); (case k2 => k_mem); (case k3 => decide +kernel); k_whole; (try dsimp only [List.nil_append, List.cons_append])))) | ((with_reducible show wpAny _ _ (getMethod (Value.ref _) _ _) _ _ _); (k_here; k_dflt (refine' super_len ?k1 ?k2 ?k3 ?k4 ?k5 ?k6 ?k7 ?k8 ?_; (case k1 => k_asm); (case k2 => k_asm); (case k3 => k_asm); (case k4 => k_mem); (case k5 => k_inst); (case k6 => k_is); (case k7 => k_is); (case k8 => kernel_rfl); k_whole; intro q'q h'q F'q N'q l1q; (try k_lt l1q); (try dsimp only)))) | walk1 | (dsimp only; walk1) | (leave1; walk_say "STEP leave1"; try dsimp only) | fail "no step")
  rename Fr _ _ _ _ => Fz; rename News _ _ _ _ => Nz
  exact hret _ _ Fz (fun q hq => Nz q (by first | (revert q; (repeat (refine sub_cons (by repeat (first | exact List.mem_cons_self | apply List.mem_cons_of_mem)) ?_)); (first | exact (fun _ h => absurd h List.not_mem_nil) | (intro x9 hx9; repeat (first | exact hx9 | exact hs x9 hx9 | apply List.mem_cons_of_mem)))) | (simp only [List.mem_cons] at hq ⊢; rcases hq with h | h | h | h | h | h | h | h <;> simp [h])))
end
section
theorem calm46 {M : PySem.Model} {A : PySem.Around} {Q : Unit → PySem.Shared → Prop} {E : PySem.Value → PySem.Shared → Prop} {s : PySem.Shared} (h : Q () s) : PySem.wpAny M A (pure ()) Q E s := by
  w_top off
  first | (walk1; done) | exact PySem.wpAny_pure h
theorem popf_call {w : World} {p : Program} {loose : List Str} {mean : ExcName → Option Value} {mg mb : Str → Option Value}
  {dp un : Nat} {gd : Option (List Code)} {cn : Str} {cs : Scope} {a : Addr} {ccd : Value} {cl : List (Str × Addr)} {outer : List Env} {A₀ : Around} {base h₀ : Heap} {L : Addr} {m : Str → Option Value} {s : Shared} {Q : Value → Shared → Prop} {E : Value → Shared → Prop}
  {o1 o2 fob fdb llb : Obj} {fo fd ll ac da : Addr} {tl : List (Addr × Obj)} {ys : Array Value} {v : Value} {k : Nat} {t1 t2 ti : Tok} {i : Int} (O : Off7 fo fd ll ac da tl)
  (B : Below A₀ base outer h₀) (F : Fr h₀ L s.heap m) (X : (heap39 w.params).In h₀)
  (N : News h₀ L s.heap ((161, o1) :: (168, o2) :: (fo, fob) :: (fd, fdb) :: (ll, llb) :: (ac, accObj 199 da (ys.push v) k) :: (da, iniOf w.params t1 t2) :: tl))
  (T : Top p loose mean mg mb h₀) (hk : cs.kind = .function) (hd' : dp + 40 < recursionLimit) (hu : un + 300 < cLine)
  (hz : ys.size < 1000) (hi : i = (ys.size : Int))
  (hret : ∀ (l : Addr) (h' : Heap) (tk' k' : Nat), Fr h₀ L h' m → News h₀ L h' ((161, o1) :: (168, o2) :: (fo, fob) :: (fd, fdb) :: (ll, llb) :: (ac, accObj 199 da ys k') :: (da, iniOf w.params t1 t2) :: (l, listOf #[v] 0) :: tl) →
     Off7 fo fd ll ac da ((l, listOf #[v] 0) :: tl) → Q (.ref l) { s with heap := h', toks := tk' }) :
   wpAny (model PP w) (ktrTop dp un gd cn cs L a ccd cl outer) (call (.ref (nat_lit 151)) [.ref ac, .int i ti]) Q E s := by
  have _k : (fun (_ : OpenLaw) => True) PySem.Challenge.rw_tc0068_02 ∧ heap39 = heap39 := by
    k_fill
    exact ⟨trivial, rfl⟩
  clear _k
  obtain ⟨c1, c2, c3, c4, c5, u1, u2, u3, u4, u5, u6, u7⟩ := O
  refine wpAny_call ?_
  refine' code_def ?k1 ?k2 ?k3 ?k4 ?k5 ?kA ?kF ?kK ?k6 ?k7 ?k8 ?k9 ?kB ?_ ?c2 ?c3 ?c4 ?c5; (case kA => exact rfl); (case kF => exact rfl); (case kK => assumption); (case k1 => k_asm); (case k2 => k_asm); (case k3 => k_asm); (case k4 => k_asm); (case k5 => k_asm); (case k6 => k_is); (case k7 => k_is); (case k8 => ktr_room); (case k9 => exact binds_K (by k_in) rfl (by k_is) rfl rfl rfl); (case c5 => decide); (case kB => exact locs rfl); (case c2 => exact rfl); (case c3 => exact rfl); (case c4 => exact rfl); k_whole; intro g' L' h' FG' F' N' B' X' T'; (try dsimp only); (try k_lift B'); (try k_fold)
  repeat' (first | (k_unfold; (try dsimp only)) | (k_end; wrow_close) | ((with_reducible show wpAny _ _ (setItem (Value.ref _) _ _) _ _ _); (k_here; k_dflt (refine' store_all ?k1 ?k2 ?k3 ?k4 ?k5 ?k6 ?k7 ?k8 ?ka ?k9 ?kc ?kd ?_; (case k1 => k_asm); (case k2 => k_asm); (case k3 => k_asm); (case k4 => k_inst); (case k5 => k_is); (case k6 => kernel_rfl); (case k7 => k_is); (case k8 => k_mem); (case ka => exact rfl); (case k9 => k_upd);  (case kc => first | k_asm | omega | (simp; omega)); (case kd => k_ne); k_whole; intro h'q F'q N'q; (try k_sweep)))) | ((with_reducible show wpAny _ _ (setItem (Value.ref _) _ _) _ _ _); (k_here; k_dflt (refine' store_tail ?k1 ?k2 ?k3 ?k4 ?k5 ?k6 ?k7 ?k8 ?k9 ?ka ?kb ?kc ?kd ?_; (case k1 => k_asm); (case k2 => k_asm); (case k3 => k_asm); (case k4 => k_inst); (case k5 => k_is); (case k6 => kernel_rfl); (case k7 => k_is); (case k8 => k_mem); (case k9 => k_upd); (case ka => exact rfl); (case kb => k_asm); (case kc => k_asm); (case kd => k_ne); k_whole; intro h'q F'q N'q; (try k_sweep)))) | ((with_reducible show wpAny _ _ (getMethod (Value.ref _) _ _) _ _ _); (k_here; k_dflt (refine' super_pop ?k1 ?k2 ?k3 ?k4 ?k5 ?k6 ?k7 ?k8 ?_; (case k1 => k_asm); (case k2 => k_asm); (case k3 => k_asm); (case k4 => k_mem); (case k5 => k_inst); (case k6 => k_is); (case k7 => k_is); (case k8 => kernel_rfl); k_whole; intro q'q h'q F'q N'q l1q; (try k_lt l1q); (try dsimp only)))) | ((with_reducible show wpAny _ _ (callWith _ (Value.ref _) _ _ _) _ _ _); (k_here; k_dflt (refine' callWith_B ?k1 ?k2 ?k3 ?_; (case k1 => k_asm); (case k2 => k_mem); (case k3 => decide +kernel); k_whole; (try dsimp only [List.nil_append, List.cons_append])))) | ((with_reducible show wpAny _ _ (getMethod (Value.ref _) _ _) _ _ _); (k_here; k_dflt (refine' super_len ?k1 ?k2 ?k3 ?k4 ?k5 ?k6 ?k7 ?k8 ?_; (case k1 => k_asm); (case k2 => k_asm); (case k3 => k_asm); (case k4 => k_mem); (case k5 => k_inst); (case k6 => k_is); (case k7 => k_is); (case k8 => kernel_rfl); k_whole; intro q'q h'q F'q N'q l1q; (try k_lt l1q); (try dsimp only)))) | (k_here; (with_reducible show wpAny _ _ (subscriptTail _ _ (Value.ref _) (Value.ref _)) _ _ _); k_dflt (refine' slice_A ?k1 ?k2 ?k3 ?k4 ?k5 ?k6 ?k7 ?k8 ?k9 ?z ?_ ?k10 ?k11; (case k1 => k_asm); (case k2 => k_asm); (case k3 => k_asm); (case k4 => k_inst); (case k5 => k_is); (case k6 => kernel_rfl); (case k7 => k_is); (case k8 => first | exact IsPart.none | exact IsPart.int _ _); (case k9 => first | exact IsPart.none | exact IsPart.int _ _); (case z => first | assumption | omega | (simp only [Array.size_push]; omega)); (case k10 => exact rfl); (case k11 => intro _; exact rfl); k_whole; intro l'q h'q F'q N'q l1q; (try k_lt l1q))) | ((with_reducible show wpAny _ _ (call (Value.ref _) _) _ _ _); first | (k_here; (with_reducible show wpAny _ _ (call (Value.ref _) []) _ _ _); k_dflt (refine' bound_pop ?k1 ?k2 ?k3 ?k4 ?k5 ?k6 ?k7 ?k8 ?_; (case k1 => k_asm); (case k2 => k_asm); (case k3 => k_asm); (case k5 => k_mem); (case k8 => k_upd); (case k6 => exact rfl); (case k7 => first | assumption | omega); (case k4 => kernel_rfl); k_whole; intro h'q F'q N'q; (try k_sweep))) | (k_here; (with_reducible show wpAny _ _ (call (Value.ref _) []) _ _ _); k_dflt (refine' bound_len ?k1 ?k2 ?k3 ?_; (case k1 => k_asm); (case k2 => k_mem); (case k3 => k_mem); k_whole))) | walk1 | (dsimp only; walk1) | (leave1; walk_say "STEP leave1"; try dsimp only) | fail "no step")
  rename Fr _ _ _ _ => Fz; rename News _ _ _ _ => Nz
  subst hi
  rename_i lr _ _ _ _
  skip
  rename 161 < _ ∧ _ => l9
  have Nz2 := fun q hq => Nz q (List.mem_cons_of_mem _ hq)
  obtain ⟨l, e1⟩ := nm_head Nz2
  subst e1
  obtain ⟨e1, e2, e3, e4, e5, e6, e7, e8⟩ := l9
  rw [pick_tail] at Nz2
  refine hret l _ _ (k + 1) Fz (fun q hq => Nz2 q ?_) ⟨c1, c2, c3, c4, c5, ?_, ?_, ?_, ?_, ?_, ?_, ?_⟩
  · first | (revert q; (repeat (refine sub_cons (by repeat (first | exact List.mem_cons_self | apply List.mem_cons_of_mem)) ?_)); (first | exact (fun _ h => absurd h List.not_mem_nil) | (intro x9 hx9; repeat (first | exact hx9 | exact hs x9 hx9 | apply List.mem_cons_of_mem)))) | (simp only [List.mem_cons] at hq ⊢; rcases hq with h | h | h | h | h | h | h | h | h <;> simp [h])
  all_goals (refine List.forall_mem_cons.mpr ⟨?_, by assumption⟩; k_ne)
end
section
theorem calm47 {M : PySem.Model} {A : PySem.Around} {Q : Unit → PySem.Shared → Prop} {E : PySem.Value → PySem.Shared → Prop} {s : PySem.Shared} (h : Q () s) : PySem.wpAny M A (pure ()) Q E s := by
  w_top off
  first | (walk1; done) | exact PySem.wpAny_pure h
theorem news_drop {h₀ h : Heap} {L : Addr} {x : Addr × Obj} {xs : List (Addr × Obj)} (N : News h₀ L h (x :: xs)) : News h₀ L h xs := fun q hq => N q (List.mem_cons_of_mem _ hq)
theorem news_tl7 {h₀ h : Heap} {L : Addr} {a b c d e f g : Addr × Obj} {tl tl' : List (Addr × Obj)} (hs : ∀ q ∈ tl', q ∈ tl) (N : News h₀ L h (a :: b :: c :: d :: e :: f :: g :: tl)) : News h₀ L h (a :: b :: c :: d :: e :: f :: g :: tl') := fun q hq => N q (by
  first | (revert q; (repeat (refine sub_cons (by repeat (first | exact List.mem_cons_self | apply List.mem_cons_of_mem)) ?_)); (first | exact (fun _ h => absurd h List.not_mem_nil) | (intro x9 hx9; repeat (first | exact hx9 | exact hs x9 hx9 | apply List.mem_cons_of_mem)))) | (simp only [List.mem_cons] at hq ⊢; rcases hq with h | h | h | h | h | h | h | h <;> simp [h, hs q]))
theorem split_tl {α : Type} {x : α} {tl : List α} (h : x ∈ tl) : ∃ tl0 : List α, ∀ q, q ∈ tl ↔ q = x ∨ q ∈ tl0 := by
  obtain ⟨a, b, rfl⟩ := List.append_of_mem h
  refine ⟨a ++ b, fun q => ?_⟩
  simp only [List.mem_append, List.mem_cons]
  constructor
  · rintro (h | h | h) <;> simp [h]
  · rintro (h | h | h) <;> simp [h]
theorem reset_call {w : World} {p : Program} {loose : List Str} {mean : ExcName → Option Value} {mg mb : Str → Option Value}
  {dp un : Nat} {gd : Option (List Code)} {cn : Str} {cs : Scope} {a : Addr} {ccd : Value} {cl : List (Str × Addr)} {outer : List Env} {A₀ : Around} {base h₀ : Heap} {L : Addr} {m : Str → Option Value} {s : Shared} {Q : Value → Shared → Prop} {E : Value → Shared → Prop}
  {o1 o2 fob fdb llb : Obj} {fo fd ll ac da : Addr} {tl : List (Addr × Obj)} {its zs : Array Value} {l : Addr} {n k : Nat} {t1 t2 : Tok} (O : Off7 fo fd ll ac da tl)
  (B : Below A₀ base outer h₀) (F : Fr h₀ L s.heap m) (X : (heap39 w.params).In h₀)
  (N : News h₀ L s.heap ((161, o1) :: (168, o2) :: (fo, fob) :: (fd, fdb) :: (ll, llb) :: (ac, accObj 199 da its k) :: (da, iniOf w.params t1 t2) :: tl))
  (hl : (l, listOf zs n) ∈ tl)
  (T : Top p loose mean mg mb h₀) (hk : cs.kind = .function) (hd' : dp + 40 < recursionLimit) (hu : un + 300 < cLine)
  (hz : its.size + zs.size < 1000)
  (hret : ∀ (h' : Heap) (tk' k' : Nat) (t1' t2' : Tok), Fr h₀ L h' m → News h₀ L h' ((161, o1) :: (168, o2) :: (fo, fob) :: (fd, fdb) :: (ll, llb) :: (ac, accObj 199 da zs k') :: (da, iniOf w.params t1' t2') :: tl) → Q .none { s with heap := h', toks := tk' }) :
   wpAny (model PP w) (ktrTop dp un gd cn cs L a ccd cl outer) (call (.ref (nat_lit 181)) [.ref ac, .ref l]) Q E s := by
  have _k : (fun (_ : OpenLaw) => True) PySem.Challenge.rw_tc0068_02 ∧ heap39 = heap39 := by
    k_fill
    exact ⟨trivial, rfl⟩
  clear _k
  have O' := O
  obtain ⟨c1, c2, c3, c4, c5, u1, u2, u3, u4, u5, u6, u7⟩ := O
  have hla : ac ≠ l := fun e => u6 _ hl e.symm
  have hla' : l ≠ ac := fun e => u6 _ hl e
  have hld : l ≠ da := fun e => u7 _ hl e
  have hld' : da ≠ l := fun e => u7 _ hl e.symm
  obtain ⟨tl0, htl⟩ := split_tl hl
  have N0 : News h₀ L s.heap ((161, o1) :: (168, o2) :: (fo, fob) :: (fd, fdb) :: (ll, llb) :: (ac, accObj 199 da its k) :: (da, iniOf w.params t1 t2) :: (l, listOf zs n) :: tl0) := fun q hq => N q (by
    simp only [List.mem_cons, htl] at hq ⊢; exact hq)
  clear N
  have v := fun q hq => (htl q).mpr (Or.inr hq)
  replace u1 := fun q hq => u1 q (v q hq)
  replace u2 := fun q hq => u2 q (v q hq)
  replace u3 := fun q hq => u3 q (v q hq)
  replace u4 := fun q hq => u4 q (v q hq)
  replace u5 := fun q hq => u5 q (v q hq)
  replace u6 := fun q hq => u6 q (v q hq)
  replace u7 := fun q hq => u7 q (v q hq)
  clear v
  refine wpAny_call ?_
  refine' code_def ?k1 ?k2 ?k3 ?k4 ?k5 ?kA ?kF ?kK ?k6 ?k7 ?k8 ?k9 ?kB ?_ ?c2 ?c3 ?c4 ?c5; (case kA => exact rfl); (case kF => exact rfl); (case kK => assumption); (case k1 => k_asm); (case k2 => k_asm); (case k3 => k_asm); (case k4 => k_asm); (case k5 => k_asm); (case k6 => k_is); (case k7 => k_is); (case k8 => ktr_room); (case k9 => exact binds_K (by k_in) rfl (by k_is) rfl rfl rfl); (case c5 => decide); (case kB => exact locs rfl); (case c2 => exact rfl); (case c3 => exact rfl); (case c4 => exact rfl); k_whole; intro g' L' h' FG' F' N' B' X' T'; (try dsimp only); (try k_lift B'); (try k_fold)
  repeat' (first | (k_unfold; (try dsimp only)) | (k_end; wrow_close) | ((with_reducible show wpAny _ _ (setItem (Value.ref _) _ _) _ _ _); (k_here; k_dflt (refine' store_all ?k1 ?k2 ?k3 ?k4 ?k5 ?k6 ?k7 ?k8 ?ka ?k9 ?kc ?kd ?_; (case k1 => k_asm); (case k2 => k_asm); (case k3 => k_asm); (case k4 => k_inst); (case k5 => k_is); (case k6 => kernel_rfl); (case k7 => k_is); (case k8 => k_mem); (case ka => exact rfl); (case k9 => k_upd);  (case kc => first | k_asm | omega | (simp; omega)); (case kd => k_ne); k_whole; intro h'q F'q N'q; (try k_sweep)))) | ((with_reducible show wpAny _ _ (setItem (Value.ref _) _ _) _ _ _); (k_here; k_dflt (refine' store_tail ?k1 ?k2 ?k3 ?k4 ?k5 ?k6 ?k7 ?k8 ?k9 ?ka ?kb ?kc ?kd ?_; (case k1 => k_asm); (case k2 => k_asm); (case k3 => k_asm); (case k4 => k_inst); (case k5 => k_is); (case k6 => kernel_rfl); (case k7 => k_is); (case k8 => k_mem); (case k9 => k_upd); (case ka => exact rfl); (case kb => k_asm); (case kc => k_asm); (case kd => k_ne); k_whole; intro h'q F'q N'q; (try k_sweep)))) | ((with_reducible show wpAny _ _ (getMethod (Value.ref _) _ _) _ _ _); (k_here; k_dflt (refine' super_pop ?k1 ?k2 ?k3 ?k4 ?k5 ?k6 ?k7 ?k8 ?_; (case k1 => k_asm); (case k2 => k_asm); (case k3 => k_asm); (case k4 => k_mem); (case k5 => k_inst); (case k6 => k_is); (case k7 => k_is); (case k8 => kernel_rfl); k_whole; intro q'q h'q F'q N'q l1q; (try k_lt l1q); (try dsimp only)))) | ((with_reducible show wpAny _ _ (callWith _ (Value.ref _) _ _ _) _ _ _); (k_here; k_dflt (refine' callWith_B ?k1 ?k2 ?k3 ?_; (case k1 => k_asm); (case k2 => k_mem); (case k3 => decide +kernel); k_whole; (try dsimp only [List.nil_append, List.cons_append])))) | ((with_reducible show wpAny _ _ (getMethod (Value.ref _) _ _) _ _ _); (k_here; k_dflt (refine' super_len ?k1 ?k2 ?k3 ?k4 ?k5 ?k6 ?k7 ?k8 ?_; (case k1 => k_asm); (case k2 => k_asm); (case k3 => k_asm); (case k4 => k_mem); (case k5 => k_inst); (case k6 => k_is); (case k7 => k_is); (case k8 => kernel_rfl); k_whole; intro q'q h'q F'q N'q l1q; (try k_lt l1q); (try dsimp only)))) | (k_here; (with_reducible show wpAny _ _ (subscriptTail _ _ (Value.ref _) (Value.ref _)) _ _ _); k_dflt (refine' slice_A ?k1 ?k2 ?k3 ?k4 ?k5 ?k6 ?k7 ?k8 ?k9 ?z ?_ ?k10 ?k11; (case k1 => k_asm); (case k2 => k_asm); (case k3 => k_asm); (case k4 => k_inst); (case k5 => k_is); (case k6 => kernel_rfl); (case k7 => k_is); (case k8 => first | exact IsPart.none | exact IsPart.int _ _); (case k9 => first | exact IsPart.none | exact IsPart.int _ _); (case z => first | assumption | omega | (simp only [Array.size_push]; omega)); (case k10 => exact rfl); (case k11 => intro _; exact rfl); k_whole; intro l'q h'q F'q N'q l1q; (try k_lt l1q))) | ((with_reducible show wpAny _ _ (call (Value.ref _) _) _ _ _); first | (k_here; (with_reducible show wpAny _ _ (call (Value.ref _) []) _ _ _); k_dflt (refine' bound_pop ?k1 ?k2 ?k3 ?k4 ?k5 ?k6 ?k7 ?k8 ?_; (case k1 => k_asm); (case k2 => k_asm); (case k3 => k_asm); (case k5 => k_mem); (case k8 => k_upd); (case k6 => exact rfl); (case k7 => first | assumption | omega); (case k4 => kernel_rfl); k_whole; intro h'q F'q N'q; (try k_sweep))) | (k_here; (with_reducible show wpAny _ _ (call (Value.ref _) []) _ _ _); k_dflt (refine' bound_len ?k1 ?k2 ?k3 ?_; (case k1 => k_asm); (case k2 => k_mem); (case k3 => k_mem); k_whole))) | walk1 | (dsimp only; walk1) | (leave1; walk_say "STEP leave1"; try dsimp only) | fail "no step")
  rename Fr _ _ _ _ => Fz; rename News _ _ _ _ => Nz
  exact hret _ _ _ _ _ Fz (news_tl7 (fun q hq => List.mem_cons.mpr ((htl q).mp hq)) Nz)
theorem reset0_call {w : World} {p : Program} {loose : List Str} {mean : ExcName → Option Value} {mg mb : Str → Option Value}
  {dp un : Nat} {gd : Option (List Code)} {cn : Str} {cs : Scope} {a : Addr} {ccd : Value} {cl : List (Str × Addr)} {outer : List Env} {A₀ : Around} {base h₀ : Heap} {L : Addr} {m : Str → Option Value} {s : Shared} {Q : Value → Shared → Prop} {E : Value → Shared → Prop}
  {o1 o2 fob fdb llb : Obj} {fo fd ll ac da : Addr} {tl : List (Addr × Obj)} {its : Array Value} {k : Nat} {t1 t2 : Tok} (O : Off7 fo fd ll ac da tl)
  (B : Below A₀ base outer h₀) (F : Fr h₀ L s.heap m) (X : (heap39 w.params).In h₀)
  (N : News h₀ L s.heap ((161, o1) :: (168, o2) :: (fo, fob) :: (fd, fdb) :: (ll, llb) :: (ac, accObj 199 da its k) :: (da, iniOf w.params t1 t2) :: tl))
  (T : Top p loose mean mg mb h₀) (hk : cs.kind = .function) (hd' : dp + 40 < recursionLimit) (hu : un + 300 < cLine)
  (hz : its.size < 1000)
  (hret : ∀ (h' : Heap) (tk' k' : Nat) (t1' t2' : Tok), Fr h₀ L h' m → News h₀ L h' ((161, o1) :: (168, o2) :: (fo, fob) :: (fd, fdb) :: (ll, llb) :: (ac, accObj 199 da #[] k') :: (da, iniOf w.params t1' t2') :: tl) → Q .none { s with heap := h', toks := tk' }) :
   wpAny (model PP w) (ktrTop dp un gd cn cs L a ccd cl outer) (call (.ref (nat_lit 181)) [.ref ac]) Q E s := by
  have _k : (fun (_ : OpenLaw) => True) PySem.Challenge.rw_tc0068_02 ∧ heap39 = heap39 := by
    k_fill
    exact ⟨trivial, rfl⟩
  clear _k
  have O' := O
  obtain ⟨c1, c2, c3, c4, c5, u1, u2, u3, u4, u5, u6, u7⟩ := O
  refine wpAny_call ?_
  refine' code_def ?k1 ?k2 ?k3 ?k4 ?k5 ?kA ?kF ?kK ?k6 ?k7 ?k8 ?k9 ?kB ?_ ?c2 ?c3 ?c4 ?c5; (case kA => exact rfl); (case kF => exact rfl); (case kK => assumption); (case k1 => k_asm); (case k2 => k_asm); (case k3 => k_asm); (case k4 => k_asm); (case k5 => k_asm); (case k6 => k_is); (case k7 => k_is); (case k8 => ktr_room); (case k9 => exact binds_K (by k_in) rfl (by k_is) rfl rfl rfl); (case c5 => decide); (case kB => exact locs rfl); (case c2 => exact rfl); (case c3 => exact rfl); (case c4 => exact rfl); k_whole; intro g' L' h' FG' F' N' B' X' T'; (try dsimp only); (try k_lift B'); (try k_fold)
  repeat' (first | (k_unfold; (try dsimp only)) | (k_end; wrow_close) | ((with_reducible show wpAny _ _ (setItem (Value.ref _) _ _) _ _ _); (k_here; k_dflt (refine' store_all ?k1 ?k2 ?k3 ?k4 ?k5 ?k6 ?k7 ?k8 ?ka ?k9 ?kc ?kd ?_; (case k1 => k_asm); (case k2 => k_asm); (case k3 => k_asm); (case k4 => k_inst); (case k5 => k_is); (case k6 => kernel_rfl); (case k7 => k_is); (case k8 => k_mem); (case ka => exact rfl); (case k9 => k_upd);  (case kc => first | k_asm | omega | (simp; omega)); (case kd => k_ne); k_whole; intro h'q F'q N'q; (try k_sweep)))) | ((with_reducible show wpAny _ _ (setItem (Value.ref _) _ _) _ _ _); (k_here; k_dflt (refine' store_tail ?k1 ?k2 ?k3 ?k4 ?k5 ?k6 ?k7 ?k8 ?k9 ?ka ?kb ?kc ?kd ?_; (case k1 => k_asm); (case k2 => k_asm); (case k3 => k_asm); (case k4 => k_inst); (case k5 => k_is); (case k6 => kernel_rfl); (case k7 => k_is); (case k8 => k_mem); (case k9 => k_upd); (case ka => exact rfl); (case kb => k_asm); (case kc => k_asm); (case kd => k_ne); k_whole; intro h'q F'q N'q; (try k_sweep)))) | ((with_reducible show wpAny _ _ (getMethod (Value.ref _) _ _) _ _ _); (k_here; k_dflt (refine' super_pop ?k1 ?k2 ?k3 ?k4 ?k5 ?k6 ?k7 ?k8 ?_; (case k1 => k_asm); (case k2 => k_asm); (case k3 => k_asm); (case k4 => k_mem); (case k5 => k_inst); (case k6 => k_is); (case k7 => k_is); (case k8 => kernel_rfl); k_whole; intro q'q h'q F'q N'q l1q; (try k_lt l1q); (try dsimp only)))) | ((with_reducible show wpAny _ _ (callWith _ (Value.ref _) _ _ _) _ _ _); (k_here; k_dflt (refine' callWith_B ?k1 ?k2 ?k3 ?_; (case k1 => k_asm); (case k2 => k_mem); (case k3 => decide +kernel); k_whole; (try dsimp only [List.nil_append, List.cons_append])))) | ((with_reducible show wpAny _ _ (getMethod (Value.ref _) _ _) _ _ _); (k_here; k_dflt (refine' super_len ?k1 ?k2 ?k3 ?k4 ?k5 ?k6 ?k7 ?k8 ?_; (case k1 => k_asm); (case k2 => k_asm); (case k3 => k_asm); (case k4 => k_mem); (case k5 => k_inst); (case k6 => k_is); (case k7 => k_is); (case k8 => kernel_rfl); k_whole; intro q'q h'q F'q N'q l1q; (try k_lt l1q); (try dsimp only)))) | (k_here; (with_reducible show wpAny _ _ (subscriptTail _ _ (Value.ref _) (Value.ref _)) _ _ _); k_dflt (refine' slice_A ?k1 ?k2 ?k3 ?k4 ?k5 ?k6 ?k7 ?k8 ?k9 ?z ?_ ?k10 ?k11; (case k1 => k_asm); (case k2 => k_asm); (case k3 => k_asm); (case k4 => k_inst); (case k5 => k_is); (case k6 => kernel_rfl); (case k7 => k_is); (case k8 => first | exact IsPart.none | exact IsPart.int _ _); (case k9 => first | exact IsPart.none | exact IsPart.int _ _); (case z => first | assumption | omega | (simp only [Array.size_push]; omega)); (case k10 => exact rfl); (case k11 => intro _; exact rfl); k_whole; intro l'q h'q F'q N'q l1q; (try k_lt l1q))) | ((with_reducible show wpAny _ _ (call (Value.ref _) _) _ _ _); first | (k_here; (with_reducible show wpAny _ _ (call (Value.ref _) []) _ _ _); k_dflt (refine' bound_pop ?k1 ?k2 ?k3 ?k4 ?k5 ?k6 ?k7 ?k8 ?_; (case k1 => k_asm); (case k2 => k_asm); (case k3 => k_asm); (case k5 => k_mem); (case k8 => k_upd); (case k6 => exact rfl); (case k7 => first | assumption | omega); (case k4 => kernel_rfl); k_whole; intro h'q F'q N'q; (try k_sweep))) | (k_here; (with_reducible show wpAny _ _ (call (Value.ref _) []) _ _ _); k_dflt (refine' bound_len ?k1 ?k2 ?k3 ?_; (case k1 => k_asm); (case k2 => k_mem); (case k3 => k_mem); k_whole))) | walk1 | (dsimp only; walk1) | (leave1; walk_say "STEP leave1"; try dsimp only) | fail "no step")
  rename Fr _ _ _ _ => Fz; rename News _ _ _ _ => Nz
  exact hret _ _ _ _ _ Fz (news_drop Nz)
end
section
theorem calm48 {M : PySem.Model} {A : PySem.Around} {Q : Unit → PySem.Shared → Prop} {E : PySem.Value → PySem.Shared → Prop} {s : PySem.Shared} (h : Q () s) : PySem.wpAny M A (pure ()) Q E s := by
  w_top off
  first | (walk1; done) | exact PySem.wpAny_pure h
noncomputable abbrev tup2 (t : Addr × Str × Tok × Tok) : Addr × Obj := (t.1, tupOf #[.str (Str.ofString "") t.2.2.1, .str t.2.1 t.2.2.2])
noncomputable abbrev refsOf (tvs : List (Addr × Str × Tok × Tok)) : Array Value := (tvs.map fun t => Value.ref t.1).toArray
noncomputable def sumLen (tvs : List (Addr × Str × Tok × Tok)) : Int := ((tvs.map fun t => t.2.1.length).sum : Nat)
noncomputable abbrev lenAt (tvs : List (Addr × Str × Tok × Tok)) (j : Nat) : Int := (0 : Int) + (((tvs[j]?.map fun t => t.2.1.length).getD 0 : Nat) : Int)
theorem lenAt_eq (tvs : List (Addr × Str × Tok × Tok)) : lenAt tvs = fun i => ((tvs.map fun t => t.2.1.length).map (fun a : Nat => (a : Int))).getD i 0 := by
  funext j
  simp only [lenAt, List.getD, List.getElem?_map]
  cases tvs[j]? <;> simp
theorem preLen (tvs : List (Addr × Str × Tok × Tok)) (j : Nat) : preSum (lenAt tvs) j = (((tvs.map fun t => t.2.1.length).map (fun a : Nat => (a : Int))).take j).sum := by
  rw [lenAt_eq, preSum_getD]
theorem sum_cast (l : List Nat) : ((l.map (fun a : Nat => (a : Int))).sum : Int) = ((l.sum : Nat) : Int) := by
  induction l with
  | nil => rfl
  | cons a t ih => simp only [List.map_cons, List.sum_cons, ih]; omega
theorem preLen_all (tvs : List (Addr × Str × Tok × Tok)) : preSum (lenAt tvs) tvs.length = sumLen tvs := by
  rw [preLen, List.take_of_length_le (by simp), sum_cast]; rfl
theorem preLen_fit (tvs : List (Addr × Str × Tok × Tok)) (hz : tvs.length < 100) (hz2 : ∀ t ∈ tvs, t.2.1.length ≤ 100) : ∀ j, j < tvs.length → InLong (lenAt tvs j) ∧ InLong (preSum (lenAt tvs) (j + 1)) := by
  intro j hj
  constructor
  · have : (tvs[j]?.map fun t => t.2.1.length).getD 0 ≤ 100 := by
      rw [List.getElem?_eq_getElem hj]
      exact hz2 _ (List.getElem_mem hj)
    simp only [InLong, lenAt]
    omega
  · rw [preLen]
    have := take_sum_le (tvs.map fun t => t.2.1.length) (fun a ha => by obtain ⟨t, h, rfl⟩ := List.mem_map.mp ha; exact Nat.le_trans (hz2 t h) (by decide)) (j + 1)
    simp only [InLong]
    omega
theorem len_call {w : World} {p : Program} {loose : List Str} {mean : ExcName → Option Value} {mg mb : Str → Option Value}
  {dp un : Nat} {gd : Option (List Code)} {cn : Str} {cs : Scope} {a : Addr} {ccd : Value} {cl : List (Str × Addr)} {outer : List Env} {A₀ : Around} {base h₀ : Heap} {L : Addr} {m : Str → Option Value} {s : Shared} {Q : Value → Shared → Prop} {E : Value → Shared → Prop}
  {o1 o2 fob fdb llb : Obj} {fo fd ll ac da : Addr} {tl : List (Addr × Obj)} {tvs : List (Addr × Str × Tok × Tok)} {k : Nat} {t1 t2 : Tok} (O : Off7 fo fd ll ac da tl)
  (B : Below A₀ base outer h₀) (F : Fr h₀ L s.heap m) (X : (heap39 w.params).In h₀)
  (N : News h₀ L s.heap ((161, o1) :: (168, o2) :: (fo, fob) :: (fd, fdb) :: (ll, llb) :: (ac, accObj 199 da (refsOf tvs) k) :: (da, iniOf w.params t1 t2) :: tl))
  (T : Top p loose mean mg mb h₀) (hk : cs.kind = .function) (hd' : dp + 40 < recursionLimit) (hu : un + 300 < cLine)
  (htab : Tab o1) (htv : ∀ t ∈ tvs, tup2 t ∈ tl) (hz : tvs.length < 100) (hz2 : ∀ t ∈ tvs, t.2.1.length ≤ 100)
  (hret : ∀ (h' : Heap) (gg : Array GenState) (tk' : Nat) (o1' : Obj) (t' : Tok), Tab o1' → GenMoved s.gens gg → Fr h₀ L h' m → News h₀ L h' ((161, o1') :: (168, o2) :: (fo, fob) :: (fd, fdb) :: (ll, llb) :: (ac, accObj 199 da (refsOf tvs) k) :: (da, iniOf w.params t1 t2) :: tl) → Q (.int (sumLen tvs) t') { s with heap := h', gens := gg, toks := tk' }) :
   wpAny (model PP w) (ktrTop dp un gd cn cs L a ccd cl outer) (call (.ref (nat_lit 166)) [.ref ac]) Q E s := by
  have _k : (fun (_ : OpenLaw) => True) PySem.Challenge.rw_tc0068_02 ∧ heap39 = heap39 := by
    k_fill
    exact ⟨trivial, rfl⟩
  clear _k
  obtain ⟨c1, c2, c3, c4, c5, u1, u2, u3, u4, u5, u6, u7⟩ := O
  refine wpAny_call ?_
  refine' code_def ?k1 ?k2 ?k3 ?k4 ?k5 ?kA ?kF ?kK ?k6 ?k7 ?k8 ?k9 ?kB ?_ ?c2 ?c3 ?c4 ?c5; (case kA => exact rfl); (case kF => exact rfl); (case kK => assumption); (case k1 => k_asm); (case k2 => k_asm); (case k3 => k_asm); (case k4 => k_asm); (case k5 => k_asm); (case k6 => k_is); (case k7 => k_is); (case k8 => ktr_room); (case k9 => exact BindsTo.of_eq rfl); (case c5 => decide); (case kB => exact locs rfl); (case c2 => exact rfl); (case c3 => exact rfl); (case c4 => exact rfl); k_whole; intro g' L' h' FG' F' N' B' X' T'; (try dsimp only); (try k_lift B'); (try k_fold)
  repeat' (first | (k_unfold; (try dsimp only)) | (k_end; wrow_close) | ((with_reducible show wpAny _ _ (call (Value.ref _) _) _ _ _); first | (k_here; (with_reducible show wpAny _ _ (call (Value.ref _) []) _ _ _); k_dflt (refine' bound_pop ?k1 ?k2 ?k3 ?k4 ?k5 ?k6 ?k7 ?k8 ?_; (case k1 => k_asm); (case k2 => k_asm); (case k3 => k_asm); (case k5 => k_mem); (case k8 => k_upd); (case k6 => exact rfl); (case k7 => first | assumption | omega); (case k4 => kernel_rfl); k_whole; intro h'q F'q N'q; (try k_sweep))) | (k_here; (with_reducible show wpAny _ _ (call (Value.ref _) []) _ _ _); k_dflt (refine' bound_len ?k1 ?k2 ?k3 ?_; (case k1 => k_asm); (case k2 => k_mem); (case k3 => k_mem); k_whole))) | ((with_reducible show wpAny _ _ (getMethod (Value.ref _) _ _) _ _ _); (k_here; k_dflt (refine' super_pop ?k1 ?k2 ?k3 ?k4 ?k5 ?k6 ?k7 ?k8 ?_; (case k1 => k_asm); (case k2 => k_asm); (case k3 => k_asm); (case k4 => k_mem); (case k5 => k_inst); (case k6 => k_is); (case k7 => k_is); (case k8 => kernel_rfl); k_whole; intro q'q h'q F'q N'q l1q; (try k_lt l1q); (try dsimp only)))) | ((with_reducible show wpAny _ _ (callWith _ (Value.ref _) _ _ _) _ _ _); (k_here; k_dflt (refine' callWith_B ?k1 ?k2 ?k3 ?_; (case k1 => k_asm); (case k2 => k_mem); (case k3 => decide +kernel); k_whole; (try dsimp only [List.nil_append, List.cons_append])))) | ((with_reducible show wpAny _ _ (getMethod (Value.ref _) _ _) _ _ _); (k_here; k_dflt (refine' super_len ?k1 ?k2 ?k3 ?k4 ?k5 ?k6 ?k7 ?k8 ?_; (case k1 => k_asm); (case k2 => k_asm); (case k3 => k_asm); (case k4 => k_mem); (case k5 => k_inst); (case k6 => k_is); (case k7 => k_is); (case k8 => kernel_rfl); k_whole; intro q'q h'q F'q N'q l1q; (try k_lt l1q); (try dsimp only)))) | walk1 | (dsimp only; walk1) | (leave1; walk_say "STEP leave1"; try dsimp only) | fail "no step")
  refine' acc_genexp2 (K := heap39 w.params) (x := ac) (tvs := tvs.map fun t => (t.1, Value.str (Str.ofString "") t.2.2.1, Value.str t.2.1 t.2.2.2)) (Fv := fun j y => ∃ t, y = .int (lenAt tvs j) t) ?k1 ?k2 ?k3 ?k4 ?k5 htab ?k6 ?k7 ?k8 ?k9 ?k10 ?k11 ?k12 ?k13 ?k14 ?k15 ?k16 ?k17 ?k18 ?k19 ?k20 ?k21 ?k22 ?k23 ?k24 ?k25 ?k26 ?k27 ?k28 ?k29
  case k1 => k_asm
  case k2 => k_asm
  case k3 => k_asm
  case k4 => k_asm
  case k5 => k_updF
  case k6 => exact rfl
  case k8 => exact rfl
  case k9 => k_inst
  case k10 => k_ne
  case k11 => k_is
  case k12 => k_is
  case k16 => exact rfl
  case k17 => exact rfl
  case k18 => exact rfl
  case k19 => decide
  case k20 => exact rfl
  case k21 => exact rfl
  case k22 => exact rfl
  case k23 => decide
  case k24 => exact rfl
  case k25 => ktr_room
  case k26 => intro _; exact rfl
  case k7 => exact code_facts X' (by kernel_rfl)
  case k13 => rw [List.map_map]; rfl
  case k14 =>
    intro t ht
    obtain ⟨t0, h0, rfl⟩ := List.mem_map.mp ht
    have := htv t0 h0
    simp only [List.mem_cons]
    simp only [tup2] at this
    simp [this]
  case k15 =>
    intro t ht
    obtain ⟨t0, h0, rfl⟩ := List.mem_map.mp ht
    exact u1 _ (htv t0 h0)
  case k27 =>
    intro Q' hq
    repeat' (first | (k_unfold; (try dsimp only)) | (k_end; wrow_close) | ((with_reducible show wpAny _ _ (call (Value.ref _) _) _ _ _); first | (k_here; (with_reducible show wpAny _ _ (call (Value.ref _) []) _ _ _); k_dflt (refine' bound_pop ?k1 ?k2 ?k3 ?k4 ?k5 ?k6 ?k7 ?k8 ?_; (case k1 => k_asm); (case k2 => k_asm); (case k3 => k_asm); (case k5 => k_mem); (case k8 => k_upd); (case k6 => exact rfl); (case k7 => first | assumption | omega); (case k4 => kernel_rfl); k_whole; intro h'q F'q N'q; (try k_sweep))) | (k_here; (with_reducible show wpAny _ _ (call (Value.ref _) []) _ _ _); k_dflt (refine' bound_len ?k1 ?k2 ?k3 ?_; (case k1 => k_asm); (case k2 => k_mem); (case k3 => k_mem); k_whole))) | ((with_reducible show wpAny _ _ (getMethod (Value.ref _) _ _) _ _ _); (k_here; k_dflt (refine' super_pop ?k1 ?k2 ?k3 ?k4 ?k5 ?k6 ?k7 ?k8 ?_; (case k1 => k_asm); (case k2 => k_asm); (case k3 => k_asm); (case k4 => k_mem); (case k5 => k_inst); (case k6 => k_is); (case k7 => k_is); (case k8 => kernel_rfl); k_whole; intro q'q h'q F'q N'q l1q; (try k_lt l1q); (try dsimp only)))) | ((with_reducible show wpAny _ _ (callWith _ (Value.ref _) _ _ _) _ _ _); (k_here; k_dflt (refine' callWith_B ?k1 ?k2 ?k3 ?_; (case k1 => k_asm); (case k2 => k_mem); (case k3 => decide +kernel); k_whole; (try dsimp only [List.nil_append, List.cons_append])))) | ((with_reducible show wpAny _ _ (getMethod (Value.ref _) _ _) _ _ _); (k_here; k_dflt (refine' super_len ?k1 ?k2 ?k3 ?k4 ?k5 ?k6 ?k7 ?k8 ?_; (case k1 => k_asm); (case k2 => k_asm); (case k3 => k_asm); (case k4 => k_mem); (case k5 => k_inst); (case k6 => k_is); (case k7 => k_is); (case k8 => kernel_rfl); k_whole; intro q'q h'q F'q N'q l1q; (try k_lt l1q); (try dsimp only)))) | walk1 | (dsimp only; walk1) | (leave1; walk_say "STEP leave1"; try dsimp only) | fail "no step")
    exact hq
  case k28 =>
    intro A' E' C' code j t s₂ m₂ _ et hg hb hn ha hbb
    rw [List.getElem?_map] at et
    obtain ⟨t0, e0, rfl⟩ := Option.map_eq_some_iff.mp et
    have h1 : mg (Str.ofString "len") = none := mg_none_of X T.g (by k_is)
    have h2 : mb (Str.ofString "len") = some (.builtin "len") := (T.builtins _ (by decide)).trans rfl
    refine wpAny_mono (elt_len hn ha hbb hg hb rfl h1 h2 rfl rfl rfl rfl (by decide) (by decide) (by decide) (Nat.le_trans (hz2 _ (List.mem_of_getElem? e0)) (by decide))) (fun y s₃ h => ⟨?_, h.2⟩) fun _ _ z => z
    obtain ⟨t, rfl⟩ := h.1
    refine ⟨t, ?_⟩
    simp only [lenAt]; rw [e0]; rfl
  case k29 =>
    intro ag h2 gg tk2 o' ht2 F2 N2 gm2 G2 FN
    repeat' (first | (k_unfold; (try dsimp only)) | (k_end; wrow_close) | ((with_reducible show wpAny _ _ (call (Value.ref _) _) _ _ _); first | (k_here; (with_reducible show wpAny _ _ (call (Value.ref _) []) _ _ _); k_dflt (refine' bound_pop ?k1 ?k2 ?k3 ?k4 ?k5 ?k6 ?k7 ?k8 ?_; (case k1 => k_asm); (case k2 => k_asm); (case k3 => k_asm); (case k5 => k_mem); (case k8 => k_upd); (case k6 => exact rfl); (case k7 => first | assumption | omega); (case k4 => kernel_rfl); k_whole; intro h'q F'q N'q; (try k_sweep))) | (k_here; (with_reducible show wpAny _ _ (call (Value.ref _) []) _ _ _); k_dflt (refine' bound_len ?k1 ?k2 ?k3 ?_; (case k1 => k_asm); (case k2 => k_mem); (case k3 => k_mem); k_whole))) | ((with_reducible show wpAny _ _ (getMethod (Value.ref _) _ _) _ _ _); (k_here; k_dflt (refine' super_pop ?k1 ?k2 ?k3 ?k4 ?k5 ?k6 ?k7 ?k8 ?_; (case k1 => k_asm); (case k2 => k_asm); (case k3 => k_asm); (case k4 => k_mem); (case k5 => k_inst); (case k6 => k_is); (case k7 => k_is); (case k8 => kernel_rfl); k_whole; intro q'q h'q F'q N'q l1q; (try k_lt l1q); (try dsimp only)))) | ((with_reducible show wpAny _ _ (callWith _ (Value.ref _) _ _ _) _ _ _); (k_here; k_dflt (refine' callWith_B ?k1 ?k2 ?k3 ?_; (case k1 => k_asm); (case k2 => k_mem); (case k3 => decide +kernel); k_whole; (try dsimp only [List.nil_append, List.cons_append])))) | ((with_reducible show wpAny _ _ (getMethod (Value.ref _) _ _) _ _ _); (k_here; k_dflt (refine' super_len ?k1 ?k2 ?k3 ?k4 ?k5 ?k6 ?k7 ?k8 ?_; (case k1 => k_asm); (case k2 => k_asm); (case k3 => k_asm); (case k4 => k_mem); (case k5 => k_inst); (case k6 => k_is); (case k7 => k_is); (case k8 => kernel_rfl); k_whole; intro q'q h'q F'q N'q l1q; (try k_lt l1q); (try dsimp only)))) | walk1 | (dsimp only; walk1) | (leave1; walk_say "STEP leave1"; try dsimp only) | fail "no step")
    have hlen : (tvs.map fun t => (t.1, Value.str (Str.ofString "") t.2.2.1, Value.str t.2.1 t.2.2.2)).length = tvs.length := List.length_map ..
    rw [hlen] at G2
    refine sum_gen0 (Gen_tk G2 (Nat.le_succ _)) (lenAt tvs) (fun j v h => h.2) (preLen_fit tvs hz hz2) ?_
    intro h3 gg3 tk3 t3 hk3 gm3
    obtain ⟨F3, N3⟩ := FN h3 hk3
    rw [preLen_all]
    have gm4 : GenMoved s.gens gg3 := GenMoved.trans gm2 gm3
    repeat' (first | (k_unfold; (try dsimp only)) | (k_end; wrow_close) | ((with_reducible show wpAny _ _ (call (Value.ref _) _) _ _ _); first | (k_here; (with_reducible show wpAny _ _ (call (Value.ref _) []) _ _ _); k_dflt (refine' bound_pop ?k1 ?k2 ?k3 ?k4 ?k5 ?k6 ?k7 ?k8 ?_; (case k1 => k_asm); (case k2 => k_asm); (case k3 => k_asm); (case k5 => k_mem); (case k8 => k_upd); (case k6 => exact rfl); (case k7 => first | assumption | omega); (case k4 => kernel_rfl); k_whole; intro h'q F'q N'q; (try k_sweep))) | (k_here; (with_reducible show wpAny _ _ (call (Value.ref _) []) _ _ _); k_dflt (refine' bound_len ?k1 ?k2 ?k3 ?_; (case k1 => k_asm); (case k2 => k_mem); (case k3 => k_mem); k_whole))) | ((with_reducible show wpAny _ _ (getMethod (Value.ref _) _ _) _ _ _); (k_here; k_dflt (refine' super_pop ?k1 ?k2 ?k3 ?k4 ?k5 ?k6 ?k7 ?k8 ?_; (case k1 => k_asm); (case k2 => k_asm); (case k3 => k_asm); (case k4 => k_mem); (case k5 => k_inst); (case k6 => k_is); (case k7 => k_is); (case k8 => kernel_rfl); k_whole; intro q'q h'q F'q N'q l1q; (try k_lt l1q); (try dsimp only)))) | ((with_reducible show wpAny _ _ (callWith _ (Value.ref _) _ _ _) _ _ _); (k_here; k_dflt (refine' callWith_B ?k1 ?k2 ?k3 ?_; (case k1 => k_asm); (case k2 => k_mem); (case k3 => decide +kernel); k_whole; (try dsimp only [List.nil_append, List.cons_append])))) | ((with_reducible show wpAny _ _ (getMethod (Value.ref _) _ _) _ _ _); (k_here; k_dflt (refine' super_len ?k1 ?k2 ?k3 ?k4 ?k5 ?k6 ?k7 ?k8 ?_; (case k1 => k_asm); (case k2 => k_asm); (case k3 => k_asm); (case k4 => k_mem); (case k5 => k_inst); (case k6 => k_is); (case k7 => k_is); (case k8 => kernel_rfl); k_whole; intro q'q h'q F'q N'q l1q; (try k_lt l1q); (try dsimp only)))) | walk1 | (dsimp only; walk1) | (leave1; walk_say "STEP leave1"; try dsimp only) | fail "no step")
    rename Fr _ _ _ _ => Fz; rename News _ _ _ _ => Nz
    exact hret _ _ _ _ _ ht2 gm4 Fz Nz
end
section
theorem calm49 {M : PySem.Model} {A : PySem.Around} {Q : Unit → PySem.Shared → Prop} {E : PySem.Value → PySem.Shared → Prop} {s : PySem.Shared} (h : Q () s) : PySem.wpAny M A (pure ()) Q E s := by
  w_top off
  first | (walk1; done) | exact PySem.wpAny_pure h
noncomputable def flatS (l : List Str) : Str := ⟨(l.flatMap fun x => x.cps.toList).toArray⟩
theorem empty_cps : (Str.ofString "").cps = #[] := rfl
theorem flat_foldl (rest : List Str) : ∀ acc : Array Nat, rest.foldl (fun acc p => acc ++ (Str.ofString "").cps ++ p.cps) acc = acc ++ (rest.flatMap fun x => x.cps.toList).toArray := by
  induction rest with
  | nil => intro acc; simp
  | cons x t ih => intro acc; rw [List.foldl_cons, ih]; apply Array.ext'; simp [empty_cps]
theorem join_flat (l : List Str) : Txt.join (Str.ofString "") l = flatS l := by
  show (⟨_⟩ : Str) = _
  unfold flatS
  congr 1
  refine (flat_foldl _ _).trans ?_
  cases l with
  | nil => rfl
  | cons x t => apply Array.ext'; simp
theorem flat_pair (x : Str) : flatS [Str.ofString "", x] = x := by
  simp [flatS, empty_cps]
theorem flat_length (l : List Str) : (flatS l).length = (l.map (·.length)).sum := by
  show (flatS l).cps.size = _
  simp only [flatS]
  induction l with
  | nil => rfl
  | cons x t ih =>
    have hx : x.length = x.cps.toList.length := rfl
    rw [List.map_cons, List.sum_cons, ← ih, hx]
    simp
noncomputable abbrev strAt (tvs : List (Addr × Str × Tok × Tok)) (j : Nat) : Str := (tvs[j]?.map fun t => t.2.1).getD (Str.ofString "")
theorem strAt_map (tvs : List (Addr × Str × Tok × Tok)) : (List.range tvs.length).map (strAt tvs) = tvs.map fun t => t.2.1 := by
  apply List.ext_getElem?
  intro j
  by_cases h : j < tvs.length
  · simp [h, strAt]
  · simp [h, List.getElem?_eq_none (Nat.le_of_not_lt h)]
theorem joinAt_ok (tvs : List (Addr × Str × Tok × Tok)) (hz : tvs.length < 100) (hz2 : ∀ t ∈ tvs, t.2.1.length ≤ 100) : JoinOk (Str.ofString "") ((List.range tvs.length).map (strAt tvs)) = true := by
  rw [strAt_map]
  refine joinOk_of_weight ?_ (by decide)
  have := take_sum_le (tvs.map fun t => t.2.1.length) (fun a ha => by obtain ⟨t, h, rfl⟩ := List.mem_map.mp ha; exact Nat.le_trans (hz2 t h) (by decide)) tvs.length
  rw [List.take_of_length_le (by simp), sum_cast] at this
  rw [List.map_map, List.length_map]
  simp only [Function.comp_def] at this ⊢
  omega
theorem str_call {w : World} {p : Program} {loose : List Str} {mean : ExcName → Option Value} {mg mb : Str → Option Value}
  {dp un : Nat} {gd : Option (List Code)} {cn : Str} {cs : Scope} {a : Addr} {ccd : Value} {cl : List (Str × Addr)} {outer : List Env} {A₀ : Around} {base h₀ : Heap} {L : Addr} {m : Str → Option Value} {s : Shared} {Q : Value → Shared → Prop} {E : Value → Shared → Prop}
  {o1 o2 fob fdb llb : Obj} {fo fd ll ac da : Addr} {tl : List (Addr × Obj)} {tvs : List (Addr × Str × Tok × Tok)} {k : Nat} {t1 t2 : Tok} (O : Off7 fo fd ll ac da tl)
  (B : Below A₀ base outer h₀) (F : Fr h₀ L s.heap m) (X : (heap39 w.params).In h₀)
  (N : News h₀ L s.heap ((161, o1) :: (168, o2) :: (fo, fob) :: (fd, fdb) :: (ll, llb) :: (ac, accObj 199 da (refsOf tvs) k) :: (da, iniOf w.params t1 t2) :: tl))
  (T : Top p loose mean mg mb h₀) (hk : cs.kind = .function) (hd' : dp + 40 < recursionLimit) (hu : un + 300 < cLine)
  (htab : Tab o2) (htv : ∀ t ∈ tvs, tup2 t ∈ tl) (hz : tvs.length < 100) (hz2 : ∀ t ∈ tvs, t.2.1.length ≤ 100)
  (hret : ∀ (h' : Heap) (gg : Array GenState) (tk' : Nat) (o2' : Obj) (t' : Tok), Tab o2' → GenMoved s.gens gg → Fr h₀ L h' m → News h₀ L h' ((161, o1) :: (168, o2') :: (fo, fob) :: (fd, fdb) :: (ll, llb) :: (ac, accObj 199 da (refsOf tvs) k) :: (da, iniOf w.params t1 t2) :: tl) → Q (.str (flatS (tvs.map fun t => t.2.1)) t') { s with heap := h', gens := gg, toks := tk' }) :
   wpAny (model PP w) (ktrTop dp un gd cn cs L a ccd cl outer) (call (.ref (nat_lit 173)) [.ref ac]) Q E s := by
  have _k : (fun (_ : OpenLaw) => True) PySem.Challenge.rw_tc0068_02 ∧ heap39 = heap39 := by
    k_fill
    exact ⟨trivial, rfl⟩
  clear _k
  obtain ⟨c1, c2, c3, c4, c5, u1, u2, u3, u4, u5, u6, u7⟩ := O
  refine wpAny_call ?_
  refine' code_def ?k1 ?k2 ?k3 ?k4 ?k5 ?kA ?kF ?kK ?k6 ?k7 ?k8 ?k9 ?kB ?_ ?c2 ?c3 ?c4 ?c5; (case kA => exact rfl); (case kF => exact rfl); (case kK => assumption); (case k1 => k_asm); (case k2 => k_asm); (case k3 => k_asm); (case k4 => k_asm); (case k5 => k_asm); (case k6 => k_is); (case k7 => k_is); (case k8 => ktr_room); (case k9 => exact BindsTo.of_eq rfl); (case c5 => decide); (case kB => exact locs rfl); (case c2 => exact rfl); (case c3 => exact rfl); (case c4 => exact rfl); k_whole; intro g' L' h' FG' F' N' B' X' T'; (try dsimp only); (try k_lift B'); (try k_fold)
  repeat' (first | (k_unfold; (try dsimp only)) | (k_end; wrow_close) | ((with_reducible show wpAny _ _ (call (Value.ref _) _) _ _ _); first | (k_here; (with_reducible show wpAny _ _ (call (Value.ref _) []) _ _ _); k_dflt (refine' bound_pop ?k1 ?k2 ?k3 ?k4 ?k5 ?k6 ?k7 ?k8 ?_; (case k1 => k_asm); (case k2 => k_asm); (case k3 => k_asm); (case k5 => k_mem); (case k8 => k_upd); (case k6 => exact rfl); (case k7 => first | assumption | omega); (case k4 => kernel_rfl); k_whole; intro h'q F'q N'q; (try k_sweep))) | (k_here; (with_reducible show wpAny _ _ (call (Value.ref _) []) _ _ _); k_dflt (refine' bound_len ?k1 ?k2 ?k3 ?_; (case k1 => k_asm); (case k2 => k_mem); (case k3 => k_mem); k_whole))) | ((with_reducible show wpAny _ _ (getMethod (Value.ref _) _ _) _ _ _); (k_here; k_dflt (refine' super_pop ?k1 ?k2 ?k3 ?k4 ?k5 ?k6 ?k7 ?k8 ?_; (case k1 => k_asm); (case k2 => k_asm); (case k3 => k_asm); (case k4 => k_mem); (case k5 => k_inst); (case k6 => k_is); (case k7 => k_is); (case k8 => kernel_rfl); k_whole; intro q'q h'q F'q N'q l1q; (try k_lt l1q); (try dsimp only)))) | ((with_reducible show wpAny _ _ (callWith _ (Value.ref _) _ _ _) _ _ _); (k_here; k_dflt (refine' callWith_B ?k1 ?k2 ?k3 ?_; (case k1 => k_asm); (case k2 => k_mem); (case k3 => decide +kernel); k_whole; (try dsimp only [List.nil_append, List.cons_append])))) | ((with_reducible show wpAny _ _ (getMethod (Value.ref _) _ _) _ _ _); (k_here; k_dflt (refine' super_len ?k1 ?k2 ?k3 ?k4 ?k5 ?k6 ?k7 ?k8 ?_; (case k1 => k_asm); (case k2 => k_asm); (case k3 => k_asm); (case k4 => k_mem); (case k5 => k_inst); (case k6 => k_is); (case k7 => k_is); (case k8 => kernel_rfl); k_whole; intro q'q h'q F'q N'q l1q; (try k_lt l1q); (try dsimp only)))) | walk1 | (dsimp only; walk1) | (leave1; walk_say "STEP leave1"; try dsimp only) | fail "no step")
  refine' acc_genexp2 (K := heap39 w.params) (x := ac) (P := (168 : Addr)) (tvs := tvs.map fun t => (t.1, Value.str (Str.ofString "") t.2.2.1, Value.str t.2.1 t.2.2.2)) (Fv := fun j y => ∃ t, y = .str (strAt tvs j) t) ?k1 ?k2 ?k3 ?k4 ?k5 htab ?k6 ?k7 ?k8 ?k9 ?k10 ?k11 ?k12 ?k13 ?k14 ?k15 ?k16 ?k17 ?k18 ?k19 ?k20 ?k21 ?k22 ?k23 ?k24 ?k25 ?k26 ?k27 ?k28 ?k29
  case k1 => k_asm
  case k2 => k_asm
  case k3 => k_asm
  case k4 => k_asm
  case k5 => k_updF
  case k6 => exact rfl
  case k8 => exact rfl
  case k9 => k_inst
  case k10 => k_ne
  case k11 => k_is
  case k12 => k_is
  case k16 => exact rfl
  case k17 => exact rfl
  case k18 => exact rfl
  case k19 => decide
  case k20 => exact rfl
  case k21 => exact rfl
  case k22 => exact rfl
  case k23 => decide
  case k24 => exact rfl
  case k25 => ktr_room
  case k26 => intro _; exact rfl
  case k7 => exact code_facts X' (by kernel_rfl)
  case k13 => rw [List.map_map]; rfl
  case k14 =>
    intro t ht
    obtain ⟨t0, h0, rfl⟩ := List.mem_map.mp ht
    have := htv t0 h0
    simp only [List.mem_cons]
    simp only [tup2] at this
    simp [this]
  case k15 =>
    intro t ht
    obtain ⟨t0, h0, rfl⟩ := List.mem_map.mp ht
    exact u2 _ (htv t0 h0)
  case k27 =>
    intro Q' hq
    repeat' (first | (k_unfold; (try dsimp only)) | (k_end; wrow_close) | ((with_reducible show wpAny _ _ (call (Value.ref _) _) _ _ _); first | (k_here; (with_reducible show wpAny _ _ (call (Value.ref _) []) _ _ _); k_dflt (refine' bound_pop ?k1 ?k2 ?k3 ?k4 ?k5 ?k6 ?k7 ?k8 ?_; (case k1 => k_asm); (case k2 => k_asm); (case k3 => k_asm); (case k5 => k_mem); (case k8 => k_upd); (case k6 => exact rfl); (case k7 => first | assumption | omega); (case k4 => kernel_rfl); k_whole; intro h'q F'q N'q; (try k_sweep))) | (k_here; (with_reducible show wpAny _ _ (call (Value.ref _) []) _ _ _); k_dflt (refine' bound_len ?k1 ?k2 ?k3 ?_; (case k1 => k_asm); (case k2 => k_mem); (case k3 => k_mem); k_whole))) | ((with_reducible show wpAny _ _ (getMethod (Value.ref _) _ _) _ _ _); (k_here; k_dflt (refine' super_pop ?k1 ?k2 ?k3 ?k4 ?k5 ?k6 ?k7 ?k8 ?_; (case k1 => k_asm); (case k2 => k_asm); (case k3 => k_asm); (case k4 => k_mem); (case k5 => k_inst); (case k6 => k_is); (case k7 => k_is); (case k8 => kernel_rfl); k_whole; intro q'q h'q F'q N'q l1q; (try k_lt l1q); (try dsimp only)))) | ((with_reducible show wpAny _ _ (callWith _ (Value.ref _) _ _ _) _ _ _); (k_here; k_dflt (refine' callWith_B ?k1 ?k2 ?k3 ?_; (case k1 => k_asm); (case k2 => k_mem); (case k3 => decide +kernel); k_whole; (try dsimp only [List.nil_append, List.cons_append])))) | ((with_reducible show wpAny _ _ (getMethod (Value.ref _) _ _) _ _ _); (k_here; k_dflt (refine' super_len ?k1 ?k2 ?k3 ?k4 ?k5 ?k6 ?k7 ?k8 ?_; (case k1 => k_asm); (case k2 => k_asm); (case k3 => k_asm); (case k4 => k_mem); (case k5 => k_inst); (case k6 => k_is); (case k7 => k_is); (case k8 => kernel_rfl); k_whole; intro q'q h'q F'q N'q l1q; (try k_lt l1q); (try dsimp only)))) | walk1 | (dsimp only; walk1) | (leave1; walk_say "STEP leave1"; try dsimp only) | fail "no step")
    exact hq
  case k28 =>
    intro A' E' C' code j t s₂ m₂ _ et hg hb hn ha hbb
    rw [List.getElem?_map] at et
    obtain ⟨t0, e0, rfl⟩ := Option.map_eq_some_iff.mp et
    have h1 : mg (Str.ofString "EMPTYSTRING") = some (.str (Str.ofString "") _) := mg_of X T.g (by k_is)
    refine wpAny_mono (elt_join hn ha hbb hg rfl h1 rfl rfl rfl rfl (by decide) (by decide) (by decide) (Nat.le_trans (hz2 _ (List.mem_of_getElem? e0)) (by decide)) rfl) (fun y s₃ h => ⟨?_, h.2⟩) fun _ _ z => z
    obtain ⟨t, rfl⟩ := h.1
    refine ⟨t, ?_⟩
    rw [join_flat, flat_pair]; simp only [strAt]; rw [e0]; rfl
  case k29 =>
    intro ag h2 gg tk2 o' ht2 F2 N2 gm2 G2 FN
    repeat' (first | (k_unfold; (try dsimp only)) | (k_end; wrow_close) | ((with_reducible show wpAny _ _ (call (Value.ref _) _) _ _ _); first | (k_here; (with_reducible show wpAny _ _ (call (Value.ref _) []) _ _ _); k_dflt (refine' bound_pop ?k1 ?k2 ?k3 ?k4 ?k5 ?k6 ?k7 ?k8 ?_; (case k1 => k_asm); (case k2 => k_asm); (case k3 => k_asm); (case k5 => k_mem); (case k8 => k_upd); (case k6 => exact rfl); (case k7 => first | assumption | omega); (case k4 => kernel_rfl); k_whole; intro h'q F'q N'q; (try k_sweep))) | (k_here; (with_reducible show wpAny _ _ (call (Value.ref _) []) _ _ _); k_dflt (refine' bound_len ?k1 ?k2 ?k3 ?_; (case k1 => k_asm); (case k2 => k_mem); (case k3 => k_mem); k_whole))) | ((with_reducible show wpAny _ _ (getMethod (Value.ref _) _ _) _ _ _); (k_here; k_dflt (refine' super_pop ?k1 ?k2 ?k3 ?k4 ?k5 ?k6 ?k7 ?k8 ?_; (case k1 => k_asm); (case k2 => k_asm); (case k3 => k_asm); (case k4 => k_mem); (case k5 => k_inst); (case k6 => k_is); (case k7 => k_is); (case k8 => kernel_rfl); k_whole; intro q'q h'q F'q N'q l1q; (try k_lt l1q); (try dsimp only)))) | ((with_reducible show wpAny _ _ (callWith _ (Value.ref _) _ _ _) _ _ _); (k_here; k_dflt (refine' callWith_B ?k1 ?k2 ?k3 ?_; (case k1 => k_asm); (case k2 => k_mem); (case k3 => decide +kernel); k_whole; (try dsimp only [List.nil_append, List.cons_append])))) | ((with_reducible show wpAny _ _ (getMethod (Value.ref _) _ _) _ _ _); (k_here; k_dflt (refine' super_len ?k1 ?k2 ?k3 ?k4 ?k5 ?k6 ?k7 ?k8 ?_; (case k1 => k_asm); (case k2 => k_asm); (case k3 => k_asm); (case k4 => k_mem); (case k5 => k_inst); (case k6 => k_is); (case k7 => k_is); (case k8 => kernel_rfl); k_whole; intro q'q h'q F'q N'q l1q; (try k_lt l1q); (try dsimp only)))) | walk1 | (dsimp only; walk1) | (leave1; walk_say "STEP leave1"; try dsimp only) | fail "no step")
    have hlen : (tvs.map fun t => (t.1, Value.str (Str.ofString "") t.2.2.1, Value.str t.2.1 t.2.2.2)).length = tvs.length := List.length_map ..
    rw [hlen] at G2
    refine join_gen0 (Gen_tk G2 (Nat.le_refl _)) (strAt tvs) (fun j v h => h.2) (joinAt_ok tvs hz hz2) ?_ (by omega)
    intro h3 gg3 tk3 t3 hk3 gm3
    obtain ⟨F3, N3⟩ := FN h3 hk3
    rw [strAt_map, join_flat]
    have gm4 : GenMoved s.gens gg3 := GenMoved.trans gm2 gm3
    repeat' (first | (k_unfold; (try dsimp only)) | (k_end; wrow_close) | ((with_reducible show wpAny _ _ (call (Value.ref _) _) _ _ _); first | (k_here; (with_reducible show wpAny _ _ (call (Value.ref _) []) _ _ _); k_dflt (refine' bound_pop ?k1 ?k2 ?k3 ?k4 ?k5 ?k6 ?k7 ?k8 ?_; (case k1 => k_asm); (case k2 => k_asm); (case k3 => k_asm); (case k5 => k_mem); (case k8 => k_upd); (case k6 => exact rfl); (case k7 => first | assumption | omega); (case k4 => kernel_rfl); k_whole; intro h'q F'q N'q; (try k_sweep))) | (k_here; (with_reducible show wpAny _ _ (call (Value.ref _) []) _ _ _); k_dflt (refine' bound_len ?k1 ?k2 ?k3 ?_; (case k1 => k_asm); (case k2 => k_mem); (case k3 => k_mem); k_whole))) | ((with_reducible show wpAny _ _ (getMethod (Value.ref _) _ _) _ _ _); (k_here; k_dflt (refine' super_pop ?k1 ?k2 ?k3 ?k4 ?k5 ?k6 ?k7 ?k8 ?_; (case k1 => k_asm); (case k2 => k_asm); (case k3 => k_asm); (case k4 => k_mem); (case k5 => k_inst); (case k6 => k_is); (case k7 => k_is); (case k8 => kernel_rfl); k_whole; intro q'q h'q F'q N'q l1q; (try k_lt l1q); (try dsimp only)))) | ((with_reducible show wpAny _ _ (callWith _ (Value.ref _) _ _ _) _ _ _); (k_here; k_dflt (refine' callWith_B ?k1 ?k2 ?k3 ?_; (case k1 => k_asm); (case k2 => k_mem); (case k3 => decide +kernel); k_whole; (try dsimp only [List.nil_append, List.cons_append])))) | ((with_reducible show wpAny _ _ (getMethod (Value.ref _) _ _) _ _ _); (k_here; k_dflt (refine' super_len ?k1 ?k2 ?k3 ?k4 ?k5 ?k6 ?k7 ?k8 ?_; (case k1 => k_asm); (case k2 => k_asm); (case k3 => k_asm); (case k4 => k_mem); (case k5 => k_inst); (case k6 => k_is); (case k7 => k_is); (case k8 => kernel_rfl); k_whole; intro q'q h'q F'q N'q l1q; (try k_lt l1q); (try dsimp only)))) | walk1 | (dsimp only; walk1) | (leave1; walk_say "STEP leave1"; try dsimp only) | fail "no step")
    rename Fr _ _ _ _ => Fz; rename News _ _ _ _ => Nz
    exact hret _ _ _ _ _ ht2 gm4 Fz Nz
end
section
theorem calm50 {M : PySem.Model} {A : PySem.Around} {Q : Unit → PySem.Shared → Prop} {E : PySem.Value → PySem.Shared → Prop} {s : PySem.Shared} (h : Q () s) : PySem.wpAny M A (pure ()) Q E s := by
  w_top off
  first | (walk1; done) | exact PySem.wpAny_pure h
theorem sumLen_lt (tvs : List (Addr × Str × Tok × Tok)) (hz : tvs.length < 100) (hz2 : ∀ t ∈ tvs, t.2.1.length ≤ 100) : sumLen tvs < 2 ^ 63 := by
  have := take_sum_le (tvs.map fun t => t.2.1.length) (fun a ha => by obtain ⟨t, h, rfl⟩ := List.mem_map.mp ha; exact Nat.le_trans (hz2 t h) (by decide)) tvs.length
  rw [List.take_of_length_le (by simp), sum_cast] at this
  simp only [sumLen]
  omega
theorem sumLen_nonneg (tvs : List (Addr × Str × Tok × Tok)) : 0 ≤ sumLen tvs := by simp only [sumLen]; omega
theorem ows_call {w : World} {p : Program} {loose : List Str} {mean : ExcName → Option Value} {mg mb : Str → Option Value}
  {dp un : Nat} {gd : Option (List Code)} {cn : Str} {cs : Scope} {a : Addr} {ccd : Value} {cl : List (Str × Addr)} {outer : List Env} {A₀ : Around} {base h₀ : Heap} {L : Addr} {m : Str → Option Value} {s : Shared} {Q : Value → Shared → Prop} {E : Value → Shared → Prop}
  {o1 o2 fob fdb llb : Obj} {fo fd ll ac da : Addr} {tl : List (Addr × Obj)} {tvs : List (Addr × Str × Tok × Tok)} {k : Nat} {t1 t2 : Tok} (O : Off7 fo fd ll ac da tl)
  (B : Below A₀ base outer h₀) (F : Fr h₀ L s.heap m) (X : (heap39 w.params).In h₀)
  (N : News h₀ L s.heap ((161, o1) :: (168, o2) :: (fo, fob) :: (fd, fdb) :: (ll, llb) :: (ac, accObj 199 da (refsOf tvs) k) :: (da, iniOf w.params t1 t2) :: tl))
  (T : Top p loose mean mg mb h₀) (hk : cs.kind = .function) (hd' : dp + 80 < recursionLimit) (hu : un + 600 < cLine)
  (htab : Tab o1) (htab2 : Tab o2) (htv : ∀ t ∈ tvs, tup2 t ∈ tl) (hz : tvs.length < 100) (hz2 : ∀ t ∈ tvs, t.2.1.length ≤ 100) (hpos : 0 < sumLen tvs)
  (hret : ∀ (h' : Heap) (gg : Array GenState) (tk' : Nat) (o1' o2' : Obj), Tab o1' → Tab o2' → GenMoved s.gens gg → Fr h₀ L h' m → News h₀ L h' ((161, o1') :: (168, o2') :: (fo, fob) :: (fd, fdb) :: (ll, llb) :: (ac, accObj 199 da (refsOf tvs) k) :: (da, iniOf w.params t1 t2) :: tl) → Q (.bool (Txt.isspace (flatS (tvs.map fun t => t.2.1)))) { s with heap := h', gens := gg, toks := tk' }) :
   wpAny (model PP w) (ktrTop dp un gd cn cs L a ccd cl outer) (call (.ref (nat_lit 188)) [.ref ac]) Q E s := by
  have _k : (fun (_ : OpenLaw) => True) PySem.Challenge.rw_tc0068_02 ∧ heap39 = heap39 := by
    k_fill
    exact ⟨trivial, rfl⟩
  clear _k
  have O' := O
  obtain ⟨c1, c2, c3, c4, c5, u1, u2, u3, u4, u5, u6, u7⟩ := O
  refine wpAny_call ?_
  refine' code_def ?k1 ?k2 ?k3 ?k4 ?k5 ?kA ?kF ?kK ?k6 ?k7 ?k8 ?k9 ?kB ?_ ?c2 ?c3 ?c4 ?c5; (case kA => exact rfl); (case kF => exact rfl); (case kK => assumption); (case k1 => k_asm); (case k2 => k_asm); (case k3 => k_asm); (case k4 => k_asm); (case k5 => k_asm); (case k6 => k_is); (case k7 => k_is); (case k8 => ktr_room); (case k9 => exact BindsTo.of_eq rfl); (case c5 => decide); (case kB => exact locs rfl); (case c2 => exact rfl); (case c3 => exact rfl); (case c4 => exact rfl); k_whole; intro g' L' h' FG' F' N' B' X' T'; (try dsimp only); (try k_lift B'); (try k_fold)
  repeat' (first | (k_unfold; (try dsimp only)) | (k_end; wrow_close) | (k_here; (with_reducible show wpAny _ _ (call (Value.type "str") [Value.ref _]) _ _ _); k_dflt (refine' kso_call ?k1 ?k2 ?k3 ?k4 ?k5 ?_; (case k1 => ktr_units); (case k2 => k_in); (case k3 => k_inst); (case k4 => k_is); (case k5 => k_is); k_whole)) | ((with_reducible show wpAny _ _ (call (Value.ref _) _) _ _ _); first | (k_here; (k_dflt (show wpAny _ _ (call (Value.ref 173) [Value.ref _]) _ _ _)); k_dflt (refine' str_call ?k4 ?k0 ?k1 ?k2 ?k3 ?k5 ?k6 ?k7 ?k8 ?ka ?kb ?kc ?kd ?_; (case k4 => k_asm); (case k0 => k_asm); (case k1 => k_asm); (case k2 => k_asm); (case k3 => k_asm); (case k5 => k_asm); (case k6 => exact rfl); (case k7 => ktr_room); (case k8 => ktr_units); (case ka => assumption); (case kb => assumption); (case kc => assumption); (case kd => assumption); k_whole; intro h'q gg'q tk'q o2'q t'q ht'q gm'q F'q N'q; (try k_sweep); (try dsimp only [PySem.W.StrBack]))) | (k_here; (k_dflt (show wpAny _ _ (call (Value.ref 166) [Value.ref _]) _ _ _)); k_dflt (refine' len_call ?k4 ?k0 ?k1 ?k2 ?k3 ?k5 ?k6 ?k7 ?k8 ?ka ?kb ?kc ?kd ?_; (case k4 => k_asm); (case k0 => k_asm); (case k1 => k_asm); (case k2 => k_asm); (case k3 => k_asm); (case k5 => k_asm); (case k6 => exact rfl); (case k7 => ktr_room); (case k8 => ktr_units); (case ka => assumption); (case kb => assumption); (case kc => assumption); (case kd => assumption); k_whole; intro h'q gg'q tk'q o1'q t'q ht'q gm'q F'q N'q; (try k_sweep); (try dsimp only [PySem.W.LenBack]); (try (refine ⟨⟨sumLen_nonneg _, sumLen_lt _ (by assumption) (by assumption)⟩, ?_⟩)))) | (k_here; (with_reducible show wpAny _ _ (call (Value.ref _) []) _ _ _); k_dflt (refine' bound_pop ?k1 ?k2 ?k3 ?k4 ?k5 ?k6 ?k7 ?k8 ?_; (case k1 => k_asm); (case k2 => k_asm); (case k3 => k_asm); (case k5 => k_mem); (case k8 => k_upd); (case k6 => exact rfl); (case k7 => first | assumption | omega); (case k4 => kernel_rfl); k_whole; intro h'q F'q N'q; (try k_sweep))) | (k_here; (with_reducible show wpAny _ _ (call (Value.ref _) []) _ _ _); k_dflt (refine' bound_len ?k1 ?k2 ?k3 ?_; (case k1 => k_asm); (case k2 => k_mem); (case k3 => k_mem); k_whole))) | ((with_reducible show wpAny _ _ (truthy (Value.ref _)) _ _ _); (k_here; k_dflt (refine' truthy_len ?k1 ?k2 ?k3 ?k6 ?k4 ?k5 ?_; (case k1 => k_asm); (case k2 => k_asm); (case k3 => k_inst); (case k4 => k_is); (case k5 => k_is); (case k6 => k_is); k_whole))) | ((with_reducible show wpAny _ _ (getMethod (Value.ref _) _ _) _ _ _); (k_here; k_dflt (refine' super_pop ?k1 ?k2 ?k3 ?k4 ?k5 ?k6 ?k7 ?k8 ?_; (case k1 => k_asm); (case k2 => k_asm); (case k3 => k_asm); (case k4 => k_mem); (case k5 => k_inst); (case k6 => k_is); (case k7 => k_is); (case k8 => kernel_rfl); k_whole; intro q'q h'q F'q N'q l1q; (try k_lt l1q); (try dsimp only)))) | ((with_reducible show wpAny _ _ (callWith _ (Value.ref _) _ _ _) _ _ _); (k_here; k_dflt (refine' callWith_B ?k1 ?k2 ?k3 ?_; (case k1 => k_asm); (case k2 => k_mem); (case k3 => decide +kernel); k_whole; (try dsimp only [List.nil_append, List.cons_append])))) | ((with_reducible show wpAny _ _ (getMethod (Value.ref _) _ _) _ _ _); (k_here; k_dflt (refine' super_len ?k1 ?k2 ?k3 ?k4 ?k5 ?k6 ?k7 ?k8 ?_; (case k1 => k_asm); (case k2 => k_asm); (case k3 => k_asm); (case k4 => k_mem); (case k5 => k_inst); (case k6 => k_is); (case k7 => k_is); (case k8 => kernel_rfl); k_whole; intro q'q h'q F'q N'q l1q; (try k_lt l1q); (try dsimp only)))) | walk1 | (dsimp only; walk1) | (leave1; walk_say "STEP leave1"; try dsimp only) | fail "no step")
  · rename Fr _ _ _ _ => Fz; rename News _ _ _ _ => Nz
    refine hret _ _ _ _ _ ?_ ?_ ?_ Fz Nz
    · assumption
    · assumption
    · refine' GenMoved.trans _ (by assumption); assumption
  · rename sumLen tvs = 0 => z
    omega
end
section
theorem calm51 {M : PySem.Model} {A : PySem.Around} {Q : Unit → PySem.Shared → Prop} {E : PySem.Value → PySem.Shared → Prop} {s : PySem.Shared} (h : Q () s) : PySem.wpAny M A (pure ()) Q E s := by
  w_top off
  first | (walk1; done) | exact PySem.wpAny_pure h
structure Wds (tvs : List (Addr × Str × Tok × Tok)) (tl : List (Addr × Obj)) : Prop where
  mem : ∀ t ∈ tvs, tup2 t ∈ tl
  len : ∀ t ∈ tvs, t.2.1.length ≤ 100
theorem refsOf_push (tvs : List (Addr × Str × Tok × Tok)) (t : Addr × Str × Tok × Tok) : (refsOf tvs).push (.ref t.1) = refsOf (tvs ++ [t]) := by simp [refsOf]
theorem refsOf_size (tvs : List (Addr × Str × Tok × Tok)) : (refsOf tvs).size = tvs.length := by simp [refsOf]
theorem Wds.push {tvs : List (Addr × Str × Tok × Tok)} {tl : List (Addr × Obj)} {t : Addr × Str × Tok × Tok} (W : Wds tvs tl) (h : t.2.1.length ≤ 100) : Wds (tvs ++ [t]) (tup2 t :: tl) := by
  refine ⟨fun q hq => ?_, fun q hq => ?_⟩
  · rcases List.mem_append.mp hq with h | h
    · exact List.mem_cons_of_mem _ (W.mem q h)
    · rw [List.mem_singleton.mp h]; exact List.mem_cons_self
  · rcases List.mem_append.mp hq with h' | h'
    · exact W.len q h'
    · rw [List.mem_singleton.mp h']; exact h
theorem Wds.left {us vs : List (Addr × Str × Tok × Tok)} {tl : List (Addr × Obj)} (W : Wds (us ++ vs) tl) : Wds us tl := ⟨fun q hq => W.mem q (by simp [hq]), fun q hq => W.len q (by simp [hq])⟩
theorem Wds.right {us vs : List (Addr × Str × Tok × Tok)} {tl : List (Addr × Obj)} (W : Wds (us ++ vs) tl) : Wds vs tl := ⟨fun q hq => W.mem q (by simp [hq]), fun q hq => W.len q (by simp [hq])⟩
theorem Wds.more {us : List (Addr × Str × Tok × Tok)} {tl : List (Addr × Obj)} {p : Addr × Obj} (W : Wds us tl) : Wds us (p :: tl) := ⟨fun q hq => List.mem_cons_of_mem _ (W.mem q hq), W.len⟩

theorem push_w {w : World} {p : Program} {loose : List Str} {mean : ExcName → Option Value} {mg mb : Str → Option Value}
  {dp un : Nat} {gd : Option (List Code)} {cn : Str} {cs : Scope} {a : Addr} {ccd : Value} {cl : List (Str × Addr)} {outer : List Env} {A₀ : Around} {base h₀ : Heap} {L : Addr} {m : Str → Option Value} {s : Shared} {Q : Value → Shared → Prop} {E : Value → Shared → Prop}
  {o1 o2 fob fdb llb : Obj} {fo fd ll ac da : Addr} {tl : List (Addr × Obj)} {tvs : List (Addr × Str × Tok × Tok)} {k : Nat} {t1 t2 : Tok} (O : Off7 fo fd ll ac da tl)
  (B : Below A₀ base outer h₀) (F : Fr h₀ L s.heap m) (X : (heap39 w.params).In h₀)
  (N : News h₀ L s.heap ((161, o1) :: (168, o2) :: (fo, fob) :: (fd, fdb) :: (ll, llb) :: (ac, accObj 199 da (refsOf tvs) k) :: (da, iniOf w.params t1 t2) :: tl))
  (T : Top p loose mean mg mb h₀) (hk : cs.kind = .function) (hd' : dp + 20 < recursionLimit) (hu : un + 80 < cLine)
  {x : Str} {tx tf : Tok} (W : Wds tvs tl) (hx : x.length ≤ 100) (hz : tvs.length < 99)
  (hret : ∀ (t : Addr) (h' : Heap) (tk' k' : Nat), Fr h₀ L h' m → News h₀ L h' ((161, o1) :: (168, o2) :: (fo, fob) :: (fd, fdb) :: (ll, llb) :: (ac, accObj 199 da (refsOf (tvs ++ [(t, x, tf, tx)])) k') :: (da, iniOf w.params t1 t2) :: (t, tupOf #[.str (Str.ofString "") tf, .str x tx]) :: tl) →
    Off7 fo fd ll ac da ((t, tupOf #[.str (Str.ofString "") tf, .str x tx]) :: tl) → Wds (tvs ++ [(t, x, tf, tx)]) ((t, tupOf #[.str (Str.ofString "") tf, .str x tx]) :: tl) → Q .none { s with heap := h', toks := tk' }) :
   wpAny (model PP w) (ktrTop dp un gd cn cs L a ccd cl outer) (call (.ref (nat_lit 143)) [.ref ac, .str (Str.ofString "") tf, .str x tx]) Q E s :=
  push_call O B F X N T hk hd' hu (by rw [refsOf_size]; omega) fun t h' tk' F' N' O' => hret t h' tk' (k + 1) F' (by rw [← refsOf_push]; exact N') O' (W.push hx)

theorem push_wc {w : World} {p : Program} {loose : List Str} {mean : ExcName → Option Value} {mg mb : Str → Option Value}
  {dp un : Nat} {gd : Option (List Code)} {cn : Str} {cs : Scope} {a : Addr} {ccd : Value} {cl : List (Str × Addr)} {outer : List Env} {A₀ : Around} {base h₀ : Heap} {L : Addr} {m : Str → Option Value} {s : Shared} {Q : Value → Shared → Prop} {E : Value → Shared → Prop}
  {o1 o2 fob fdb llb : Obj} {fo fd ll ac da : Addr} {tl : List (Addr × Obj)} {tvs : List (Addr × Str × Tok × Tok)} {k : Nat} {t1 t2 : Tok} (O : Off7 fo fd ll ac da tl)
  (B : Below A₀ base outer h₀) (F : Fr h₀ L s.heap m) (X : (heap39 w.params).In h₀)
  (N : News h₀ L s.heap ((161, o1) :: (168, o2) :: (fo, fob) :: (fd, fdb) :: (ll, llb) :: (ac, accObj 199 da (refsOf tvs) k) :: (da, iniOf w.params t1 t2) :: tl))
  (T : Top p loose mean mg mb h₀) (hk : cs.kind = .function) (hd' : dp + 20 < recursionLimit) (hu : un + 80 < cLine)
  {x : Str} {tx tf : Tok} (W : Wds tvs tl) (hx : x.length ≤ 100) (hz : tvs.length < 99)
  (hret : ∀ (t : Addr) (h' : Heap) (tk' k' : Nat), Fr h₀ L h' m → News h₀ L h' ((161, o1) :: (168, o2) :: (fo, fob) :: (fd, fdb) :: (ll, llb) :: (ac, accObj 199 da (refsOf (tvs ++ [(t, x, tf, tx)])) k') :: (da, iniOf w.params t1 t2) :: (t, tupOf #[.str (Str.ofString "") tf, .str x tx]) :: tl) →
    Off7 fo fd ll ac da ((t, tupOf #[.str (Str.ofString "") tf, .str x tx]) :: tl) → Wds (tvs ++ [(t, x, tf, tx)]) ((t, tupOf #[.str (Str.ofString "") tf, .str x tx]) :: tl) → Q .none { s with heap := h', toks := tk' }) :
   codeAny (model PP w) (ktrTop dp un gd cn cs L a ccd cl outer) (.call (.ref (nat_lit 143)) ⟨[.ref ac, .str (Str.ofString "") tf, .str x tx], []⟩) (fun r s' => match r with | .ok (.ret v) => Q v s' | .ok _ => False | .error e => E e s') s :=
  push_code O B F X N T hk hd' hu (by rw [refsOf_size]; omega) fun t h' tk' F' N' O' => hret t h' tk' (k + 1) F' (by rw [← refsOf_push]; exact N') O' (W.push hx)

theorem pop_w {w : World} {p : Program} {loose : List Str} {mean : ExcName → Option Value} {mg mb : Str → Option Value}
  {dp un : Nat} {gd : Option (List Code)} {cn : Str} {cs : Scope} {a : Addr} {ccd : Value} {cl : List (Str × Addr)} {outer : List Env} {A₀ : Around} {base h₀ : Heap} {L : Addr} {m : Str → Option Value} {s : Shared} {Q : Value → Shared → Prop} {E : Value → Shared → Prop}
  {o1 o2 fob fdb llb : Obj} {fo fd ll ac da : Addr} {tl : List (Addr × Obj)} {tvs : List (Addr × Str × Tok × Tok)} {t : Addr × Str × Tok × Tok} {k : Nat} {t1 t2 : Tok} (O : Off7 fo fd ll ac da tl)
  (B : Below A₀ base outer h₀) (F : Fr h₀ L s.heap m) (X : (heap39 w.params).In h₀)
  (N : News h₀ L s.heap ((161, o1) :: (168, o2) :: (fo, fob) :: (fd, fdb) :: (ll, llb) :: (ac, accObj 199 da (refsOf (tvs ++ [t])) k) :: (da, iniOf w.params t1 t2) :: tl))
  (T : Top p loose mean mg mb h₀) (hk : cs.kind = .function) (hd' : dp + 40 < recursionLimit) (hu : un + 300 < cLine)
  (W : Wds (tvs ++ [t]) tl) (hz : tvs.length < 99)
  (hret : ∀ (h' : Heap) (tk' k' : Nat), Fr h₀ L h' m → News h₀ L h' ((161, o1) :: (168, o2) :: (fo, fob) :: (fd, fdb) :: (ll, llb) :: (ac, accObj 199 da (refsOf tvs) k') :: (da, iniOf w.params t1 t2) :: tl) → Wds tvs tl → (t.1, tupOf #[.str (Str.ofString "") t.2.2.1, .str t.2.1 t.2.2.2]) ∈ tl → Q (.ref t.1) { s with heap := h', toks := tk' }) :
   wpAny (model PP w) (ktrTop dp un gd cn cs L a ccd cl outer) (call (.ref (nat_lit 159)) [.ref ac]) Q E s :=
  pop_call (ys := refsOf tvs) (v := .ref t.1) O B F X (by rw [refsOf_push]; exact N) T hk hd' hu (by rw [refsOf_size]; omega) fun h' tk' F' N' => hret h' tk' (k + 1) F' N' W.left (W.mem t (by simp))

theorem popf_w {w : World} {p : Program} {loose : List Str} {mean : ExcName → Option Value} {mg mb : Str → Option Value}
  {dp un : Nat} {gd : Option (List Code)} {cn : Str} {cs : Scope} {a : Addr} {ccd : Value} {cl : List (Str × Addr)} {outer : List Env} {A₀ : Around} {base h₀ : Heap} {L : Addr} {m : Str → Option Value} {s : Shared} {Q : Value → Shared → Prop} {E : Value → Shared → Prop}
  {o1 o2 fob fdb llb : Obj} {fo fd ll ac da : Addr} {tl : List (Addr × Obj)} {tvs : List (Addr × Str × Tok × Tok)} {t : Addr × Str × Tok × Tok} {k : Nat} {t1 t2 ti : Tok} {i : Int} (O : Off7 fo fd ll ac da tl)
  (B : Below A₀ base outer h₀) (F : Fr h₀ L s.heap m) (X : (heap39 w.params).In h₀)
  (N : News h₀ L s.heap ((161, o1) :: (168, o2) :: (fo, fob) :: (fd, fdb) :: (ll, llb) :: (ac, accObj 199 da (refsOf (tvs ++ [t])) k) :: (da, iniOf w.params t1 t2) :: tl))
  (T : Top p loose mean mg mb h₀) (hk : cs.kind = .function) (hd' : dp + 40 < recursionLimit) (hu : un + 300 < cLine)
  (W : Wds (tvs ++ [t]) tl) (hz : tvs.length < 99) (hi : i = (tvs.length : Int))
  (hret : ∀ (l : Addr) (h' : Heap) (tk' k' : Nat), Fr h₀ L h' m → News h₀ L h' ((161, o1) :: (168, o2) :: (fo, fob) :: (fd, fdb) :: (ll, llb) :: (ac, accObj 199 da (refsOf tvs) k') :: (da, iniOf w.params t1 t2) :: (l, listOf (refsOf [t]) 0) :: tl) →
     Off7 fo fd ll ac da ((l, listOf (refsOf [t]) 0) :: tl) → Wds tvs ((l, listOf (refsOf [t]) 0) :: tl) → Wds [t] ((l, listOf (refsOf [t]) 0) :: tl) → Q (.ref l) { s with heap := h', toks := tk' }) :
   wpAny (model PP w) (ktrTop dp un gd cn cs L a ccd cl outer) (call (.ref (nat_lit 151)) [.ref ac, .int i ti]) Q E s :=
  popf_call (ys := refsOf tvs) (v := .ref t.1) O B F X (by rw [refsOf_push]; exact N) T hk hd' hu (by rw [refsOf_size]; omega) (by rw [refsOf_size]; exact hi) fun l h' tk' k' F' N' O' => hret l h' tk' k' F' N' O' W.left.more W.right.more

theorem reset_w {w : World} {p : Program} {loose : List Str} {mean : ExcName → Option Value} {mg mb : Str → Option Value}
  {dp un : Nat} {gd : Option (List Code)} {cn : Str} {cs : Scope} {a : Addr} {ccd : Value} {cl : List (Str × Addr)} {outer : List Env} {A₀ : Around} {base h₀ : Heap} {L : Addr} {m : Str → Option Value} {s : Shared} {Q : Value → Shared → Prop} {E : Value → Shared → Prop}
  {o1 o2 fob fdb llb : Obj} {fo fd ll ac da : Addr} {tl : List (Addr × Obj)} {tvs us : List (Addr × Str × Tok × Tok)} {l : Addr} {n k : Nat} {t1 t2 : Tok} (O : Off7 fo fd ll ac da tl)
  (B : Below A₀ base outer h₀) (F : Fr h₀ L s.heap m) (X : (heap39 w.params).In h₀)
  (N : News h₀ L s.heap ((161, o1) :: (168, o2) :: (fo, fob) :: (fd, fdb) :: (ll, llb) :: (ac, accObj 199 da (refsOf tvs) k) :: (da, iniOf w.params t1 t2) :: tl)) (hl : (l, listOf (refsOf us) n) ∈ tl)
  (T : Top p loose mean mg mb h₀) (hk : cs.kind = .function) (hd' : dp + 40 < recursionLimit) (hu : un + 300 < cLine)
  (hz : tvs.length < 99) (hz' : us.length < 99)
  (hret : ∀ (h' : Heap) (tk' k' : Nat) (t1' t2' : Tok), Fr h₀ L h' m → News h₀ L h' ((161, o1) :: (168, o2) :: (fo, fob) :: (fd, fdb) :: (ll, llb) :: (ac, accObj 199 da (refsOf us) k') :: (da, iniOf w.params t1' t2') :: tl) → Q .none { s with heap := h', toks := tk' }) :
   wpAny (model PP w) (ktrTop dp un gd cn cs L a ccd cl outer) (call (.ref (nat_lit 181)) [.ref ac, .ref l]) Q E s :=
  reset_call O B F X N hl T hk hd' hu (by rw [refsOf_size, refsOf_size]; omega) hret

theorem count_w {w : World} {p : Program} {loose : List Str} {mean : ExcName → Option Value} {mg mb : Str → Option Value}
  {dp un : Nat} {gd : Option (List Code)} {cn : Str} {cs : Scope} {a : Addr} {ccd : Value} {cl : List (Str × Addr)} {outer : List Env} {A₀ : Around} {base h₀ : Heap} {L : Addr} {m : Str → Option Value} {s : Shared} {Q : Value → Shared → Prop} {E : Value → Shared → Prop}
  {o1 o2 fob fdb llb : Obj} {fo fd ll ac da : Addr} {tl : List (Addr × Obj)} {tvs : List (Addr × Str × Tok × Tok)} {k : Nat} {t1 t2 : Tok} (O : Off7 fo fd ll ac da tl)
  (B : Below A₀ base outer h₀) (F : Fr h₀ L s.heap m) (X : (heap39 w.params).In h₀)
  (N : News h₀ L s.heap ((161, o1) :: (168, o2) :: (fo, fob) :: (fd, fdb) :: (ll, llb) :: (ac, accObj 199 da (refsOf tvs) k) :: (da, iniOf w.params t1 t2) :: tl))
  (T : Top p loose mean mg mb h₀) (hk : cs.kind = .function) (hd' : dp + 20 < recursionLimit) (hu : un + 80 < cLine) (hz : tvs.length < 99)
  (hret : ∀ (h' : Heap) (t' tk' : Nat), Fr h₀ L h' m → News h₀ L h' ((161, o1) :: (168, o2) :: (fo, fob) :: (fd, fdb) :: (ll, llb) :: (ac, accObj 199 da (refsOf tvs) k) :: (da, iniOf w.params t1 t2) :: tl) → Q (.int tvs.length t') { s with heap := h', toks := tk' }) :
   wpAny (model PP w) (ktrTop dp un gd cn cs L a ccd cl outer) (call (.ref (nat_lit 196)) [.ref ac]) Q E s :=
  count_call O B F X N T hk hd' hu (by rw [refsOf_size]; omega) fun h' t' tk' F' N' => by have := hret h' t' tk' F' N'; rwa [← refsOf_size] at this
theorem sumLen_push (tvs : List (Addr × Str × Tok × Tok)) (t : Addr × Str × Tok × Tok) : sumLen (tvs ++ [t]) = sumLen tvs + t.2.1.length := by
  simp only [sumLen, List.map_append, List.sum_append, List.map_cons, List.map_nil, List.sum_cons, List.sum_nil]
  omega
end
section
local macro_rules | `(tactic| omega) => `(tactic| first | tb_rel | lia)
section
local macro_rules | `(tactic| k_all) => `(tactic| first | exact Off7.t1 (by assumption) | exact Off7.t2 (by assumption) | exact Off7.t3 (by assumption) | exact Off7.t4 (by assumption) | exact Off7.t5 (by assumption) | exact Off7.t6 (by assumption) | exact Off7.t7 (by assumption))
section
theorem calm52 {M : PySem.Model} {A : PySem.Around} {Q : Unit → PySem.Shared → Prop} {E : PySem.Value → PySem.Shared → Prop} {s : PySem.Shared} (h : Q () s) : PySem.wpAny M A (pure ()) Q E s := by
  w_top off
  first | (walk1; done) | exact PySem.wpAny_pure h
theorem chunk_fit {w : World} {p : Program} {loose : List Str} {mean : ExcName → Option Value} {mg mb : Str → Option Value}
  {dp un : Nat} {gd : Option (List Code)} {cn : Str} {cs : Scope} {a : Addr} {ccd : Value} {cl : List (Str × Addr)} {outer : List Env} {A₀ : Around} {base h₀ : Heap} {L : Addr} {m : Str → Option Value} {s : Shared} {Q : Value → Shared → Prop} {E : Value → Shared → Prop}
  {o1 o2 : Obj} {fo fd ll ac da : Addr} {tl : List (Addr × Obj)} {tvs : List (Addr × Str × Tok × Tok)} {k : Nat} {t1 t2 : Tok} (O : Off7 fo fd ll ac da tl)
  {es : List DictEntry} {en : Nat} {lvs : Array Value} {ln : Nat} {mx : Int} {tm ts : Tok}
  (B : Below A₀ base outer h₀) (F : Fr h₀ L s.heap m) (X : (heap39 w.params).In h₀)
  (N : News h₀ L s.heap ((161, o1) :: (168, o2) :: (fo, instObj 115 fd) :: (fd, dictOf es en) :: (ll, listOf lvs ln) :: (ac, accObj 199 da (refsOf tvs) k) :: (da, iniOf w.params t1 t2) :: tl))
  (T : Top p loose mean mg mb h₀) (hk : cs.kind = .function) (hd' : dp + 120 < recursionLimit) (hu : un + 900 < cLine)
  (g1 : getL "_current_line" es = some (some (.ref ac))) (g2 : getL "_maxlen" es = some (some (.int mx tm))) (g3 : getL "_splitchars" es = some (some (.str (Str.ofString ";") ts))) (g4 : getL "_lines" es = some (some (.ref ll)))
  (n1 : getL "_append_chunk" es = some none)
  (htab : Tab o1) (W : Wds tvs tl) (hz : tvs.length < 90) {x : Str} {tf tx : Tok} (hx : x.length ≤ 100) (hfit : sumLen tvs + x.length ≤ mx)
  (hret : ∀ (t : Addr) (h' : Heap) (gg : Array GenState) (tk' k' : Nat) (o1' : Obj), Tab o1' → GenMoved s.gens gg → Fr h₀ L h' m →
    News h₀ L h' ((161, o1') :: (168, o2) :: (fo, instObj 115 fd) :: (fd, dictOf es en) :: (ll, listOf lvs ln) :: (ac, accObj 199 da (refsOf (tvs ++ [(t, x, tf, tx)])) k') :: (da, iniOf w.params t1 t2) :: (t, tupOf #[.str (Str.ofString "") tf, .str x tx]) :: tl) →
    Off7 fo fd ll ac da ((t, tupOf #[.str (Str.ofString "") tf, .str x tx]) :: tl) → Wds (tvs ++ [(t, x, tf, tx)]) ((t, tupOf #[.str (Str.ofString "") tf, .str x tx]) :: tl) →
    Q .none { s with heap := h', gens := gg, toks := tk' }) :
   wpAny (model PP w) (ktrTop dp un gd cn cs L a ccd cl outer) (call (.ref (nat_lit 112)) [.ref fo, .str (Str.ofString "") tf, .str x tx]) Q E s := by
  have _k : (fun (_ : OpenLaw) => True) PySem.Challenge.rw_tc0068_02 ∧ heap39 = heap39 := by
    k_fill
    exact ⟨trivial, rfl⟩
  clear _k
  have O' := O
  obtain ⟨c1, c2, c3, c4, c5, u1, u2, u3, u4, u5, u6, u7⟩ := O
  refine wpAny_call ?_
  refine' code_def ?k1 ?k2 ?k3 ?k4 ?k5 ?kA ?kF ?kK ?k6 ?k7 ?k8 ?k9 ?kB ?_ ?c2 ?c3 ?c4 ?c5; (case kA => exact rfl); (case kF => exact rfl); (case kK => assumption); (case k1 => k_asm); (case k2 => k_asm); (case k3 => k_asm); (case k4 => k_asm); (case k5 => k_asm); (case k6 => k_is); (case k7 => k_is); (case k8 => ktr_room); (case k9 => exact BindsTo.of_eq rfl); (case c5 => decide); (case kB => exact locs rfl); (case c2 => exact rfl); (case c3 => exact rfl); (case c4 => exact rfl); k_whole; intro g' L' h' FG' F' N' B' X' T'; (try dsimp only); (try k_lift B'); (try k_fold)
  repeat' (first | (k_unfold; (try dsimp only)) | (k_end; wrow_close) | (k_here; (with_reducible show wpAny _ _ (call (Value.type "str") [Value.ref _]) _ _ _); k_dflt (refine' kso_call ?k1 ?k2 ?k3 ?k4 ?k5 ?_; (case k1 => ktr_units); (case k2 => k_in); (case k3 => k_inst); (case k4 => k_is); (case k5 => k_is); k_whole)) | ((with_reducible show wpAny _ _ (call (Value.ref _) _) _ _ _); first | (k_here; (k_dflt (show wpAny _ _ (call (Value.ref 188) [Value.ref _]) _ _ _)); k_dflt (refine' ows_call ?k0 ?k1 ?k2 ?k3 ?k4 ?k5 ?k6 ?k7 ?k8 ?k9 ?k10 ?k11 ?k12 ?k13 ?k14 ?_; (case k0 => k_asm); (case k1 => k_asm); (case k2 => k_asm); (case k3 => k_asm); (case k4 => k_asm); (case k5 => k_asm); (case k6 => exact rfl); (case k7 => ktr_room); (case k8 => ktr_units); (case k9 => assumption); (case k10 => assumption); (case k11 => exact Wds.mem (by assumption)); (case k12 => first | omega | (refine Nat.lt_trans (b := 99) ?_ (by decide); assumption) | (simp only [List.length_append, List.length_cons, List.length_nil]; omega) | omega); (case k13 => exact Wds.len (by assumption)); (case k14 => first | assumption | omega); k_whole; intro h'q gg'q tk'q o1'q o2'q ht1'q ht2'q gm'q F'q N'q; (try k_sweep))) | (k_here; (k_dflt (show wpAny _ _ (call (Value.ref 173) [Value.ref _]) _ _ _)); k_dflt (refine' str_call ?k0 ?k1 ?k2 ?k3 ?k4 ?k5 ?k6 ?k7 ?k8 ?k9 ?k10 ?k11 ?k12 ?_; (case k0 => k_asm); (case k1 => k_asm); (case k2 => k_asm); (case k3 => k_asm); (case k4 => k_asm); (case k5 => k_asm); (case k6 => exact rfl); (case k7 => ktr_room); (case k8 => ktr_units); (case k9 => assumption); (case k10 => exact Wds.mem (by assumption)); (case k11 => first | omega | (refine Nat.lt_trans (b := 99) ?_ (by decide); assumption) | (simp only [List.length_append, List.length_cons, List.length_nil]; omega) | omega); (case k12 => exact Wds.len (by assumption)); k_whole; intro h'q gg'q tk'q o2'q t'q ht'q gm'q F'q N'q; (try k_sweep); (try dsimp only [PySem.W.StrBack]))) | (k_here; (k_dflt (show wpAny _ _ (call (Value.ref 166) [Value.ref _]) _ _ _)); k_dflt (refine' len_call ?k0 ?k1 ?k2 ?k3 ?k4 ?k5 ?k6 ?k7 ?k8 ?k9 ?k10 ?k11 ?k12 ?_; (case k0 => k_asm); (case k1 => k_asm); (case k2 => k_asm); (case k3 => k_asm); (case k4 => k_asm); (case k5 => k_asm); (case k6 => exact rfl); (case k7 => ktr_room); (case k8 => ktr_units); (case k9 => assumption); (case k10 => exact Wds.mem (by assumption)); (case k11 => first | omega | (refine Nat.lt_trans (b := 99) ?_ (by decide); assumption) | (simp only [List.length_append, List.length_cons, List.length_nil]; omega) | omega); (case k12 => exact Wds.len (by assumption)); k_whole; intro h'q gg'q tk'q o1'q t'q ht'q gm'q F'q N'q; (try k_sweep); (try dsimp only [PySem.W.LenBack]); (try (refine ⟨⟨sumLen_nonneg _, sumLen_lt _ (by first | omega | (refine Nat.lt_trans (b := 99) ?_ (by decide); assumption) | (simp only [List.length_append, List.length_cons, List.length_nil]; omega) | omega) (by exact Wds.len (by assumption))⟩, ?_⟩)))) | (k_here; (k_dflt (show wpAny _ _ (call (Value.ref 196) [Value.ref _]) _ _ _)); k_dflt (refine' count_w ?k0 ?k1 ?k2 ?k3 ?k4 ?k5 ?k6 ?k7 ?k8 ?k9 ?_; (case k0 => k_asm); (case k1 => k_asm); (case k2 => k_asm); (case k3 => k_asm); (case k4 => k_asm); (case k5 => k_asm); (case k6 => exact rfl); (case k7 => ktr_room); (case k8 => ktr_units); (case k9 => first | assumption | omega | (simp only [List.length_append, List.length_cons, List.length_nil]; omega)); k_whole; intro h'q t'q tk'q F'q N'q; (try k_sweep))) | (k_here; (k_dflt (show wpAny _ _ (call (Value.ref 181) [Value.ref _]) _ _ _)); k_dflt (refine' reset0_call ?k0 ?k1 ?k2 ?k3 ?k4 ?k5 ?k6 ?k7 ?k8 ?k9 ?_; (case k0 => k_asm); (case k1 => k_asm); (case k2 => k_asm); (case k3 => k_asm); (case k4 => k_asm); (case k5 => k_asm); (case k6 => exact rfl); (case k7 => ktr_room); (case k8 => ktr_units); (case k9 => (rw [refsOf_size]; first | omega | (simp only [List.length_append, List.length_cons, List.length_nil]; omega))); k_whole; intro h'q tk'q k'q t1'q t2'q F'q N'q; (try k_sweep))) | (k_here; (k_dflt (show wpAny _ _ (call (Value.ref 181) [Value.ref _, Value.ref _]) _ _ _)); k_dflt (refine' reset_w ?k0 ?k1 ?k2 ?k3 ?k4 ?k5 ?k6 ?k7 ?k8 ?k9 ?k10 ?k11 ?_; (case k0 => k_asm); (case k1 => k_asm); (case k2 => k_asm); (case k3 => k_asm); (case k4 => k_asm); (case k5 => k_mem); (case k6 => k_asm); (case k7 => exact rfl); (case k8 => ktr_room); (case k9 => ktr_units); (case k10 => first | assumption | omega | (simp only [List.length_append, List.length_cons, List.length_nil]; omega)); (case k11 => first | assumption | omega | (simp only [List.length_append, List.length_cons, List.length_nil]; omega) | decide); k_whole; intro h'q tk'q k'q t1'q t2'q F'q N'q; (try k_sweep))) | (k_here; (k_dflt (show wpAny _ _ (call (Value.ref 151) [Value.ref _, Value.int _ _]) _ _ _)); k_dflt (refine' popf_w ?k0 ?k1 ?k2 ?k3 ?k4 ?k5 ?k6 ?k7 ?k8 ?k9 ?k10 ?k11 ?_; (case k0 => k_asm); (case k1 => k_asm); (case k2 => k_asm); (case k3 => k_asm); (case k4 => k_asm); (case k5 => k_asm); (case k6 => exact rfl); (case k7 => ktr_room); (case k8 => ktr_units); (case k9 => assumption); (case k10 => first | assumption | omega | (simp only [List.length_append, List.length_cons, List.length_nil]; omega)); (case k11 => first | assumption | omega | (simp only [List.length_append, List.length_cons, List.length_nil]; omega)); k_whole; intro l'q h'q tk'q k'q F'q N'q O'q W'q W2'q; (try k_sweep))) | (k_here; (k_dflt (show wpAny _ _ (call (Value.ref 159) [Value.ref _]) _ _ _)); k_dflt (refine' pop_w ?k0 ?k1 ?k2 ?k3 ?k4 ?k5 ?k6 ?k7 ?k8 ?k9 ?k10 ?_; (case k0 => k_asm); (case k1 => k_asm); (case k2 => k_asm); (case k3 => k_asm); (case k4 => k_asm); (case k5 => k_asm); (case k6 => exact rfl); (case k7 => ktr_room); (case k8 => ktr_units); (case k9 => assumption); (case k10 => first | assumption | omega | (simp only [List.length_append, List.length_cons, List.length_nil]; omega)); k_whole; intro h'q tk'q k'q F'q N'q W'q hm'q; (try k_sweep))) | (k_here; (k_dflt (show wpAny _ _ (call (Value.ref 143) [Value.ref _, Value.str _ _, Value.str _ _]) _ _ _)); k_dflt (refine' push_w ?k0 ?k1 ?k2 ?k3 ?k4 ?k5 ?k6 ?k7 ?k8 ?k9 ?k10 ?k11 ?_; (case k0 => k_asm); (case k1 => k_asm); (case k2 => k_asm); (case k3 => k_asm); (case k4 => k_asm); (case k5 => k_asm); (case k6 => exact rfl); (case k7 => ktr_room); (case k8 => ktr_units); (case k9 => assumption); (case k10 => first | assumption | omega); (case k11 => first | assumption | omega | (simp only [List.length_append, List.length_cons, List.length_nil]; omega)); k_whole; intro t'q h'q tk'q k'q F'q N'q O'q W'q; (try k_sweep)))) | walk1 | (dsimp only; walk1) | (leave1; walk_say "STEP leave1"; try dsimp only) | fail "no step")
  · exfalso
    rename sumLen _ > _ => z
    rw [sumLen_push] at z; dsimp only at z
    omega
  · rename Fr _ _ _ _ => Fz; rename News _ _ _ _ => Nz; rename Off7 _ _ _ _ _ (_ :: _) => Oz; rename Wds (_ ++ _) _ => Wz
    refine hret _ _ _ _ _ _ ?_ ?_ Fz Nz Oz Wz
    · assumption
    · assumption
end
section
theorem calm53 {M : PySem.Model} {A : PySem.Around} {Q : Unit → PySem.Shared → Prop} {E : PySem.Value → PySem.Shared → Prop} {s : PySem.Shared} (h : Q () s) : PySem.wpAny M A (pure ()) Q E s := by
  w_top off
  first | (walk1; done) | exact PySem.wpAny_pure h
theorem range_down {a : Int} (h : 0 < a) (h2 : a < 1000) : Builtin.Range.small a 0 (-1) = true ∧ 0 < Builtin.Range.rangeSize a 0 (-1) := by
  have e : Builtin.Range.rangeSize a 0 (-1) = a := by
    simp only [Builtin.Range.rangeSize]
    rw [if_neg (by decide), if_pos (by omega)]
    simp
  refine ⟨?_, by rw [e]; exact h⟩
  simp only [Builtin.Range.small, e, Builtin.Range.rangeFitsLong, Bool.and_eq_true, Bool.or_eq_true, decide_eq_true_eq, beq_iff_eq]
  refine ⟨⟨⟨⟨⟨by omega, by omega⟩, by omega, by omega⟩, by omega, by omega⟩, by omega, by omega⟩, Or.inr ?_⟩
  rw [if_neg (by decide)]
  simp only [Bool.and_eq_true, decide_eq_true_eq]
  omega
theorem refs_prev (us vs : List (Addr × Str × Tok × Tok)) (u : Addr × Str × Tok × Tok) {k : Int} (h : k = us.length) : (refsOf (us ++ [u] ++ vs))[k.toNat]? = some (.ref u.1) := by
  subst h
  simp [refsOf]
theorem last_pos {x : Str} (h : x.cps.back? = some 59) : 0 < x.length := by
  show 0 < x.cps.size
  rcases Nat.eq_zero_or_pos x.cps.size with e | e
  · rw [Array.back?_eq_getElem?, e] at h
    rw [Array.getElem?_eq_none (by omega)] at h; cases h
  · exact e
theorem last_item {x : Str} (h : x.cps.back? = some 59) : Txt.item x (-1) = ⟨#[59]⟩ := by
  have hp : 0 < x.cps.size := last_pos h
  rw [Array.back?_eq_getElem?] at h
  have h1 : x.length = x.cps.size := rfl
  unfold Txt.item Txt.charAt
  have e : PySem.seqIndex? (-1) x.length = some (x.cps.size - 1) := by
    unfold PySem.seqIndex?
    rw [h1]
    simp only [show ((-1 : Int) < 0) from by decide, if_true]
    rw [if_pos (by rw [decide_eq_true (by omega), decide_eq_true (by omega)]; rfl)]
    congr 1; omega
  rw [e]
  simp [h]
local macro_rules | `(tactic| walk_at "exec For Name Attribute cons cons") => `(tactic| (k_here; (refine' For_first ?_ ?hs ?hE; (case hs => (intro _; exact rfl)); (case hE => passes_own); k_whole)))
local macro_rules | `(tactic| walk_at "exec For Name Call cons cons") => `(tactic| (k_here; (refine' For_first ?_ ?hs ?hE; (case hs => (intro _; exact rfl)); (case hE => passes_own); k_whole)))
theorem chunk_over {w : World} {p : Program} {loose : List Str} {mean : ExcName → Option Value} {mg mb : Str → Option Value}
  {dp un : Nat} {gd : Option (List Code)} {cn : Str} {cs : Scope} {a : Addr} {ccd : Value} {cl : List (Str × Addr)} {outer : List Env} {A₀ : Around} {base h₀ : Heap} {L : Addr} {m : Str → Option Value} {s : Shared} {Q : Value → Shared → Prop} {E : Value → Shared → Prop}
  {o1 o2 : Obj} {fo fd ll ac da : Addr} {tl : List (Addr × Obj)} {us : List (Addr × Str × Tok × Tok)} {u : Addr × Str × Tok × Tok} {k : Nat} {t1 t2 : Tok} (O : Off7 fo fd ll ac da (tup2 u :: tl))
  {es : List DictEntry} {en : Nat} {lvs : Array Value} {ln : Nat} {mx : Int} {tm ts : Tok}
  (B : Below A₀ base outer h₀) (F : Fr h₀ L s.heap m) (X : (heap39 w.params).In h₀)
  (N : News h₀ L s.heap ((161, o1) :: (168, o2) :: (fo, instObj 115 fd) :: (fd, dictOf es en) :: (ll, listOf lvs ln) :: (ac, accObj 199 da (refsOf (us ++ [u])) k) :: (da, iniOf w.params t1 t2) :: tup2 u :: tl))
  (T : Top p loose mean mg mb h₀) (hk : cs.kind = .function) (hd' : dp + 120 < recursionLimit) (hu : un + 900 < cLine)
  (g1 : getL "_current_line" es = some (some (.ref ac))) (g2 : getL "_maxlen" es = some (some (.int mx tm))) (g3 : getL "_splitchars" es = some (some (.str (Str.ofString ";") ts))) (g4 : getL "_lines" es = some (some (.ref ll)))
  (n1 : getL "_append_chunk" es = some none)
  (htab : Tab o1) (htab2 : Tab o2) (W : Wds (us ++ [u]) (tup2 u :: tl)) (hz : us.length < 90) {x : Str} {tf tx : Tok} (hx : x.length ≤ 100) (hfit : mx < sumLen (us ++ [u]) + x.length) (hlast : u.2.1.cps.back? = some 59) (hlz : lvs.size < 500)
  (hret : ∀ (t l : Addr) (h' : Heap) (gg : Array GenState) (tk' k' ln' : Nat) (o1' o2' : Obj) (t1' t2' tq : Tok), Tab o1' → Tab o2' → GenMoved s.gens gg → Fr h₀ L h' m →
    News h₀ L h' ((161, o1') :: (168, o2') :: (fo, instObj 115 fd) :: (fd, dictOf es en) :: (ll, listOf (lvs.push (.str (flatS ((us ++ [u]).map fun t => t.2.1)) tq)) ln') :: (ac, accObj 199 da (refsOf [(t, x, tf, tx)]) k') :: (da, iniOf w.params t1' t2') :: (l, listOf (refsOf [(t, x, tf, tx)]) 0) :: (t, tupOf #[.str (Str.ofString "") tf, .str x tx]) :: tup2 u :: tl) →
    Off7 fo fd ll ac da ((l, listOf (refsOf [(t, x, tf, tx)]) 0) :: (t, tupOf #[.str (Str.ofString "") tf, .str x tx]) :: tup2 u :: tl) →
    Q .none { s with heap := h', gens := gg, toks := tk' }) :
   wpAny (model PP w) (ktrTop dp un gd cn cs L a ccd cl outer) (call (.ref (nat_lit 112)) [.ref fo, .str (Str.ofString "") tf, .str x tx]) Q E s := by
  have _k : (fun (_ : OpenLaw) => True) PySem.Challenge.rw_tc0068_02 ∧ heap39 = heap39 := by
    k_fill
    exact ⟨trivial, rfl⟩
  clear _k
  have O' := O
  obtain ⟨c1, c2, c3, c4, c5, u1, u2, u3, u4, u5, u6, u7⟩ := O
  have hul : u.2.1.length ≤ 100 := W.len u (by simp)
  have hup : 0 < u.2.1.length := last_pos hlast
  have hit : Txt.item u.2.1 (-1) = ⟨#[59]⟩ := last_item hlast
  refine wpAny_call ?_
  refine' code_def ?k1 ?k2 ?k3 ?k4 ?k5 ?kA ?kF ?kK ?k6 ?k7 ?k8 ?k9 ?kB ?_ ?c2 ?c3 ?c4 ?c5; (case kA => exact rfl); (case kF => exact rfl); (case kK => assumption); (case k1 => k_asm); (case k2 => k_asm); (case k3 => k_asm); (case k4 => k_asm); (case k5 => k_asm); (case k6 => k_is); (case k7 => k_is); (case k8 => ktr_room); (case k9 => exact BindsTo.of_eq rfl); (case c5 => decide); (case kB => exact locs rfl); (case c2 => exact rfl); (case c3 => exact rfl); (case c4 => exact rfl); k_whole; intro g' L' h' FG' F' N' B' X' T'; (try dsimp only); (try k_lift B'); (try k_fold)
  repeat' (first | (k_unfold; (try dsimp only)) | (k_end; wrow_close) | (k_here; (with_reducible show wpAny _ _ (subscriptTail _ _ (Value.ref _) (Value.int _ _)) _ _ _); k_dflt (refine' item_A ?k1 ?k2 ?k4 ?k5 ?k6 ?k7 ?h0 ?h1 ?hv ?_ ?k10 ?k11; (case k1 => k_asm); (case k2 => k_asm); (case k4 => k_inst); (case k5 => k_is); (case k6 => kernel_rfl); (case k7 => k_is); (case hv => exact refs_prev _ _ _ (by simp only [List.length_append, List.length_cons, List.length_nil]; omega)); (case h0 => (simp only [List.length_append, List.length_cons, List.length_nil]; omega)); (case h1 => (simp only [List.length_append, List.length_cons, List.length_nil]; omega)); (case k10 => exact rfl); (case k11 => intro _; exact rfl); k_whole)) | ((with_reducible show wpAny _ _ (pyIter (Value.ref _)) _ _ _); (k_here; k_dflt (refine' first_range ?F ?N ?hr ?hsm ?hpos ?_; (case F => k_asm); (case N => k_asm); (case hr => assumption); (case hsm => exact (range_down (by simp only [List.length_append, List.length_cons, List.length_nil]; omega) (by simp only [List.length_append, List.length_cons, List.length_nil]; omega)).1); (case hpos => exact (range_down (by simp only [List.length_append, List.length_cons, List.length_nil]; omega) (by simp only [List.length_append, List.length_cons, List.length_nil]; omega)).2); k_whole; intro h'q tk'q F'q N'q; refine ⟨_, rfl, ?_⟩; (try k_sweep)))) | ((with_reducible show wpAny _ _ (pyIter (Value.str _ _)) _ _ _); (k_here; k_dflt (refine' first_str (c := 59) ?F ?N ?ha ?hx ?_; (case F => k_asm); (case N => k_asm); (case ha => decide +kernel); (case hx => rfl); k_whole; intro h'q tk'q F'q N'q; refine ⟨_, rfl, ?_⟩; (try k_sweep)))) | (k_here; (with_reducible show wpAny _ _ (call (Value.type "str") [Value.ref _]) _ _ _); k_dflt (refine' kso_call ?k1 ?k2 ?k3 ?k4 ?k5 ?_; (case k1 => ktr_units); (case k2 => k_in); (case k3 => k_inst); (case k4 => k_is); (case k5 => k_is); k_whole)) | ((with_reducible show wpAny _ _ (call (Value.ref _) _) _ _ _); first | (k_here; (k_dflt (show wpAny _ _ (call (Value.ref 188) [Value.ref _]) _ _ _)); k_dflt (refine' ows_call ?k0 ?k1 ?k2 ?k3 ?k4 ?k5 ?k6 ?k7 ?k8 ?k9 ?k10 ?k11 ?k12 ?k13 ?k14 ?_; (case k0 => k_asm); (case k1 => k_asm); (case k2 => k_asm); (case k3 => k_asm); (case k4 => k_asm); (case k5 => k_asm); (case k6 => exact rfl); (case k7 => ktr_room); (case k8 => ktr_units); (case k9 => assumption); (case k10 => assumption); (case k11 => exact Wds.mem (by assumption)); (case k12 => first | omega | (refine Nat.lt_trans (b := 99) ?_ (by decide); assumption) | (simp only [List.length_append, List.length_cons, List.length_nil]; omega) | omega); (case k13 => exact Wds.len (by assumption)); (case k14 => first | assumption | omega); k_whole; intro h'q gg'q tk'q o1'q o2'q ht1'q ht2'q gm'q F'q N'q; (try k_sweep))) | (k_here; (k_dflt (show wpAny _ _ (call (Value.ref 173) [Value.ref _]) _ _ _)); k_dflt (refine' str_call ?k0 ?k1 ?k2 ?k3 ?k4 ?k5 ?k6 ?k7 ?k8 ?k9 ?k10 ?k11 ?k12 ?_; (case k0 => k_asm); (case k1 => k_asm); (case k2 => k_asm); (case k3 => k_asm); (case k4 => k_asm); (case k5 => k_asm); (case k6 => exact rfl); (case k7 => ktr_room); (case k8 => ktr_units); (case k9 => assumption); (case k10 => exact Wds.mem (by assumption)); (case k11 => first | omega | (refine Nat.lt_trans (b := 99) ?_ (by decide); assumption) | (simp only [List.length_append, List.length_cons, List.length_nil]; omega) | omega); (case k12 => exact Wds.len (by assumption)); k_whole; intro h'q gg'q tk'q o2'q t'q ht'q gm'q F'q N'q; (try k_sweep); (try dsimp only [PySem.W.StrBack]))) | (k_here; (k_dflt (show wpAny _ _ (call (Value.ref 166) [Value.ref _]) _ _ _)); k_dflt (refine' len_call ?k0 ?k1 ?k2 ?k3 ?k4 ?k5 ?k6 ?k7 ?k8 ?k9 ?k10 ?k11 ?k12 ?_; (case k0 => k_asm); (case k1 => k_asm); (case k2 => k_asm); (case k3 => k_asm); (case k4 => k_asm); (case k5 => k_asm); (case k6 => exact rfl); (case k7 => ktr_room); (case k8 => ktr_units); (case k9 => assumption); (case k10 => exact Wds.mem (by assumption)); (case k11 => first | omega | (refine Nat.lt_trans (b := 99) ?_ (by decide); assumption) | (simp only [List.length_append, List.length_cons, List.length_nil]; omega) | omega); (case k12 => exact Wds.len (by assumption)); k_whole; intro h'q gg'q tk'q o1'q t'q ht'q gm'q F'q N'q; (try k_sweep); (try dsimp only [PySem.W.LenBack]); (try (refine ⟨⟨sumLen_nonneg _, sumLen_lt _ (by first | omega | (refine Nat.lt_trans (b := 99) ?_ (by decide); assumption) | (simp only [List.length_append, List.length_cons, List.length_nil]; omega) | omega) (by exact Wds.len (by assumption))⟩, ?_⟩)))) | (k_here; (k_dflt (show wpAny _ _ (call (Value.ref 196) [Value.ref _]) _ _ _)); k_dflt (refine' count_w ?k0 ?k1 ?k2 ?k3 ?k4 ?k5 ?k6 ?k7 ?k8 ?k9 ?_; (case k0 => k_asm); (case k1 => k_asm); (case k2 => k_asm); (case k3 => k_asm); (case k4 => k_asm); (case k5 => k_asm); (case k6 => exact rfl); (case k7 => ktr_room); (case k8 => ktr_units); (case k9 => first | assumption | omega | (simp only [List.length_append, List.length_cons, List.length_nil]; omega)); k_whole; intro h'q t'q tk'q F'q N'q; (try k_sweep))) | (k_here; (k_dflt (show wpAny _ _ (call (Value.ref 181) [Value.ref _]) _ _ _)); k_dflt (refine' reset0_call ?k0 ?k1 ?k2 ?k3 ?k4 ?k5 ?k6 ?k7 ?k8 ?k9 ?_; (case k0 => k_asm); (case k1 => k_asm); (case k2 => k_asm); (case k3 => k_asm); (case k4 => k_asm); (case k5 => k_asm); (case k6 => exact rfl); (case k7 => ktr_room); (case k8 => ktr_units); (case k9 => (rw [refsOf_size]; first | omega | (simp only [List.length_append, List.length_cons, List.length_nil]; omega))); k_whole; intro h'q tk'q k'q t1'q t2'q F'q N'q; (try k_sweep))) | (k_here; (k_dflt (show wpAny _ _ (call (Value.ref 181) [Value.ref _, Value.ref _]) _ _ _)); k_dflt (refine' reset_w ?k0 ?k1 ?k2 ?k3 ?k4 ?k5 ?k6 ?k7 ?k8 ?k9 ?k10 ?k11 ?_; (case k0 => k_asm); (case k1 => k_asm); (case k2 => k_asm); (case k3 => k_asm); (case k4 => k_asm); (case k5 => k_mem); (case k6 => k_asm); (case k7 => exact rfl); (case k8 => ktr_room); (case k9 => ktr_units); (case k10 => first | assumption | omega | (simp only [List.length_append, List.length_cons, List.length_nil]; omega)); (case k11 => first | assumption | omega | (simp only [List.length_append, List.length_cons, List.length_nil]; omega) | decide); k_whole; intro h'q tk'q k'q t1'q t2'q F'q N'q; (try k_sweep))) | (k_here; (k_dflt (show wpAny _ _ (call (Value.ref 151) [Value.ref _, Value.int _ _]) _ _ _)); k_dflt (refine' popf_w ?k0 ?k1 ?k2 ?k3 ?k4 ?k5 ?k6 ?k7 ?k8 ?k9 ?k10 ?k11 ?_; (case k0 => k_asm); (case k1 => k_asm); (case k2 => k_asm); (case k3 => k_asm); (case k4 => k_asm); (case k5 => k_asm); (case k6 => exact rfl); (case k7 => ktr_room); (case k8 => ktr_units); (case k9 => assumption); (case k10 => first | assumption | omega | (simp only [List.length_append, List.length_cons, List.length_nil]; omega)); (case k11 => first | assumption | omega | (simp only [List.length_append, List.length_cons, List.length_nil]; omega)); k_whole; intro l'q h'q tk'q k'q F'q N'q O'q W'q W2'q; (try k_sweep))) | (k_here; (k_dflt (show wpAny _ _ (call (Value.ref 159) [Value.ref _]) _ _ _)); k_dflt (refine' pop_w ?k0 ?k1 ?k2 ?k3 ?k4 ?k5 ?k6 ?k7 ?k8 ?k9 ?k10 ?_; (case k0 => k_asm); (case k1 => k_asm); (case k2 => k_asm); (case k3 => k_asm); (case k4 => k_asm); (case k5 => k_asm); (case k6 => exact rfl); (case k7 => ktr_room); (case k8 => ktr_units); (case k9 => assumption); (case k10 => first | assumption | omega | (simp only [List.length_append, List.length_cons, List.length_nil]; omega)); k_whole; intro h'q tk'q k'q F'q N'q W'q hm'q; (try k_sweep))) | (k_here; (k_dflt (show wpAny _ _ (call (Value.ref 143) [Value.ref _, Value.str _ _, Value.str _ _]) _ _ _)); k_dflt (refine' push_w ?k0 ?k1 ?k2 ?k3 ?k4 ?k5 ?k6 ?k7 ?k8 ?k9 ?k10 ?k11 ?_; (case k0 => k_asm); (case k1 => k_asm); (case k2 => k_asm); (case k3 => k_asm); (case k4 => k_asm); (case k5 => k_asm); (case k6 => exact rfl); (case k7 => ktr_room); (case k8 => ktr_units); (case k9 => assumption); (case k10 => first | assumption | omega); (case k11 => first | assumption | omega | (simp only [List.length_append, List.length_cons, List.length_nil]; omega)); k_whole; intro t'q h'q tk'q k'q F'q N'q O'q W'q; (try k_sweep)))) | walk1 | (dsimp only; walk1) | (leave1; walk_say "STEP leave1"; try dsimp only) | fail "no step")
  · rename Fr _ _ _ _ => Fz; rename News _ _ _ _ => Nz; rename Off7 _ _ _ _ _ (_ :: _ :: _) => Oz
    exact hret _ _ _ _ _ _ _ _ _ _ _ _ ‹_› ‹_› (GenMoved.trans ‹_› ‹_›) Fz Nz Oz
  · exfalso
    rename (_ == _) = false => z
    rw [hit] at z
    exact absurd z (by decide +kernel)
  · exfalso
    rename ¬ (_ < sumLen _) => z
    rw [sumLen_push] at z; dsimp only at z
    omega
end
section
theorem calm54 {M : PySem.Model} {A : PySem.Around} {Q : Unit → PySem.Shared → Prop} {E : PySem.Value → PySem.Shared → Prop} {s : PySem.Shared} (h : Q () s) : PySem.wpAny M A (pure ()) Q E s := by
  w_top off
  first | (walk1; done) | exact PySem.wpAny_pure h
theorem ows_f {w : World} {p : Program} {loose : List Str} {mean : ExcName → Option Value} {mg mb : Str → Option Value}
  {dp un : Nat} {gd : Option (List Code)} {cn : Str} {cs : Scope} {a : Addr} {ccd : Value} {cl : List (Str × Addr)} {outer : List Env} {A₀ : Around} {base h₀ : Heap} {L : Addr} {m : Str → Option Value} {s : Shared} {Q : Value → Shared → Prop} {E : Value → Shared → Prop}
  {o1 o2 fob fdb llb : Obj} {fo fd ll ac da : Addr} {tl : List (Addr × Obj)} {tvs : List (Addr × Str × Tok × Tok)} {k : Nat} {t1 t2 : Tok} (O : Off7 fo fd ll ac da tl)
  (B : Below A₀ base outer h₀) (F : Fr h₀ L s.heap m) (X : (heap39 w.params).In h₀)
  (N : News h₀ L s.heap ((161, o1) :: (168, o2) :: (fo, fob) :: (fd, fdb) :: (ll, llb) :: (ac, accObj 199 da (refsOf tvs) k) :: (da, iniOf w.params t1 t2) :: tl))
  (T : Top p loose mean mg mb h₀) (hk : cs.kind = .function) (hd' : dp + 80 < recursionLimit) (hu : un + 600 < cLine)
  (htab : Tab o1) (htab2 : Tab o2) (htv : ∀ t ∈ tvs, tup2 t ∈ tl) (hz : tvs.length < 100) (hz2 : ∀ t ∈ tvs, t.2.1.length ≤ 100) (hpos : 0 < sumLen tvs) (hns : Txt.isspace (flatS (tvs.map fun t => t.2.1)) = false)
  (hret : ∀ (h' : Heap) (gg : Array GenState) (tk' : Nat) (o1' o2' : Obj), Tab o1' → Tab o2' → GenMoved s.gens gg → Fr h₀ L h' m → News h₀ L h' ((161, o1') :: (168, o2') :: (fo, fob) :: (fd, fdb) :: (ll, llb) :: (ac, accObj 199 da (refsOf tvs) k) :: (da, iniOf w.params t1 t2) :: tl) → Q (.bool false) { s with heap := h', gens := gg, toks := tk' }) :
   wpAny (model PP w) (ktrTop dp un gd cn cs L a ccd cl outer) (call (.ref (nat_lit 188)) [.ref ac]) Q E s:=
  ows_call O B F X N T hk hd' hu htab htab2 htv hz hz2 hpos (by rw [hns]; exact hret)
theorem newline_call {w : World} {p : Program} {loose : List Str} {mean : ExcName → Option Value} {mg mb : Str → Option Value}
  {dp un : Nat} {gd : Option (List Code)} {cn : Str} {cs : Scope} {a : Addr} {ccd : Value} {cl : List (Str × Addr)} {outer : List Env} {A₀ : Around} {base h₀ : Heap} {L : Addr} {m : Str → Option Value} {s : Shared} {Q : Value → Shared → Prop} {E : Value → Shared → Prop}
  {o1 o2 : Obj} {fo fd ll ac da : Addr} {tl : List (Addr × Obj)} {us : List (Addr × Str × Tok × Tok)} {u : Addr × Str × Tok × Tok} {k : Nat} {t1 t2 : Tok} (O : Off7 fo fd ll ac da (tup2 u :: tl))
  {es : List DictEntry} {en : Nat} {lvs : Array Value} {ln : Nat}
  (B : Below A₀ base outer h₀) (F : Fr h₀ L s.heap m) (X : (heap39 w.params).In h₀)
  (N : News h₀ L s.heap ((161, o1) :: (168, o2) :: (fo, instObj 115 fd) :: (fd, dictOf es en) :: (ll, listOf lvs ln) :: (ac, accObj 199 da (refsOf (us ++ [u])) k) :: (da, iniOf w.params t1 t2) :: tup2 u :: tl))
  (T : Top p loose mean mg mb h₀) (hk : cs.kind = .function) (hd' : dp + 120 < recursionLimit) (hu : un + 900 < cLine)
  (g1 : getL "_current_line" es = some (some (.ref ac))) (g4 : getL "_lines" es = some (some (.ref ll)))
  (htab : Tab o1) (htab2 : Tab o2) (W : Wds (us ++ [u]) (tup2 u :: tl)) (hz : us.length < 90) (hpos : 0 < sumLen (us ++ [u])) (hns : Txt.isspace (flatS ((us.map fun t => t.2.1) ++ [u.2.1])) = false) (hlz : lvs.size < 500)
  (hret : ∀ (t : Addr) (h' : Heap) (gg : Array GenState) (tk' k' ln' : Nat) (o1' o2' : Obj) (t1' t2' tq : Tok), Tab o1' → Tab o2' → GenMoved s.gens gg → Fr h₀ L h' m →
    News h₀ L h' ((161, o1') :: (168, o2') :: (fo, instObj 115 fd) :: (fd, dictOf es en) :: (ll, listOf (lvs.push (.str (flatS ((us.map fun t => t.2.1) ++ [u.2.1])) tq)) ln') :: (ac, accObj 199 da #[] k') :: (da, iniOf w.params t1' t2') :: (t, tupOf #[.str (Str.ofString "") u.2.2.1, .str u.2.1 u.2.2.2]) :: tup2 u :: tl) →
    Off7 fo fd ll ac da ((t, tupOf #[.str (Str.ofString "") u.2.2.1, .str u.2.1 u.2.2.2]) :: tup2 u :: tl) →
    Q .none { s with heap := h', gens := gg, toks := tk' }) :
   wpAny (model PP w) (ktrTop dp un gd cn cs L a ccd cl outer) (call (.ref (nat_lit 77)) [.ref fo]) Q E s := by
  have _k : (fun (_ : OpenLaw) => True) PySem.Challenge.rw_tc0068_02 ∧ heap39 = heap39 := by
    k_fill
    exact ⟨trivial, rfl⟩
  clear _k
  have O' := O
  obtain ⟨c1, c2, c3, c4, c5, u1, u2, u3, u4, u5, u6, u7⟩ := O
  have hul : u.2.1.length ≤ 100 := W.len u (by simp)
  have hpos2 : 0 < sumLen (us ++ [u]) := hpos
  refine wpAny_call ?_
  refine' code_def ?k1 ?k2 ?k3 ?k4 ?k5 ?kA ?kF ?kK ?k6 ?k7 ?k8 ?k9 ?kB ?_ ?c2 ?c3 ?c4 ?c5; (case kA => exact rfl); (case kF => exact rfl); (case kK => assumption); (case k1 => k_asm); (case k2 => k_asm); (case k3 => k_asm); (case k4 => k_asm); (case k5 => k_asm); (case k6 => k_is); (case k7 => k_is); (case k8 => ktr_room); (case k9 => exact BindsTo.of_eq rfl); (case c5 => decide); (case kB => exact locs rfl); (case c2 => exact rfl); (case c3 => exact rfl); (case c4 => exact rfl); k_whole; intro g' L' h' FG' F' N' B' X' T'; (try dsimp only); (try k_lift B'); (try k_fold)
  repeat' (first | (k_unfold; (try dsimp only)) | (k_end; wrow_close) | ((with_reducible show wpAny _ _ (call (Value.ref _) _) _ _ _); first | (k_here; (k_dflt (show wpAny _ _ (call (Value.ref 188) [Value.ref _]) _ _ _)); k_dflt (refine' ows_f ?k0 ?k1 ?k2 ?k3 ?k4 ?k5 ?k6 ?k7 ?k8 ?k9 ?k10 ?k11 ?k12 ?k13 ?k14 ?k15 ?_; (case k0 => k_asm); (case k1 => k_asm); (case k2 => k_asm); (case k3 => k_asm); (case k4 => k_asm); (case k5 => k_asm); (case k6 => exact rfl); (case k7 => ktr_room); (case k8 => ktr_units); (case k9 => assumption); (case k10 => assumption); (case k11 => exact Wds.mem (by assumption)); (case k12 => first | omega | (refine Nat.lt_trans (b := 99) ?_ (by decide); assumption) | (simp only [List.length_append, List.length_cons, List.length_nil]; omega) | omega); (case k13 => exact Wds.len (by assumption)); (case k14 => first | assumption | omega); (case k15 => first | assumption | (rw [List.map_append]; assumption)); k_whole; intro h'q gg'q tk'q o1'q o2'q ht1'q ht2'q gm'q F'q N'q; (try k_sweep))) | ((with_reducible show wpAny _ _ (call (Value.ref _) _) _ _ _); (k_here; k_dflt (refine' call_meth (f := .ref (nat_lit 143)) ?k1 ?k2 ?_; (case k1 => k_asm); (case k2 => k_mem); refine' push_wc ?k0 ?k1 ?k2 ?k3 ?k4 ?k5 ?k6 ?k7 ?k8 ?k9 ?k10 ?k11 ?_; (case k0 => k_asm); (case k1 => k_asm); (case k2 => k_asm); (case k3 => k_asm); (case k4 => exact news_drop (news_drop (by k_asm))); (case k5 => k_asm); (case k6 => exact rfl); (case k7 => ktr_room); (case k8 => ktr_units); (case k9 => assumption); (case k10 => first | assumption | omega); (case k11 => first | assumption | omega | (simp only [List.length_append, List.length_cons, List.length_nil]; omega)); k_whole; intro t'q h'q tk'q k'q F'q N'q O'q W'q; (try k_sweep)))) | (k_here; (k_dflt (show wpAny _ _ (call (Value.ref 188) [Value.ref _]) _ _ _)); k_dflt (refine' ows_call ?k0 ?k1 ?k2 ?k3 ?k4 ?k5 ?k6 ?k7 ?k8 ?k9 ?k10 ?k11 ?k12 ?k13 ?k14 ?_; (case k0 => k_asm); (case k1 => k_asm); (case k2 => k_asm); (case k3 => k_asm); (case k4 => k_asm); (case k5 => k_asm); (case k6 => exact rfl); (case k7 => ktr_room); (case k8 => ktr_units); (case k9 => assumption); (case k10 => assumption); (case k11 => exact Wds.mem (by assumption)); (case k12 => first | omega | (refine Nat.lt_trans (b := 99) ?_ (by decide); assumption) | (simp only [List.length_append, List.length_cons, List.length_nil]; omega) | omega); (case k13 => exact Wds.len (by assumption)); (case k14 => first | assumption | omega); k_whole; intro h'q gg'q tk'q o1'q o2'q ht1'q ht2'q gm'q F'q N'q; (try k_sweep))) | (k_here; (k_dflt (show wpAny _ _ (call (Value.ref 173) [Value.ref _]) _ _ _)); k_dflt (refine' str_call ?k0 ?k1 ?k2 ?k3 ?k4 ?k5 ?k6 ?k7 ?k8 ?k9 ?k10 ?k11 ?k12 ?_; (case k0 => k_asm); (case k1 => k_asm); (case k2 => k_asm); (case k3 => k_asm); (case k4 => k_asm); (case k5 => k_asm); (case k6 => exact rfl); (case k7 => ktr_room); (case k8 => ktr_units); (case k9 => assumption); (case k10 => exact Wds.mem (by assumption)); (case k11 => first | omega | (refine Nat.lt_trans (b := 99) ?_ (by decide); assumption) | (simp only [List.length_append, List.length_cons, List.length_nil]; omega) | omega); (case k12 => exact Wds.len (by assumption)); k_whole; intro h'q gg'q tk'q o2'q t'q ht'q gm'q F'q N'q; (try k_sweep); (try dsimp only [PySem.W.StrBack]))) | (k_here; (k_dflt (show wpAny _ _ (call (Value.ref 166) [Value.ref _]) _ _ _)); k_dflt (refine' len_call ?k0 ?k1 ?k2 ?k3 ?k4 ?k5 ?k6 ?k7 ?k8 ?k9 ?k10 ?k11 ?k12 ?_; (case k0 => k_asm); (case k1 => k_asm); (case k2 => k_asm); (case k3 => k_asm); (case k4 => k_asm); (case k5 => k_asm); (case k6 => exact rfl); (case k7 => ktr_room); (case k8 => ktr_units); (case k9 => assumption); (case k10 => exact Wds.mem (by assumption)); (case k11 => first | omega | (refine Nat.lt_trans (b := 99) ?_ (by decide); assumption) | (simp only [List.length_append, List.length_cons, List.length_nil]; omega) | omega); (case k12 => exact Wds.len (by assumption)); k_whole; intro h'q gg'q tk'q o1'q t'q ht'q gm'q F'q N'q; (try k_sweep); (try dsimp only [PySem.W.LenBack]); (try (refine ⟨⟨sumLen_nonneg _, sumLen_lt _ (by first | omega | (refine Nat.lt_trans (b := 99) ?_ (by decide); assumption) | (simp only [List.length_append, List.length_cons, List.length_nil]; omega) | omega) (by exact Wds.len (by assumption))⟩, ?_⟩)))) | (k_here; (k_dflt (show wpAny _ _ (call (Value.ref 196) [Value.ref _]) _ _ _)); k_dflt (refine' count_w ?k0 ?k1 ?k2 ?k3 ?k4 ?k5 ?k6 ?k7 ?k8 ?k9 ?_; (case k0 => k_asm); (case k1 => k_asm); (case k2 => k_asm); (case k3 => k_asm); (case k4 => k_asm); (case k5 => k_asm); (case k6 => exact rfl); (case k7 => ktr_room); (case k8 => ktr_units); (case k9 => first | assumption | omega | (simp only [List.length_append, List.length_cons, List.length_nil]; omega)); k_whole; intro h'q t'q tk'q F'q N'q; (try k_sweep))) | (k_here; (k_dflt (show wpAny _ _ (call (Value.ref 181) [Value.ref _]) _ _ _)); k_dflt (refine' reset0_call ?k0 ?k1 ?k2 ?k3 ?k4 ?k5 ?k6 ?k7 ?k8 ?k9 ?_; (case k0 => k_asm); (case k1 => k_asm); (case k2 => k_asm); (case k3 => k_asm); (case k4 => k_asm); (case k5 => k_asm); (case k6 => exact rfl); (case k7 => ktr_room); (case k8 => ktr_units); (case k9 => (rw [refsOf_size]; first | omega | (simp only [List.length_append, List.length_cons, List.length_nil]; omega))); k_whole; intro h'q tk'q k'q t1'q t2'q F'q N'q; (try k_sweep))) | (k_here; (k_dflt (show wpAny _ _ (call (Value.ref 181) [Value.ref _, Value.ref _]) _ _ _)); k_dflt (refine' reset_w ?k0 ?k1 ?k2 ?k3 ?k4 ?k5 ?k6 ?k7 ?k8 ?k9 ?k10 ?k11 ?_; (case k0 => k_asm); (case k1 => k_asm); (case k2 => k_asm); (case k3 => k_asm); (case k4 => k_asm); (case k5 => k_mem); (case k6 => k_asm); (case k7 => exact rfl); (case k8 => ktr_room); (case k9 => ktr_units); (case k10 => first | assumption | omega | (simp only [List.length_append, List.length_cons, List.length_nil]; omega)); (case k11 => first | assumption | omega | (simp only [List.length_append, List.length_cons, List.length_nil]; omega) | decide); k_whole; intro h'q tk'q k'q t1'q t2'q F'q N'q; (try k_sweep))) | (k_here; (k_dflt (show wpAny _ _ (call (Value.ref 151) [Value.ref _, Value.int _ _]) _ _ _)); k_dflt (refine' popf_w ?k0 ?k1 ?k2 ?k3 ?k4 ?k5 ?k6 ?k7 ?k8 ?k9 ?k10 ?k11 ?_; (case k0 => k_asm); (case k1 => k_asm); (case k2 => k_asm); (case k3 => k_asm); (case k4 => k_asm); (case k5 => k_asm); (case k6 => exact rfl); (case k7 => ktr_room); (case k8 => ktr_units); (case k9 => assumption); (case k10 => first | assumption | omega | (simp only [List.length_append, List.length_cons, List.length_nil]; omega)); (case k11 => first | assumption | omega | (simp only [List.length_append, List.length_cons, List.length_nil]; omega)); k_whole; intro l'q h'q tk'q k'q F'q N'q O'q W'q W2'q; (try k_sweep))) | (k_here; (k_dflt (show wpAny _ _ (call (Value.ref 159) [Value.ref _]) _ _ _)); k_dflt (refine' pop_w ?k0 ?k1 ?k2 ?k3 ?k4 ?k5 ?k6 ?k7 ?k8 ?k9 ?k10 ?_; (case k0 => k_asm); (case k1 => k_asm); (case k2 => k_asm); (case k3 => k_asm); (case k4 => k_asm); (case k5 => k_asm); (case k6 => exact rfl); (case k7 => ktr_room); (case k8 => ktr_units); (case k9 => assumption); (case k10 => first | assumption | omega | (simp only [List.length_append, List.length_cons, List.length_nil]; omega)); k_whole; intro h'q tk'q k'q F'q N'q W'q hm'q; (try k_sweep))) | (k_here; (k_dflt (show wpAny _ _ (call (Value.ref 143) [Value.ref _, Value.str _ _, Value.str _ _]) _ _ _)); k_dflt (refine' push_w ?k0 ?k1 ?k2 ?k3 ?k4 ?k5 ?k6 ?k7 ?k8 ?k9 ?k10 ?k11 ?_; (case k0 => k_asm); (case k1 => k_asm); (case k2 => k_asm); (case k3 => k_asm); (case k4 => k_asm); (case k5 => k_asm); (case k6 => exact rfl); (case k7 => ktr_room); (case k8 => ktr_units); (case k9 => assumption); (case k10 => first | assumption | omega); (case k11 => first | assumption | omega | (simp only [List.length_append, List.length_cons, List.length_nil]; omega)); k_whole; intro t'q h'q tk'q k'q F'q N'q O'q W'q; (try k_sweep)))) | (k_here; (with_reducible show wpAny _ _ (callWith _ (Value.ref _) _ (backTo _ (starEach [Expr.Starred _ _] _)) []) _ _ _); k_dflt (refine' callWith_SM ?k0 ?k1 ?k2 ?k3 ?_; (case k0 => k_asm); (case k1 => k_asm); (case k2 => k_mem); (case k3 => k_is); k_whole)) | ((with_reducible show wpAny _ _ (getAttr (Value.ref _) _ _) _ _ _); (k_here; k_dflt (refine' get_bmL ?k1 ?k2 ?k3 ?k4 ?k5 ?k6 ?k7 ?k8 ?k9 ?ka ?kb ?kc ?kd ?ke ?_; (case k1 => k_asm); (case k2 => k_asm); (case k3 => k_asm); (case k4 => k_inst); (case k5 => k_is); (case k6 => k_is); (case k7 => k_is); (case k8 => k_is); (case k9 => k_is); (case ka => k_is); (case kb => k_is); (case kc => k_is); (case kd => decide +kernel); (case ke => exact rfl); k_whole; intro q'q h'q F'q N'q l1q; (try k_lt l1q)))) | (k_here; (with_reducible show wpAny _ _ (PySem.eval (Expr.Call (Expr.Attribute _ _ _) [Expr.Starred _ _] [] _) _) _ _ _); refine MethodCall_star ?_) | ((with_reducible show wpAny _ _ (compareOp CmpOp.NotEq (Value.ref _) (Value.ref _)) _ _ _); (k_here; k_dflt (refine' ne_tup ?N ?a ?b ?u ?e ?_; (case N => k_asm); (case a => k_mem); (case b => k_mem); (case u => ktr_units); (case e => decide +kernel); k_whole))) | (k_here; (with_reducible show wpAny _ _ (call (Value.type "str") [Value.ref _]) _ _ _); k_dflt (refine' kso_call ?k1 ?k2 ?k3 ?k4 ?k5 ?_; (case k1 => ktr_units); (case k2 => k_in); (case k3 => k_inst); (case k4 => k_is); (case k5 => k_is); k_whole)) | walk1 | (dsimp only; walk1) | (leave1; walk_say "STEP leave1"; try dsimp only) | fail "no step")
  · rename Fr _ _ _ _ => Fz; rename News _ _ _ _ => Nz; rename Off7 _ _ _ _ _ (_ :: _ :: _) => Oz
    rw [List.map_append] at Nz
    exact hret _ _ _ _ _ _ _ _ _ _ _ ‹_› ‹_› (GenMoved.trans (GenMoved.trans ‹_› ‹_›) ‹_›) Fz Nz Oz
  · exfalso
    rename ¬ (_ < sumLen _) => z
    rw [sumLen_push] at z hpos; dsimp only at z
    omega
end
end
section
theorem calm55 {M : PySem.Model} {A : PySem.Around} {Q : Unit → PySem.Shared → Prop} {E : PySem.Value → PySem.Shared → Prop} {s : PySem.Shared} (h : Q () s) : PySem.wpAny M A (pure ()) Q E s := by
  w_top off
  first | (walk1; done) | exact PySem.wpAny_pure h
theorem strsAre_app {vs : List Value} {ss : List Str} (h : StrsAre vs ss) (x : Str) (t : Tok) : StrsAre (vs ++ [.str x t]) (ss ++ [x]) := by
  induction h with
  | nil => exact .cons _ _ .nil
  | cons y u _ ih => exact .cons y u ih
theorem fstr_call {w : World} {p : Program} {loose : List Str} {mean : ExcName → Option Value} {mg mb : Str → Option Value}
  {dp un : Nat} {gd : Option (List Code)} {cn : Str} {cs : Scope} {a : Addr} {ccd : Value} {cl : List (Str × Addr)} {outer : List Env} {A₀ : Around} {base h₀ : Heap} {L : Addr} {m : Str → Option Value} {s : Shared} {Q : Value → Shared → Prop} {E : Value → Shared → Prop}
  {o1 o2 : Obj} {fo fd ll ac da : Addr} {tl : List (Addr × Obj)} {us : List (Addr × Str × Tok × Tok)} {u : Addr × Str × Tok × Tok} {k : Nat} {t1 t2 : Tok} (O : Off7 fo fd ll ac da (tup2 u :: tl))
  {es : List DictEntry} {en : Nat} {lvs : Array Value} {ln : Nat} {ss : List Str} {tn : Tok}
  (B : Below A₀ base outer h₀) (F : Fr h₀ L s.heap m) (X : (heap39 w.params).In h₀)
  (N : News h₀ L s.heap ((161, o1) :: (168, o2) :: (fo, instObj 115 fd) :: (fd, dictOf es en) :: (ll, listOf lvs ln) :: (ac, accObj 199 da (refsOf (us ++ [u])) k) :: (da, iniOf w.params t1 t2) :: tup2 u :: tl))
  (T : Top p loose mean mg mb h₀) (hk : cs.kind = .function) (hd' : dp + 160 < recursionLimit) (hu : un + 1200 < cLine)
  (g1 : getL "_current_line" es = some (some (.ref ac))) (g4 : getL "_lines" es = some (some (.ref ll))) (n1 : getL "newline" es = some none)
  (htab : Tab o1) (htab2 : Tab o2) (W : Wds (us ++ [u]) (tup2 u :: tl)) (hz : us.length < 90) (hpos : 0 < sumLen (us ++ [u])) (hns : Txt.isspace (flatS ((us.map fun t => t.2.1) ++ [u.2.1])) = false) (hlz : lvs.size < 500)
  (hss : StrsAre lvs.toList ss) (hsw : ((ss ++ [flatS ((us.map fun t => t.2.1) ++ [u.2.1])]).map (·.length)).sum + (ss ++ [flatS ((us.map fun t => t.2.1) ++ [u.2.1])]).length ≤ 1048576)
  (hret : ∀ (t : Addr) (h' : Heap) (gg : Array GenState) (tk' k' ln' : Nat) (o1' o2' : Obj) (t1' t2' tq tr : Tok), Tab o1' → Tab o2' → GenMoved s.gens gg → Fr h₀ L h' m →
    News h₀ L h' ((161, o1') :: (168, o2') :: (fo, instObj 115 fd) :: (fd, dictOf es en) :: (ll, listOf (lvs.push (.str (flatS ((us.map fun t => t.2.1) ++ [u.2.1])) tq)) ln') :: (ac, accObj 199 da #[] k') :: (da, iniOf w.params t1' t2') :: (t, tupOf #[.str (Str.ofString "") u.2.2.1, .str u.2.1 u.2.2.2]) :: tup2 u :: tl) →
    Off7 fo fd ll ac da ((t, tupOf #[.str (Str.ofString "") u.2.2.1, .str u.2.1 u.2.2.2]) :: tup2 u :: tl) →
    Q (.str (Txt.join (Str.ofString "\n") (ss ++ [flatS ((us.map fun t => t.2.1) ++ [u.2.1])])) tr) { s with heap := h', gens := gg, toks := tk' }) :
   wpAny (model PP w) (ktrTop dp un gd cn cs L a ccd cl outer) (call (.ref (nat_lit 63)) [.ref fo, .str (Str.ofString "\n") tn]) Q E s := by
  have _k : (fun (_ : OpenLaw) => True) PySem.Challenge.rw_tc0068_02 ∧ heap39 = heap39 := by
    k_fill
    exact ⟨trivial, rfl⟩
  clear _k
  have O' := O
  obtain ⟨c1, c2, c3, c4, c5, u1, u2, u3, u4, u5, u6, u7⟩ := O
  refine wpAny_call ?_
  refine' code_def ?k1 ?k2 ?k3 ?k4 ?k5 ?kA ?kF ?kK ?k6 ?k7 ?k8 ?k9 ?kB ?_ ?c2 ?c3 ?c4 ?c5; (case kA => exact rfl); (case kF => exact rfl); (case kK => assumption); (case k1 => k_asm); (case k2 => k_asm); (case k3 => k_asm); (case k4 => k_asm); (case k5 => k_asm); (case k6 => k_is); (case k7 => k_is); (case k8 => ktr_room); (case k9 => exact BindsTo.of_eq rfl); (case c5 => decide); (case kB => exact locs rfl); (case c2 => exact rfl); (case c3 => exact rfl); (case c4 => exact rfl); k_whole; intro g' L' h' FG' F' N' B' X' T'; (try dsimp only); (try k_lift B'); (try k_fold)
  repeat' (first | (k_unfold; (try dsimp only)) | (k_end; wrow_close) | (k_here; (k_dflt (show wpAny _ _ (call (Value.ref 77) [Value.ref _]) _ _ _)); k_dflt (refine' newline_call ?k0 ?k1 ?k2 ?k3 ?k4 ?k5 ?k6 ?k7 ?k8 ?k9 ?k10 ?k11 ?k12 ?k13 ?k14 ?k15 ?k16 ?k17 ?_; (case k0 => k_asm); (case k1 => k_asm); (case k2 => k_asm); (case k3 => k_asm); (case k4 => k_asm); (case k5 => k_asm); (case k6 => exact rfl); (case k7 => ktr_room); (case k8 => ktr_units); (case k9 => assumption); (case k10 => assumption); (case k11 => assumption); (case k12 => assumption); (case k13 => assumption); (case k14 => first | assumption | omega | (simp only [List.length_append, List.length_cons, List.length_nil]; omega)); (case k15 => assumption); (case k16 => assumption); (case k17 => assumption); k_whole; intro t'q h'q gg'q tk'q k'q ln'q o1'q o2'q t1'q t2'q tq'q ht1'q ht2'q gm'q F'q N'q O'q; (try k_sweep))) | walk1 | (dsimp only; walk1) | (leave1; walk_say "STEP leave1"; try dsimp only) | fail "no step")
  rename News _ _ _ _ => Ny
  refine join_listW (ys := ss ++ [flatS ((us.map fun t => t.2.1) ++ [u.2.1])]) (News.isList Ny (n := _) (by k_mem)) (by rw [Array.toList_push]; exact strsAre_app hss _ _) (by decide +kernel) hsw ?_
  intro tr tkr
  repeat' (first | (k_unfold; (try dsimp only)) | (k_end; wrow_close) | (k_here; (k_dflt (show wpAny _ _ (call (Value.ref 77) [Value.ref _]) _ _ _)); k_dflt (refine' newline_call ?k0 ?k1 ?k2 ?k3 ?k4 ?k5 ?k6 ?k7 ?k8 ?k9 ?k10 ?k11 ?k12 ?k13 ?k14 ?k15 ?k16 ?k17 ?_; (case k0 => k_asm); (case k1 => k_asm); (case k2 => k_asm); (case k3 => k_asm); (case k4 => k_asm); (case k5 => k_asm); (case k6 => exact rfl); (case k7 => ktr_room); (case k8 => ktr_units); (case k9 => assumption); (case k10 => assumption); (case k11 => assumption); (case k12 => assumption); (case k13 => assumption); (case k14 => first | assumption | omega | (simp only [List.length_append, List.length_cons, List.length_nil]; omega)); (case k15 => assumption); (case k16 => assumption); (case k17 => assumption); k_whole; intro t'q h'q gg'q tk'q k'q ln'q o1'q o2'q t1'q t2'q tq'q ht1'q ht2'q gm'q F'q N'q O'q; (try k_sweep))) | walk1 | (dsimp only; walk1) | (leave1; walk_say "STEP leave1"; try dsimp only) | fail "no step")
  rename Fr _ _ _ _ => Fz; rename News _ _ _ _ => Nz; rename Off7 _ _ _ _ _ (_ :: _ :: _) => Oz
  exact hret _ _ _ _ _ _ _ _ _ _ _ _ ‹_› ‹_› ‹_› Fz Nz Oz
end
section
theorem calm56 {M : PySem.Model} {A : PySem.Around} {Q : Unit → PySem.Shared → Prop} {E : PySem.Value → PySem.Shared → Prop} {s : PySem.Shared} (h : Q () s) : PySem.wpAny M A (pure ()) Q E s := by
  w_top off
  first | (walk1; done) | exact PySem.wpAny_pure h
noncomputable def wordI (n : Int) : Str := Txt.mul (Str.ofString "-") (n - 1) ++ Str.ofString ";"
noncomputable def wordsFrom (start i : Nat) : List Str := (List.range i).map fun j : Nat => wordI ((start : Int) + (j : Int))
noncomputable def laidOf (start : Nat) : Nat → Int
  | 0 => 0
  | i + 1 => laidOf start i + ((start : Int) + (i : Int))
theorem wordI_len {n : Int} (h : 1 ≤ n) : ((wordI n).length : Int) = n := by
  unfold wordI
  rw [PySem.Str.length_append, Int.natCast_add, len_mul, if_neg (by simp; omega)]
  have e1 : (Str.ofString "-").length = 1 := rfl
  have e2 : (Str.ofString ";").length = 1 := rfl
  rw [e1, e2]; omega
theorem wordI_back (n : Int) : (wordI n).cps.back? = some 59 := by
  have e : (wordI n).cps = (Txt.mul (Str.ofString "-") (n - 1)).cps ++ #[59] := rfl
  rw [e, ← Array.push_eq_append, Array.back?_push]
theorem wordsFrom_succ (start i : Nat) : wordsFrom start (i + 1) = wordsFrom start i ++ [wordI ((start : Int) + (i : Int))] := by
  simp [wordsFrom, List.range_succ]
theorem laid_nonneg (start : Nat) : ∀ i, 0 ≤ laidOf start i
  | 0 => by simp [laidOf]
  | i + 1 => by have := laid_nonneg start i; simp only [laidOf]; omega
theorem laid_ge (start i : Nat) (h : 1 ≤ start) : (i : Int) ≤ laidOf start i := by
  induction i with
  | zero => simp [laidOf]
  | succ i ih => simp only [laidOf]; omega
theorem sumLen_words {start : Nat} (hs : 1 ≤ start) : ∀ {i : Nat} {tvs : List (Addr × Str × Tok × Tok)}, tvs.map (fun t => t.2.1) = wordsFrom start i → sumLen tvs = laidOf start i := by
  intro i
  induction i with
  | zero =>
    intro tvs h
    have : tvs = [] := by simpa [wordsFrom] using h
    subst this; rfl
  | succ i ih =>
    intro tvs h
    rw [wordsFrom_succ] at h
    rcases List.eq_nil_or_concat tvs with rfl | ⟨us, u, rfl⟩
    · simp at h
    · rw [List.concat_eq_append] at h ⊢
      rw [List.map_append] at h
      obtain ⟨h1, h2⟩ := List.append_inj' h rfl
      rw [sumLen_push, ih h1]
      have e : u.2.1 = wordI ((start : Int) + (i : Int)) := by simpa using h2
      rw [e, wordI_len (by omega)]
      rfl
theorem words_len {start i : Nat} {tvs : List (Addr × Str × Tok × Tok)} (h : tvs.map (fun t => t.2.1) = wordsFrom start i) : tvs.length = i := by
  have := congrArg List.length h
  simpa [wordsFrom] using this
theorem words_snoc {start i : Nat} (hs : 1 ≤ start) {us : List (Addr × Str × Tok × Tok)} {u : Addr × Str × Tok × Tok} (h : (us ++ [u]).map (fun t => t.2.1) = wordsFrom start i) : u.2.1.cps.back? = some 59 := by
  cases i with
  | zero => simp [wordsFrom] at h
  | succ i =>
    rw [wordsFrom_succ, List.map_append] at h
    obtain ⟨h1, h2⟩ := List.append_inj' h rfl
    have e : u.2.1 = wordI ((start : Int) + (i : Int)) := by simpa using h2
    rw [e]; exact wordI_back _
theorem Fr_map {h₀ h : Heap} {L : Addr} {m m' : Str → Option Value} (F : Fr h₀ L h m) (e : ∀ y, m' y = m y) : Fr h₀ L h m' := by
  have : m' = m := funext e
  rw [this]; exact F
theorem Off7.snoc {fo fd ll ac da : Addr} {tl : List (Addr × Obj)} {x : Addr × Obj} (O : Off7 fo fd ll ac da tl) (a1 : x.1 ≠ 161) (a2 : x.1 ≠ 168) (a3 : x.1 ≠ fo) (a4 : x.1 ≠ fd) (a5 : x.1 ≠ ll) (a6 : x.1 ≠ ac) (a7 : x.1 ≠ da) : Off7 fo fd ll ac da (x :: tl) := by
  obtain ⟨c1, c2, c3, c4, c5, u1, u2, u3, u4, u5, u6, u7⟩ := O
  exact ⟨c1, c2, c3, c4, c5, List.forall_mem_cons.mpr ⟨a1, u1⟩, List.forall_mem_cons.mpr ⟨a2, u2⟩, List.forall_mem_cons.mpr ⟨a3, u3⟩, List.forall_mem_cons.mpr ⟨a4, u4⟩, List.forall_mem_cons.mpr ⟨a5, u5⟩, List.forall_mem_cons.mpr ⟨a6, u6⟩, List.forall_mem_cons.mpr ⟨a7, u7⟩⟩
theorem Off7.dup {fo fd ll ac da : Addr} {tl : List (Addr × Obj)} {x : Addr × Obj} (O : Off7 fo fd ll ac da tl) (h : x ∈ tl) : Off7 fo fd ll ac da (x :: tl) :=
  O.snoc (O.t1 x h) (O.t2 x h) (O.t3 x h) (O.t4 x h) (O.t5 x h) (O.t6 x h) (O.t7 x h)
theorem allLt_mem {d : Nat} {tl : List (Addr × Obj)} (h : AllLt d tl) : ∀ p ∈ tl, @LT.lt Nat _ p.1 d := by
  induction tl with
  | nil => exact fun p hp => nomatch hp
  | cons x t ih =>
    intro p hp
    rcases List.mem_cons.mp hp with e | hp
    · rw [e]; exact h.1
    · exact ih h.2 p hp
theorem allLt_up {d x : Addr} {tl : List (Addr × Obj)} (h : AllLt d tl) (e : @LE.le Nat _ d x) : ∀ p ∈ tl, p.1 ≠ x := fun p hp q => by
  have z : @LT.lt Nat _ p.1 d := allLt_mem h p hp
  rw [q] at z
  exact Nat.lt_irrefl _ (Nat.lt_of_lt_of_le z e)
structure FoldD (es : List DictEntry) (size : Nat) (tz : Tok) (ac ll : Addr) : Prop where
  g1 : getL "_current_line" es = some (some (.ref ac))
  g2 : getL "_maxlen" es = some (some (.int (size : Int) tz))
  g3 : ∃ ts, getL "_splitchars" es = some (some (.str (Str.ofString ";") ts))
  g4 : getL "_lines" es = some (some (.ref ll))
  n1 : getL "_append_chunk" es = some none
  n2 : getL "newline" es = some none
  n3 : getL "_str" es = some none
theorem fold_perm {h₀ h : Heap} {L : Addr} {a b x1 x2 x3 x4 x5 x6 x7 : Addr × Obj} {tl : List (Addr × Obj)} (N : News h₀ L h (a :: b :: x1 :: x2 :: x3 :: x4 :: x5 :: x6 :: x7 :: tl)) : News h₀ L h (x6 :: x7 :: x4 :: x5 :: x3 :: x1 :: x2 :: tl) := fun q hq => N q (by
  first | (revert q; (repeat (refine sub_cons (by repeat (first | exact List.mem_cons_self | apply List.mem_cons_of_mem)) ?_)); (first | exact (fun _ h => absurd h List.not_mem_nil) | (intro x9 hx9; repeat (first | exact hx9 | exact hs x9 hx9 | apply List.mem_cons_of_mem)))) | (simp only [List.mem_cons] at hq ⊢; rcases hq with h | h | h | h | h | h | h | h <;> simp [h]))
theorem fold_setup {h₀ h : Heap} {L : Addr} {a b : Addr × Obj} {ac da ll fo fd : Addr} {o1 o2 : Obj} {tl : List (Addr × Obj)} {es : List DictEntry} {en ln k : Nat} {P : Params} {t1 t2 : Tok} {size : Nat} {tz : Tok}
    (N : News h₀ L h (a :: b :: (ac, accObj 199 da #[] k) :: (da, iniOf P t1 t2) :: (ll, listOf #[] ln) :: (fo, instObj 115 fd) :: (fd, dictOf es en) :: (161, o1) :: (168, o2) :: tl)) (f : FoldD es size tz ac ll) :
    ∃ es en t1 t2 ln k, News h₀ L h ((161, o1) :: (168, o2) :: (fo, instObj 115 fd) :: (fd, dictOf es en) :: (ll, listOf #[] ln) :: (ac, accObj 199 da (refsOf []) k) :: (da, iniOf P t1 t2) :: tl) ∧ FoldD es size tz ac ll :=
  ⟨es, en, t1, t2, ln, k, fold_perm N, f⟩
noncomputable def FJ (P : Params) (start size : Nat) (tz : Tok) (fo fd ll ac da : Addr) (es : List DictEntry) (en : Nat) (tl : List (Addr × Obj)) (i : Nat) (m' : Str → Option Value) (news' : List (Addr × Obj)) : Prop :=
  ∃ (tvs : List (Addr × Str × Tok × Tok)) (k ln : Nat) (o1 o2 : Obj) (t1 t2 tL : Tok) (tl' : List (Addr × Obj)), news' = (161, o1) :: (168, o2) :: (fo, instObj 115 fd) :: (fd, dictOf es en) :: (ll, listOf #[] ln) :: (ac, accObj 199 da (refsOf tvs) k) :: (da, iniOf P t1 t2) :: tl' ∧
    Tab o1 ∧ Tab o2 ∧ Off7 fo fd ll ac da tl' ∧ Wds tvs tl' ∧ tvs.map (fun t => t.2.1) = wordsFrom start i ∧ laidOf start i ≤ (size : Int) ∧ m' "folder" = some (.ref fo) ∧ m' "laid" = some (.int (laidOf start i) tL) ∧ m' "size" = some (.int (size : Int) tz) ∧ ∀ q ∈ tl, q ∈ tl'
theorem news_move {h₀ h : Heap} {L : Addr} {x a b c d e f g : Addr × Obj} {tl : List (Addr × Obj)} (N : News h₀ L h (x :: a :: b :: c :: d :: e :: f :: g :: tl)) : News h₀ L h (a :: b :: c :: d :: e :: f :: g :: x :: tl) := fun q hq => N q (by
  first | (revert q; (repeat (refine sub_cons (by repeat (first | exact List.mem_cons_self | apply List.mem_cons_of_mem)) ?_)); (first | exact (fun _ h => absurd h List.not_mem_nil) | (intro x9 hx9; repeat (first | exact hx9 | exact hs x9 hx9 | apply List.mem_cons_of_mem)))) | (simp only [List.mem_cons] at hq ⊢; rcases hq with h | h | h | h | h | h | h | h | h <;> simp [h]))
theorem range_up {a b : Nat} (h1 : 1 ≤ a) (h2 : a ≤ b) (h3 : b ≤ 100) : Builtin.Range.small (a : Int) ((b : Int) + 1) 1 = true ∧ Builtin.Range.rangeSize (a : Int) ((b : Int) + 1) 1 = ((b + 1 - a : Nat) : Int) := by
  have e : Builtin.Range.rangeSize (a : Int) ((b : Int) + 1) 1 = ((b + 1 - a : Nat) : Int) := by
    simp only [Builtin.Range.rangeSize]
    rw [if_pos (by decide), if_pos (by omega), Int.ediv_one]
    omega
  refine ⟨?_, e⟩
  have fl : ∀ z : Int, -1000 ≤ z → z ≤ 1000 → Builtin.Range.rangeFitsLong z = true := fun z a b => by
    unfold Builtin.Range.rangeFitsLong
    rw [decide_eq_true (by omega), decide_eq_true (by omega)]; rfl
  unfold Builtin.Range.small
  rw [e, fl _ (by omega) (by omega), fl _ (by omega) (by omega), fl 1 (by decide) (by decide), fl _ (by omega) (by omega), if_pos (by decide), fl _ (by omega) (by omega)]
  simp
theorem news_dup {h₀ h : Heap} {L : Addr} {x a b c d e f g : Addr × Obj} {tl : List (Addr × Obj)} (N : News h₀ L h (a :: b :: c :: d :: e :: f :: g :: tl)) (hx : x ∈ tl) : News h₀ L h (a :: b :: c :: d :: e :: f :: g :: x :: tl) := fun q hq => N q (by
  simp only [List.mem_cons] at hq ⊢
  rcases hq with h | h | h | h | h | h | h | h | h <;> simp [h, hx])
theorem news_ne {h₀ h : Heap} {L a b : Addr} {o1 o2 : Obj} {news : List (Addr × Obj)} (N : News h₀ L h news) (ha : (a, o1) ∈ news) (hb : (b, o2) ∈ news) (hc : o1.cls ≠ o2.cls) : a ≠ b := fun e => by
  subst e
  have z1 := (N _ ha).1
  have z2 := (N _ hb).1
  rw [z1] at z2
  cases z2
  exact hc rfl
theorem Off7.tail {fo fd ll ac da : Addr} {tl tl2 : List (Addr × Obj)} (O : Off7 fo fd ll ac da tl) (h : ∀ q ∈ tl2, q ∈ tl) : Off7 fo fd ll ac da tl2 :=
  ⟨O.c1, O.c2, O.c3, O.c4, O.c5, fun p hp => O.t1 p (h p hp), fun p hp => O.t2 p (h p hp), fun p hp => O.t3 p (h p hp), fun p hp => O.t4 p (h p hp), fun p hp => O.t5 p (h p hp), fun p hp => O.t6 p (h p hp), fun p hp => O.t7 p (h p hp)⟩
noncomputable def FP (P : Params) (h₀ : Heap) (L : Addr) (start size : Nat) (fo fd ll ac da : Addr) (es : List DictEntry) (en : Nat) (tl : List (Addr × Obj)) (s₀ s' : Shared) : Prop :=
  ∃ (h' : Heap) (gg : Array GenState) (tk : Nat) (m' : Str → Option Value), s' = { s₀ with heap := h', gens := gg, toks := tk } ∧ GenMoved s₀.gens gg ∧ Fr h₀ L h' m' ∧ m' "folder" = some (.ref fo) ∧
    ∃ (us : List (Addr × Str × Tok × Tok)) (u : Addr × Str × Tok × Tok) (lvs : Array Value) (ss : List Str) (k ln i : Nat) (o1 o2 : Obj) (t1 t2 : Tok) (tl' : List (Addr × Obj)),
      News h₀ L h' ((161, o1) :: (168, o2) :: (fo, instObj 115 fd) :: (fd, dictOf es en) :: (ll, listOf lvs ln) :: (ac, accObj 199 da (refsOf (us ++ [u])) k) :: (da, iniOf P t1 t2) :: tup2 u :: tl') ∧ Tab o1 ∧ Tab o2 ∧ Off7 fo fd ll ac da (tup2 u :: tl') ∧ Wds (us ++ [u]) (tup2 u :: tl') ∧
      us.length < 90 ∧ lvs.size < 500 ∧ StrsAre lvs.toList ss ∧ (∀ q ∈ tl, q ∈ tl') ∧ 1 ≤ i ∧ laidOf start i ≤ (size : Int) ∧
      ((ss = [] ∧ (us ++ [u]).map (fun t => t.2.1) = wordsFrom start i ∧ i = size + 1 - start) ∨ (ss = [flatS (wordsFrom start i)] ∧ (us ++ [u]).map (fun t => t.2.1) = [wordI ((start : Int) + (i : Int))] ∧ (size : Int) < laidOf start (i + 1)))
theorem news_back {h₀ h : Heap} {L : Addr} {x y a b c d e f g : Addr × Obj} {tl : List (Addr × Obj)} (N : News h₀ L h (a :: b :: c :: d :: e :: f :: g :: y :: x :: tl)) : News h₀ L h (x :: a :: b :: c :: d :: e :: f :: g :: y :: tl) := fun q hq => N q (by
  first | (revert q; (repeat (refine sub_cons (by repeat (first | exact List.mem_cons_self | apply List.mem_cons_of_mem)) ?_)); (first | exact (fun _ h => absurd h List.not_mem_nil) | (intro x9 hx9; repeat (first | exact hx9 | exact hs x9 hx9 | apply List.mem_cons_of_mem)))) | (simp only [List.mem_cons] at hq ⊢; rcases hq with h | h | h | h | h | h | h | h | h | h <;> simp [h]))
theorem first_mid {M : Model} {A : Around} {E : Value → Shared → Prop} {s : Shared} {t : Sem Flow} {Q : Flow → Shared → Prop} {h₀ : Heap} {L : Addr} {m : Str → Option Value} (P : Params) (start size : Nat) (fo fd ll ac da : Addr) (es : List DictEntry) (en : Nat) (tl : List (Addr × Obj)) (_F : Fr h₀ L s.heap m)
    (h : wpAny M A t (fun f s' => f = Flow.next ∧ FP P h₀ L start size fo fd ll ac da es en tl s s') E s) (r : ∀ s', FP P h₀ L start size fo fd ll ac da es en tl s s' → Q .next s') : wpAny M A t Q E s :=
  wpAny_mono h (fun f s' z => by obtain ⟨e, z⟩ := z; subst e; exact r s' z) fun _ _ z => z
theorem flat_isspace (l : List Str) {x : Str} (h : x.cps.back? = some 59) : Txt.isspace (flatS (l ++ [x])) = false := by
  have hm : 59 ∈ x.cps := by
    rw [Array.back?_eq_getElem?] at h
    exact Array.mem_of_getElem? h
  have hm2 : 59 ∈ (flatS (l ++ [x])).cps := by
    simp only [flatS, List.flatMap_append, List.mem_toArray, List.mem_append]
    exact Or.inr (by simpa using hm)
  unfold Txt.isspace
  have : (flatS (l ++ [x])).cps.all Unicode.isSpace = false := by
    rw [Array.all_eq_false']
    exact ⟨59, hm2, by decide +kernel⟩
  rw [this, Bool.and_false]
theorem flat_len_sum (tvs : List (Addr × Str × Tok × Tok)) : ((flatS (tvs.map fun t => t.2.1)).length : Int) = sumLen tvs := by
  rw [flat_length, List.map_map]; rfl
theorem flat_words_len {start i : Nat} (h : 1 ≤ start) : ((flatS (wordsFrom start i)).length : Int) = laidOf start i := by
  have : ((wordsFrom start i).map fun x => ((0 : Addr), x, (0 : Tok), (0 : Tok))).map (fun t => t.2.1) = wordsFrom start i := by
    rw [List.map_map]; exact List.map_id _
  have h2 := flat_len_sum ((wordsFrom start i).map fun x => ((0 : Addr), x, (0 : Tok), (0 : Tok)))
  rw [this, sumLen_words h this] at h2
  exact h2
noncomputable abbrev TailC (start size i : Nat) (us : List (Addr × Str × Tok × Tok)) (u : Addr × Str × Tok × Tok) (ss : List Str) : Prop :=
  (ss = [] ∧ (us ++ [u]).map (fun t => t.2.1) = wordsFrom start i ∧ i = size + 1 - start) ∨ (ss = [flatS (wordsFrom start i)] ∧ (us ++ [u]).map (fun t => t.2.1) = [wordI ((start : Int) + (i : Int))] ∧ (size : Int) < laidOf start (i + 1))
theorem tail_facts {start size i : Nat} {us : List (Addr × Str × Tok × Tok)} {u : Addr × Str × Tok × Tok} {ss : List Str} (h1 : 1 ≤ start) (h2 : start ≤ size) (h3 : size ≤ 16) (hi : 1 ≤ i) (hl : laidOf start i ≤ (size : Int)) (hc : TailC start size i us u ss) :
    0 < sumLen (us ++ [u]) ∧ Txt.isspace (flatS ((us.map fun t => t.2.1) ++ [u.2.1])) = false ∧ ((ss ++ [flatS ((us.map fun t => t.2.1) ++ [u.2.1])]).map (·.length)).sum + (ss ++ [flatS ((us.map fun t => t.2.1) ++ [u.2.1])]).length ≤ 1048576 := by
  have hg := laid_ge start i h1
  have e0 : (us.map fun t => t.2.1) ++ [u.2.1] = (us ++ [u]).map fun t => t.2.1 := by simp
  have hfl := flat_len_sum (us ++ [u])
  have hwl := flat_words_len (start := start) (i := i) h1
  rcases hc with ⟨hs, hw, hn⟩ | ⟨hs, hw, hn⟩
  · have hsum : sumLen (us ++ [u]) = laidOf start i := sumLen_words h1 hw
    refine ⟨by omega, flat_isspace _ (words_snoc h1 hw), ?_⟩
    subst hs
    rw [e0]
    simp only [List.nil_append, List.map_cons, List.map_nil, List.sum_cons, List.sum_nil, List.length_cons, List.length_nil]
    omega
  · have hu : us = [] ∧ u.2.1 = wordI ((start : Int) + (i : Int)) := by
      rw [List.map_append] at hw
      cases us with
      | nil => exact ⟨rfl, by simpa using hw⟩
      | cons a t => simp at hw
    obtain ⟨rfl, hu⟩ := hu
    have hul : ((u.2.1).length : Int) = (start : Int) + (i : Int) := by rw [hu]; exact wordI_len (by omega)
    have hsum : sumLen ([] ++ [u]) = (start : Int) + (i : Int) := by rw [sumLen_push, hul]; simp [sumLen]
    refine ⟨by omega, flat_isspace _ (by rw [hu]; exact wordI_back _), ?_⟩
    subst hs
    rw [e0]
    simp only [List.cons_append, List.nil_append, List.map_cons, List.map_nil, List.sum_cons, List.sum_nil, List.length_cons, List.length_nil] at hfl ⊢
    simp only [List.nil_append] at hsum
    omega
theorem news_swap8 {h₀ h : Heap} {L : Addr} {x y a b c d e f g : Addr × Obj} {tl : List (Addr × Obj)} (N : News h₀ L h (a :: b :: c :: d :: e :: f :: g :: y :: x :: tl)) : News h₀ L h (a :: b :: c :: d :: e :: f :: g :: x :: y :: tl) := fun q hq => N q (by
  first | (revert q; (repeat (refine sub_cons (by repeat (first | exact List.mem_cons_self | apply List.mem_cons_of_mem)) ?_)); (first | exact (fun _ h => absurd h List.not_mem_nil) | (intro x9 hx9; repeat (first | exact hx9 | exact hs x9 hx9 | apply List.mem_cons_of_mem)))) | (simp only [List.mem_cons] at hq ⊢; rcases hq with h | h | h | h | h | h | h | h | h | h <;> simp [h]))
noncomputable def splitOk (start i : Nat) : Bool :=
  decide (Txt.split (Txt.join (Str.ofString "\n") ([] ++ [flatS (wordsFrom start i)])) (Str.ofString "\n") = [flatS (wordsFrom start i)]) &&
  decide (Txt.split (Txt.join (Str.ofString "\n") ([flatS (wordsFrom start i)] ++ [flatS [wordI ((start : Int) + (i : Int))]])) (Str.ofString "\n") = [flatS (wordsFrom start i), flatS [wordI ((start : Int) + (i : Int))]])
theorem split_all : ((List.range 17).all fun start => (List.range 17).all fun i => !(decide (1 ≤ start) && decide (1 ≤ i) && decide (laidOf start i ≤ 16)) || splitOk start i) = true := by decide +kernel
theorem split_first {start i : Nat} (h1 : 1 ≤ start) (h2 : start < 17) (h3 : 1 ≤ i) (h4 : i < 17) (h5 : laidOf start i ≤ 16) :
    Txt.split (Txt.join (Str.ofString "\n") ([] ++ [flatS (wordsFrom start i)])) (Str.ofString "\n") = [flatS (wordsFrom start i)] ∧
    Txt.split (Txt.join (Str.ofString "\n") ([flatS (wordsFrom start i)] ++ [flatS [wordI ((start : Int) + (i : Int))]])) (Str.ofString "\n") = [flatS (wordsFrom start i), flatS [wordI ((start : Int) + (i : Int))]] := by
  have := List.all_eq_true.mp (List.all_eq_true.mp split_all start (List.mem_range.mpr h2)) i (List.mem_range.mpr h4)
  rw [decide_eq_true h1, decide_eq_true h3, decide_eq_true h5] at this
  simp only [Bool.and_self, Bool.not_true, Bool.false_or, splitOk, Bool.and_eq_true, decide_eq_true_eq] at this
  exact this
theorem news_core {h₀ h : Heap} {L : Addr} {z a b c d e f g x y : Addr × Obj} {tl tl' : List (Addr × Obj)} (N : News h₀ L h (z :: a :: b :: c :: d :: e :: f :: g :: x :: y :: tl')) (hs : ∀ q ∈ tl, q ∈ tl') : News h₀ L h (a :: b :: tl) := fun q hq => N q (by
  simp only [List.mem_cons] at hq ⊢
  rcases hq with h | h | h
  · simp [h]
  · simp [h]
  · simp [hs q h])
theorem us_nil {us : List (Addr × Str × Tok × Tok)} {u : Addr × Str × Tok × Tok} {x : Str} (hw : (us ++ [u]).map (fun t => t.2.1) = [x]) : us = [] ∧ u.2.1 = x := by
  rw [List.map_append] at hw
  cases us with
  | nil => exact ⟨rfl, by simpa using hw⟩
  | cons a t => simp at hw
theorem join_small {l : List Str} (h : (l.map (·.length)).sum + l.length ≤ 1048576) : (Txt.join (Str.ofString "\n") l).length + 2 ≤ sizeLine := by
  have h2 := PySem.StrLaws.join_length_le (Str.ofString "\n") l
  have h3 : (Str.ofString "\n").length = 1 := rfl
  rw [h3] at h2
  have h4 : Txt.join (Str.ofString "\n") l = Str.join (Str.ofString "\n") l := PySem.StrLaws.glued_eq_join _ _
  rw [h4, sizeLine_eq]
  omega
end
section
theorem calm57 {M : PySem.Model} {A : PySem.Around} {Q : Unit → PySem.Shared → Prop} {E : PySem.Value → PySem.Shared → Prop} {s : PySem.Shared} (h : Q () s) : PySem.wpAny M A (pure ()) Q E s := by
  w_top off
  first | (walk1; done) | exact PySem.wpAny_pure h
local macro_rules | `(tactic| k_all) => `(tactic| first | exact allLt_ne (And.right (And.right (And.right (And.right (And.right (by assumption)))))) | exact allLt_ne (And.right (And.right (And.right (And.right (And.right (And.right (by assumption))))))) | exact allLt_ne (And.right (And.right (And.right (And.right (And.right (And.right (And.right (by assumption)))))))) | exact allLt_ne (And.right (And.right (And.right (And.right (And.right (And.right (And.right (And.right (by assumption))))))))) | exact allLt_ne (And.right (And.right (And.right (And.right (And.right (And.right (And.right (And.right (And.right (by assumption)))))))))))
local macro_rules | `(tactic| walk_at "wpAt") => `(tactic| (dsimp only; ks_step "execs cons"; refine ks_wpAt_execs_cons ?_))
theorem first_call {w : World} {p : Program} {loose : List Str} {mean : ExcName → Option Value} {mg mb : Str → Option Value}
  {dp un : Nat} {gd : Option (List Code)} {cn : Str} {cs : Scope} {a : Addr} {ccd : Value} {cl : List (Str × Addr)} {outer : List Env} {A₀ : Around} {base h₀ : Heap} {L : Addr} {m : Str → Option Value} {s : Shared} {Q : Value → Shared → Prop} {E : Value → Shared → Prop}
  {o1 o2 : Obj} {tl : List (Addr × Obj)} {start size : Nat} {ts tz : Tok} 
  (B : Below A₀ base outer h₀) (F : Fr h₀ L s.heap m) (X : (heap39 w.params).In h₀)
  (N : News h₀ L s.heap ((161, o1) :: (168, o2) :: tl)) (u1 : ∀ p ∈ tl, p.1 ≠ 161) (u2 : ∀ p ∈ tl, p.1 ≠ 168)
  (T : Top p loose mean mg mb h₀) (hk : cs.kind = .function) (hd' : dp + 260 < recursionLimit) (hu : un + 2000 < cLine)
  (htab : Tab o1) (htab2 : Tab o2) (h1 : 1 ≤ start) (h2 : start ≤ size) (h3 : size ≤ 16)
  (hret : ∀ (i : Nat) (h' : Heap) (gg : Array GenState) (tk' : Nat) (o1' o2' : Obj) (tr : Tok), 1 ≤ i → laidOf start i ≤ (size : Int) → (i = size + 1 - start ∨ (size : Int) < laidOf start (i + 1)) → Tab o1' → Tab o2' → GenMoved s.gens gg → Fr h₀ L h' m →
    News h₀ L h' ((161, o1') :: (168, o2') :: tl) → Q (.str (flatS (wordsFrom start i)) tr) { s with heap := h', gens := gg, toks := tk' }) :
   wpAny (model PP w) (ktrTop dp un gd cn cs L a ccd cl outer) (call (.ref (nat_lit 276)) [.int (start : Int) ts, .int (size : Int) tz]) Q E s := by
  have _k : (fun (_ : OpenLaw) => True) PySem.Challenge.rw_tc0068_02 ∧ heap39 = heap39 := by
    k_fill
    exact ⟨trivial, rfl⟩
  clear _k
  refine wpAny_call ?_
  refine' code_def ?k1 ?k2 ?k3 ?k4 ?k5 ?kA ?kF ?kK ?k6 ?k7 ?k8 ?k9 ?kB ?_ ?c2 ?c3 ?c4 ?c5; (case kA => exact rfl); (case kF => exact rfl); (case kK => assumption); (case k1 => k_asm); (case k2 => k_asm); (case k3 => k_asm); (case k4 => k_asm); (case k5 => k_asm); (case k6 => k_is); (case k7 => k_is); (case k8 => ktr_room); (case k9 => exact BindsTo.of_eq rfl); (case c5 => decide); (case kB => exact locs rfl); (case c2 => exact rfl); (case c3 => exact rfl); (case c4 => exact rfl); k_whole; intro g' L' h' FG' F' N' B' X' T'; (try dsimp only); (try k_lift B'); (try k_fold)
  repeat' ((fail_if_success (with_reducible show PySem.wpAt _ _ _ (exec (Stmt.Expr (Expr.Call (Expr.Attribute (Expr.Call _ _ _ _) _ _) _ _ _) _) _) _ _ _)); (first | (k_unfold; (try dsimp only)) | (k_end; wrow_close) | ((with_reducible show wpAny _ _ (call (Value.ref _) _) _ _ _); first | (k_here; (k_dflt (show wpAny _ _ (call (Value.ref 63) [Value.ref _, Value.str _ _]) _ _ _)); k_dflt (refine' fstr_call ?k0 ?k1 ?k2 ?k3 ?k4 ?k5 ?k6 ?k7 ?k8 ?k9 ?k10 ?k11 ?k12 ?k13 ?k14 ?k15 ?k16 ?k17 ?k18 ?k19 ?k20 ?_; (case k0 => k_asm); (case k1 => k_asm); (case k2 => k_asm); (case k3 => k_asm); (case k4 => k_asm); (case k5 => k_asm); (case k6 => exact rfl); (case k7 => ktr_room); (case k8 => ktr_units); (case k9 => assumption); (case k10 => assumption); (case k11 => assumption); (case k12 => assumption); (case k13 => assumption); (case k14 => assumption); (case k15 => assumption); (case k16 => assumption); (case k17 => assumption); (case k18 => assumption); (case k19 => assumption); (case k20 => assumption); k_whole; intro t'q h'q gg'q tk'q k'q ln'q o1'q o2'q t1'q t2'q tq'q tr'q ht1'q ht2'q gm'q F'q N'q O'q; (try k_sweep))) | (k_here; (k_dflt (show wpAny _ _ (call (Value.ref 112) [Value.ref _, Value.str _ _, Value.str _ _]) _ _ _)); k_dflt (refine' chunk_over ?k0 ?k1 ?k2 ?k3 ?k4 ?k5 ?k6 ?k7 ?k8 ?k9 ?k10 ?k11 ?k12 ?k13 ?k14 ?k14b ?k15 ?k16 ?k17 ?k18 ?k19 ?k20 ?_; (case k0 => k_asm); (case k1 => k_asm); (case k2 => k_asm); (case k3 => k_asm); (case k4 => k_asm); (case k5 => k_asm); (case k6 => exact rfl); (case k7 => ktr_room); (case k8 => ktr_units); (case k9 => assumption); (case k10 => assumption); (case k11 => assumption); (case k12 => assumption); (case k13 => assumption); (case k14 => assumption); (case k14b => assumption); (case k15 => assumption); (case k16 => assumption); (case k17 => assumption); (case k18 => assumption); (case k19 => assumption); (case k20 => assumption); k_whole; intro t'q l'q h'q gg'q tk'q k'q ln'q o1'q o2'q t1'q t2'q tq'q ht1'q ht2'q gm'q F'q N'q O'q; (try k_sweep))) | (k_here; (k_dflt (show wpAny _ _ (call (Value.ref 112) [Value.ref _, Value.str _ _, Value.str _ _]) _ _ _)); k_dflt (refine' chunk_fit ?k0 ?k1 ?k2 ?k3 ?k4 ?k5 ?k6 ?k7 ?k8 ?k9 ?k10 ?k11 ?k12 ?k13 ?k14 ?k15 ?k16 ?k17 ?k18 ?_; (case k0 => k_asm); (case k1 => k_asm); (case k2 => k_asm); (case k3 => k_asm); (case k4 => k_asm); (case k5 => k_asm); (case k6 => exact rfl); (case k7 => ktr_room); (case k8 => ktr_units); (case k9 => assumption); (case k10 => assumption); (case k11 => assumption); (case k12 => assumption); (case k13 => assumption); (case k14 => assumption); (case k15 => assumption); (case k16 => omega); (case k17 => assumption); (case k18 => assumption); k_whole; intro t'q h'q gg'q tk'q k'q o1'q ht'q gm'q F'q N'q O'q W'q; (try k_sweep))) | (k_here; (with_reducible show wpAny _ _ (call (Value.ref _) []) _ _ _); k_dflt (refine' bound_init ?k1 ?k2 ?k3 ?k4 ?_; (case k1 => k_asm); (case k2 => k_asm); (case k3 => k_mem); (case k4 => k_upd); k_whole; intro h'q F'q N'q; (try k_sweep))) | ((with_reducible show wpAny _ _ (call (Value.ref _) _) _ _ _); (k_here; k_dflt (refine' call_acc ?k1 ?k2 ?k3 ?k4 ?k5 ?k6 ?_; (case k1 => k_asm); (case k2 => k_asm); (case k3 => k_asm); (case k5 => k_is); (case k6 => k_is); (case k4 => kernel_rfl); intro x'q d'q h'q F'q N'q l1q l2q; (have l3 := fun q hq => Nat.lt_trans (l1q q hq) l2q); (try k_lt l3); (try k_lt l1q); (try k_lt2 l2q); refine' ks_code_super ?k1 ?k2 ?k3 ?k4 ?k5 ?kA ?kF ?kK ?k6 ?k7 ?k8 ?k9 ?kB ?_ ?c1 ?c2 ?c3 ?c4; (case kA => exact rfl); (case kF => exact rfl); (case kK => exact rfl); (case k1 => k_asm); (case k2 => k_asm); (case k3 => k_asm); (case k4 => k_asm); (case k5 => k_asm); (case k6 => k_is); (case k7 => k_is); (case k9 => exact binds_K (by k_in) rfl (by k_is) rfl rfl rfl); (case kB => exact locs rfl); (case c1 => decide); (case c2 => exact rfl); (case c3 => exact rfl); (case c4 => exact rfl); (case k8 => k_room); intro g'q L'q h'q FG'q F'q N'q B'q X'q T'q l1q; (try k_lt l1q); (try dsimp only); (try k_lift B'q))))) | ((with_reducible show wpAny _ _ (binaryOp Operator.Mult (Value.str _ _) (Value.int _ _)) _ _ _); (k_here; k_dflt (refine' KXi.mul (n := 1) ?a ?b ?c ?d ?_; (case a => rfl); (case b => decide); (case c => omega); (case d => omega); k_whole; intro t'q k'q _ _))) | ((with_reducible show wpAny _ _ (getMethod (Value.ref _) _ _) _ _ _); (k_here; k_dflt (refine' super_init ?k1 ?k2 ?k3 ?k4 ?k5 ?k6 ?k7 ?k8 ?_; (case k1 => k_asm); (case k2 => k_asm); (case k3 => k_asm); (case k4 => k_mem); (case k5 => k_inst); (case k6 => k_is); (case k7 => k_is); (case k8 => kernel_rfl); k_whole; intro q'q h'q F'q N'q l1q; (try k_lt l1q); (try dsimp only)))) | (k_here; (with_reducible show wpAny _ _ (call (Value.type "range") [Value.int _ _, Value.int _ _]) _ _ _); k_dflt (refine' range2_rows ?F ?N ?_; (case F => k_asm); (case N => k_asm); k_whole; intro h'q tk'q t1'q u1'q v1'q R'q F'q N'q K'q)) | walk1 | (dsimp only; walk1) | (leave1; walk_say "STEP leave1"; try dsimp only) | fail "no step"))
  refine ks_wpAt_Expr_any ?_
  refine ks_wpAt_MethodCall ?_
  ks_step "attributeBase Call"
  k_here
  k_dflt (refine ks_node (by k_asm) (by k_asm) (by k_asm) (by k_asm) (by k_is) (by rfl) (by rfl) (by k_inst) (by k_is) (by rfl) (by first | rfl | decide +kernel) (by k_is) (by k_is) (by k_is) (by k_is) (by decide) (by rfl) (by rfl) (by rfl) (by rfl) (by decide +kernel) (by first | boot_by_name | rfl | kernel_rfl) ?_; intro so' h' F' N' l1; (try k_lt l1))
  refine' super_init ?k1 ?k2 ?k3 ?k4 ?k5 ?k6 ?k7 ?k8 ?_
  case k1 => k_asm
  case k2 => k_asm
  case k3 => k_asm
  case k4 => k_mem
  case k5 => k_inst
  case k6 => k_is
  case k7 => k_is
  case k8 => kernel_rfl
  intro q' h' F' N' l1; (try k_lt l1); (try dsimp only)
  refine' callWith_B ?k1 ?k2 ?k3 ?_
  case k1 => k_asm
  case k2 => k_mem
  case k3 => decide +kernel
  dsimp only [List.nil_append, List.cons_append]
  refine' bound_init ?k1 ?k2 ?k3 ?k4 ?_
  case k1 => k_asm
  case k2 => k_asm
  case k3 => k_mem
  case k4 => k_upd
  k_whole
  intro h' F' N'
  repeat' ((fail_if_success (with_reducible show wpAny _ _ (exec (Stmt.For _ _ _ _ _) _) _ _ _)); (first | (k_unfold; (try dsimp only)) | (k_end; wrow_close) | ((with_reducible show wpAny _ _ (call (Value.ref _) _) _ _ _); first | (k_here; (k_dflt (show wpAny _ _ (call (Value.ref 63) [Value.ref _, Value.str _ _]) _ _ _)); k_dflt (refine' fstr_call ?k0 ?k1 ?k2 ?k3 ?k4 ?k5 ?k6 ?k7 ?k8 ?k9 ?k10 ?k11 ?k12 ?k13 ?k14 ?k15 ?k16 ?k17 ?k18 ?k19 ?k20 ?_; (case k0 => k_asm); (case k1 => k_asm); (case k2 => k_asm); (case k3 => k_asm); (case k4 => k_asm); (case k5 => k_asm); (case k6 => exact rfl); (case k7 => ktr_room); (case k8 => ktr_units); (case k9 => assumption); (case k10 => assumption); (case k11 => assumption); (case k12 => assumption); (case k13 => assumption); (case k14 => assumption); (case k15 => assumption); (case k16 => assumption); (case k17 => assumption); (case k18 => assumption); (case k19 => assumption); (case k20 => assumption); k_whole; intro t'q h'q gg'q tk'q k'q ln'q o1'q o2'q t1'q t2'q tq'q tr'q ht1'q ht2'q gm'q F'q N'q O'q; (try k_sweep))) | (k_here; (k_dflt (show wpAny _ _ (call (Value.ref 112) [Value.ref _, Value.str _ _, Value.str _ _]) _ _ _)); k_dflt (refine' chunk_over ?k0 ?k1 ?k2 ?k3 ?k4 ?k5 ?k6 ?k7 ?k8 ?k9 ?k10 ?k11 ?k12 ?k13 ?k14 ?k14b ?k15 ?k16 ?k17 ?k18 ?k19 ?k20 ?_; (case k0 => k_asm); (case k1 => k_asm); (case k2 => k_asm); (case k3 => k_asm); (case k4 => k_asm); (case k5 => k_asm); (case k6 => exact rfl); (case k7 => ktr_room); (case k8 => ktr_units); (case k9 => assumption); (case k10 => assumption); (case k11 => assumption); (case k12 => assumption); (case k13 => assumption); (case k14 => assumption); (case k14b => assumption); (case k15 => assumption); (case k16 => assumption); (case k17 => assumption); (case k18 => assumption); (case k19 => assumption); (case k20 => assumption); k_whole; intro t'q l'q h'q gg'q tk'q k'q ln'q o1'q o2'q t1'q t2'q tq'q ht1'q ht2'q gm'q F'q N'q O'q; (try k_sweep))) | (k_here; (k_dflt (show wpAny _ _ (call (Value.ref 112) [Value.ref _, Value.str _ _, Value.str _ _]) _ _ _)); k_dflt (refine' chunk_fit ?k0 ?k1 ?k2 ?k3 ?k4 ?k5 ?k6 ?k7 ?k8 ?k9 ?k10 ?k11 ?k12 ?k13 ?k14 ?k15 ?k16 ?k17 ?k18 ?_; (case k0 => k_asm); (case k1 => k_asm); (case k2 => k_asm); (case k3 => k_asm); (case k4 => k_asm); (case k5 => k_asm); (case k6 => exact rfl); (case k7 => ktr_room); (case k8 => ktr_units); (case k9 => assumption); (case k10 => assumption); (case k11 => assumption); (case k12 => assumption); (case k13 => assumption); (case k14 => assumption); (case k15 => assumption); (case k16 => omega); (case k17 => assumption); (case k18 => assumption); k_whole; intro t'q h'q gg'q tk'q k'q o1'q ht'q gm'q F'q N'q O'q W'q; (try k_sweep))) | (k_here; (with_reducible show wpAny _ _ (call (Value.ref _) []) _ _ _); k_dflt (refine' bound_init ?k1 ?k2 ?k3 ?k4 ?_; (case k1 => k_asm); (case k2 => k_asm); (case k3 => k_mem); (case k4 => k_upd); k_whole; intro h'q F'q N'q; (try k_sweep))) | ((with_reducible show wpAny _ _ (call (Value.ref _) _) _ _ _); (k_here; k_dflt (refine' call_acc ?k1 ?k2 ?k3 ?k4 ?k5 ?k6 ?_; (case k1 => k_asm); (case k2 => k_asm); (case k3 => k_asm); (case k5 => k_is); (case k6 => k_is); (case k4 => kernel_rfl); intro x'q d'q h'q F'q N'q l1q l2q; (have l3 := fun q hq => Nat.lt_trans (l1q q hq) l2q); (try k_lt l3); (try k_lt l1q); (try k_lt2 l2q); refine' ks_code_super ?k1 ?k2 ?k3 ?k4 ?k5 ?kA ?kF ?kK ?k6 ?k7 ?k8 ?k9 ?kB ?_ ?c1 ?c2 ?c3 ?c4; (case kA => exact rfl); (case kF => exact rfl); (case kK => exact rfl); (case k1 => k_asm); (case k2 => k_asm); (case k3 => k_asm); (case k4 => k_asm); (case k5 => k_asm); (case k6 => k_is); (case k7 => k_is); (case k9 => exact binds_K (by k_in) rfl (by k_is) rfl rfl rfl); (case kB => exact locs rfl); (case c1 => decide); (case c2 => exact rfl); (case c3 => exact rfl); (case c4 => exact rfl); (case k8 => k_room); intro g'q L'q h'q FG'q F'q N'q B'q X'q T'q l1q; (try k_lt l1q); (try dsimp only); (try k_lift B'q))))) | ((with_reducible show wpAny _ _ (binaryOp Operator.Mult (Value.str _ _) (Value.int _ _)) _ _ _); (k_here; k_dflt (refine' KXi.mul (n := 1) ?a ?b ?c ?d ?_; (case a => rfl); (case b => decide); (case c => omega); (case d => omega); k_whole; intro t'q k'q _ _))) | ((with_reducible show wpAny _ _ (getMethod (Value.ref _) _ _) _ _ _); (k_here; k_dflt (refine' super_init ?k1 ?k2 ?k3 ?k4 ?k5 ?k6 ?k7 ?k8 ?_; (case k1 => k_asm); (case k2 => k_asm); (case k3 => k_asm); (case k4 => k_mem); (case k5 => k_inst); (case k6 => k_is); (case k7 => k_is); (case k8 => kernel_rfl); k_whole; intro q'q h'q F'q N'q l1q; (try k_lt l1q); (try dsimp only)))) | (k_here; (with_reducible show wpAny _ _ (call (Value.type "range") [Value.int _ _, Value.int _ _]) _ _ _); k_dflt (refine' range2_rows ?F ?N ?_; (case F => k_asm); (case N => k_asm); k_whole; intro h'q tk'q t1'q u1'q v1'q R'q F'q N'q K'q)) | walk1 | (dsimp only; walk1) | (leave1; walk_say "STEP leave1"; try dsimp only) | fail "no step"))
  k_here
  rename Fr _ _ _ _ => Fa; rename News _ _ _ _ => Na
  rename_i fo fd _ _ _ _ _ _ _ _ _ _ _ _ _ _ _ ll _ _ _ _ _ _ _ _ _ _ _ _ _ _ _ _ _ _ _ _ _ _ _ _ _ _ _
  have hA : AllLt fd tl := (‹161 < fd ∧ 168 < fd ∧ AllLt fd tl›).2.2
  have c1 : @LT.lt Nat _ 168 fd := by omega
  have c2 : @LT.lt Nat _ fd fo := by omega
  have c3 : @LT.lt Nat _ fo ll := by omega
  have c4 : @LT.lt Nat _ ll d'q := by omega
  have c5 : @LT.lt Nat _ d'q x'q := by omega
  have O0 : Off7 fo fd ll x'q d'q tl := ⟨c1, c2, c3, c4, c5, u1, u2, allLt_up hA (by omega), allLt_up hA (by omega), allLt_up hA (by omega), allLt_up hA (by omega), allLt_up hA (by omega)⟩
  obtain ⟨es, en, t1, t2, ln, k, Nc, fD⟩ := fold_setup Na (size := size) (tz := tz) ⟨rfl, rfl, ⟨_, rfl⟩, rfl, rfl, rfl, rfl⟩
  clear Na
  refine first_mid w.params start size fo fd ll x'q d'q es en tl Fa ?loop ?rest
  case rest =>
    intro s' hFP
    obtain ⟨h', gg, tk, m', rfl, hgm, F', e1, us, u, lvs, ss, k', ln', i, o1', o2', t1', t2', tl', N', ht1, ht2, O', W', husl, hlvs, hss, hsub, hi1, hl, hc⟩ := hFP
    obtain ⟨q1, q2, q3⟩ := tail_facts h1 h2 h3 hi1 hl hc
    obtain ⟨g1, g2, ⟨ts', g3⟩, g4, n1, n2, n3⟩ := fD
    have F₃ := Fr_map F' (m' := fun y => if y = Str.ofString "folder" then some (.ref fo) else m' y) (fun y => by
      by_cases q1 : y = Str.ofString "folder"
      · subst q1; simp only [if_true]; exact e1.symm
      · simp only [q1, if_false])
    clear F'
    have hi17 : i < 17 := by have := laid_ge start i h1; omega
    have hl16 : laidOf start i ≤ 16 := by omega
    have hsp := split_first h1 (by omega) hi1 hi17 hl16
    repeat' (first | (k_unfold; (try dsimp only)) | (k_end; wrow_close) | ((with_reducible show wpAny _ _ (call (Value.ref _) _) _ _ _); first | (k_here; (k_dflt (show wpAny _ _ (call (Value.ref 63) [Value.ref _, Value.str _ _]) _ _ _)); k_dflt (refine' fstr_call ?k0 ?k1 ?k2 ?k3 ?k4 ?k5 ?k6 ?k7 ?k8 ?k9 ?k10 ?k11 ?k12 ?k13 ?k14 ?k15 ?k16 ?k17 ?k18 ?k19 ?k20 ?_; (case k0 => k_asm); (case k1 => k_asm); (case k2 => k_asm); (case k3 => k_asm); (case k4 => k_asm); (case k5 => k_asm); (case k6 => exact rfl); (case k7 => ktr_room); (case k8 => ktr_units); (case k9 => assumption); (case k10 => assumption); (case k11 => assumption); (case k12 => assumption); (case k13 => assumption); (case k14 => assumption); (case k15 => assumption); (case k16 => assumption); (case k17 => assumption); (case k18 => assumption); (case k19 => assumption); (case k20 => assumption); k_whole; intro t'q h'q gg'q tk'q k'q ln'q o1'q o2'q t1'q t2'q tq'q tr'q ht1'q ht2'q gm'q F'q N'q O'q; (try k_sweep))) | (k_here; (k_dflt (show wpAny _ _ (call (Value.ref 112) [Value.ref _, Value.str _ _, Value.str _ _]) _ _ _)); k_dflt (refine' chunk_over ?k0 ?k1 ?k2 ?k3 ?k4 ?k5 ?k6 ?k7 ?k8 ?k9 ?k10 ?k11 ?k12 ?k13 ?k14 ?k14b ?k15 ?k16 ?k17 ?k18 ?k19 ?k20 ?_; (case k0 => k_asm); (case k1 => k_asm); (case k2 => k_asm); (case k3 => k_asm); (case k4 => k_asm); (case k5 => k_asm); (case k6 => exact rfl); (case k7 => ktr_room); (case k8 => ktr_units); (case k9 => assumption); (case k10 => assumption); (case k11 => assumption); (case k12 => assumption); (case k13 => assumption); (case k14 => assumption); (case k14b => assumption); (case k15 => assumption); (case k16 => assumption); (case k17 => assumption); (case k18 => assumption); (case k19 => assumption); (case k20 => assumption); k_whole; intro t'q l'q h'q gg'q tk'q k'q ln'q o1'q o2'q t1'q t2'q tq'q ht1'q ht2'q gm'q F'q N'q O'q; (try k_sweep))) | (k_here; (k_dflt (show wpAny _ _ (call (Value.ref 112) [Value.ref _, Value.str _ _, Value.str _ _]) _ _ _)); k_dflt (refine' chunk_fit ?k0 ?k1 ?k2 ?k3 ?k4 ?k5 ?k6 ?k7 ?k8 ?k9 ?k10 ?k11 ?k12 ?k13 ?k14 ?k15 ?k16 ?k17 ?k18 ?_; (case k0 => k_asm); (case k1 => k_asm); (case k2 => k_asm); (case k3 => k_asm); (case k4 => k_asm); (case k5 => k_asm); (case k6 => exact rfl); (case k7 => ktr_room); (case k8 => ktr_units); (case k9 => assumption); (case k10 => assumption); (case k11 => assumption); (case k12 => assumption); (case k13 => assumption); (case k14 => assumption); (case k15 => assumption); (case k16 => omega); (case k17 => assumption); (case k18 => assumption); k_whole; intro t'q h'q gg'q tk'q k'q o1'q ht'q gm'q F'q N'q O'q W'q; (try k_sweep))) | (k_here; (with_reducible show wpAny _ _ (call (Value.ref _) []) _ _ _); k_dflt (refine' bound_init ?k1 ?k2 ?k3 ?k4 ?_; (case k1 => k_asm); (case k2 => k_asm); (case k3 => k_mem); (case k4 => k_upd); k_whole; intro h'q F'q N'q; (try k_sweep))) | ((with_reducible show wpAny _ _ (call (Value.ref _) _) _ _ _); (k_here; k_dflt (refine' call_acc ?k1 ?k2 ?k3 ?k4 ?k5 ?k6 ?_; (case k1 => k_asm); (case k2 => k_asm); (case k3 => k_asm); (case k5 => k_is); (case k6 => k_is); (case k4 => kernel_rfl); intro x'q d'q h'q F'q N'q l1q l2q; (have l3 := fun q hq => Nat.lt_trans (l1q q hq) l2q); (try k_lt l3); (try k_lt l1q); (try k_lt2 l2q); refine' ks_code_super ?k1 ?k2 ?k3 ?k4 ?k5 ?kA ?kF ?kK ?k6 ?k7 ?k8 ?k9 ?kB ?_ ?c1 ?c2 ?c3 ?c4; (case kA => exact rfl); (case kF => exact rfl); (case kK => exact rfl); (case k1 => k_asm); (case k2 => k_asm); (case k3 => k_asm); (case k4 => k_asm); (case k5 => k_asm); (case k6 => k_is); (case k7 => k_is); (case k9 => exact binds_K (by k_in) rfl (by k_is) rfl rfl rfl); (case kB => exact locs rfl); (case c1 => decide); (case c2 => exact rfl); (case c3 => exact rfl); (case c4 => exact rfl); (case k8 => k_room); intro g'q L'q h'q FG'q F'q N'q B'q X'q T'q l1q; (try k_lt l1q); (try dsimp only); (try k_lift B'q))))) | ((with_reducible show wpAny _ _ (binaryOp Operator.Mult (Value.str _ _) (Value.int _ _)) _ _ _); (k_here; k_dflt (refine' KXi.mul (n := 1) ?a ?b ?c ?d ?_; (case a => rfl); (case b => decide); (case c => omega); (case d => omega); k_whole; intro t'q k'q _ _))) | ((with_reducible show wpAny _ _ (getMethod (Value.ref _) _ _) _ _ _); (k_here; k_dflt (refine' super_init ?k1 ?k2 ?k3 ?k4 ?k5 ?k6 ?k7 ?k8 ?_; (case k1 => k_asm); (case k2 => k_asm); (case k3 => k_asm); (case k4 => k_mem); (case k5 => k_inst); (case k6 => k_is); (case k7 => k_is); (case k8 => kernel_rfl); k_whole; intro q'q h'q F'q N'q l1q; (try k_lt l1q); (try dsimp only)))) | (k_here; (with_reducible show wpAny _ _ (call (Value.type "range") [Value.int _ _, Value.int _ _]) _ _ _); k_dflt (refine' range2_rows ?F ?N ?_; (case F => k_asm); (case N => k_asm); k_whole; intro h'q tk'q t1'q u1'q v1'q R'q F'q N'q K'q)) | walk1 | (dsimp only; walk1) | (leave1; walk_say "STEP leave1"; try dsimp only) | fail "no step")
    refine KSpl.split1 (by k_asm) (by k_asm) (by decide) ?_ (join_small q3)
    intro D' l' h' k' e' a' F' N' l1
    rcases hc with ⟨hs, hw, hn⟩ | ⟨hs, hw, hn⟩
    · subst hs
      have ew : (us.map fun t => t.2.1) ++ [u.2.1] = wordsFrom start i := by rw [← hw]; simp
      rw [ew, hsp.1] at e'
      obtain ⟨t0, l2, el, e2⟩ := KSpl.cons_of e'
      obtain e3 := KSpl.nil_of e2
      subst e3
      subst el
      simp only [strValues, List.map_cons, List.map_nil] at N'
      repeat' (first | (k_unfold; (try dsimp only)) | (k_end; wrow_close) | ((with_reducible show wpAny _ _ (call (Value.ref _) _) _ _ _); first | (k_here; (k_dflt (show wpAny _ _ (call (Value.ref 63) [Value.ref _, Value.str _ _]) _ _ _)); k_dflt (refine' fstr_call ?k0 ?k1 ?k2 ?k3 ?k4 ?k5 ?k6 ?k7 ?k8 ?k9 ?k10 ?k11 ?k12 ?k13 ?k14 ?k15 ?k16 ?k17 ?k18 ?k19 ?k20 ?_; (case k0 => k_asm); (case k1 => k_asm); (case k2 => k_asm); (case k3 => k_asm); (case k4 => k_asm); (case k5 => k_asm); (case k6 => exact rfl); (case k7 => ktr_room); (case k8 => ktr_units); (case k9 => assumption); (case k10 => assumption); (case k11 => assumption); (case k12 => assumption); (case k13 => assumption); (case k14 => assumption); (case k15 => assumption); (case k16 => assumption); (case k17 => assumption); (case k18 => assumption); (case k19 => assumption); (case k20 => assumption); k_whole; intro t'q h'q gg'q tk'q k'q ln'q o1'q o2'q t1'q t2'q tq'q tr'q ht1'q ht2'q gm'q F'q N'q O'q; (try k_sweep))) | (k_here; (k_dflt (show wpAny _ _ (call (Value.ref 112) [Value.ref _, Value.str _ _, Value.str _ _]) _ _ _)); k_dflt (refine' chunk_over ?k0 ?k1 ?k2 ?k3 ?k4 ?k5 ?k6 ?k7 ?k8 ?k9 ?k10 ?k11 ?k12 ?k13 ?k14 ?k14b ?k15 ?k16 ?k17 ?k18 ?k19 ?k20 ?_; (case k0 => k_asm); (case k1 => k_asm); (case k2 => k_asm); (case k3 => k_asm); (case k4 => k_asm); (case k5 => k_asm); (case k6 => exact rfl); (case k7 => ktr_room); (case k8 => ktr_units); (case k9 => assumption); (case k10 => assumption); (case k11 => assumption); (case k12 => assumption); (case k13 => assumption); (case k14 => assumption); (case k14b => assumption); (case k15 => assumption); (case k16 => assumption); (case k17 => assumption); (case k18 => assumption); (case k19 => assumption); (case k20 => assumption); k_whole; intro t'q l'q h'q gg'q tk'q k'q ln'q o1'q o2'q t1'q t2'q tq'q ht1'q ht2'q gm'q F'q N'q O'q; (try k_sweep))) | (k_here; (k_dflt (show wpAny _ _ (call (Value.ref 112) [Value.ref _, Value.str _ _, Value.str _ _]) _ _ _)); k_dflt (refine' chunk_fit ?k0 ?k1 ?k2 ?k3 ?k4 ?k5 ?k6 ?k7 ?k8 ?k9 ?k10 ?k11 ?k12 ?k13 ?k14 ?k15 ?k16 ?k17 ?k18 ?_; (case k0 => k_asm); (case k1 => k_asm); (case k2 => k_asm); (case k3 => k_asm); (case k4 => k_asm); (case k5 => k_asm); (case k6 => exact rfl); (case k7 => ktr_room); (case k8 => ktr_units); (case k9 => assumption); (case k10 => assumption); (case k11 => assumption); (case k12 => assumption); (case k13 => assumption); (case k14 => assumption); (case k15 => assumption); (case k16 => omega); (case k17 => assumption); (case k18 => assumption); k_whole; intro t'q h'q gg'q tk'q k'q o1'q ht'q gm'q F'q N'q O'q W'q; (try k_sweep))) | (k_here; (with_reducible show wpAny _ _ (call (Value.ref _) []) _ _ _); k_dflt (refine' bound_init ?k1 ?k2 ?k3 ?k4 ?_; (case k1 => k_asm); (case k2 => k_asm); (case k3 => k_mem); (case k4 => k_upd); k_whole; intro h'q F'q N'q; (try k_sweep))) | ((with_reducible show wpAny _ _ (call (Value.ref _) _) _ _ _); (k_here; k_dflt (refine' call_acc ?k1 ?k2 ?k3 ?k4 ?k5 ?k6 ?_; (case k1 => k_asm); (case k2 => k_asm); (case k3 => k_asm); (case k5 => k_is); (case k6 => k_is); (case k4 => kernel_rfl); intro x'q d'q h'q F'q N'q l1q l2q; (have l3 := fun q hq => Nat.lt_trans (l1q q hq) l2q); (try k_lt l3); (try k_lt l1q); (try k_lt2 l2q); refine' ks_code_super ?k1 ?k2 ?k3 ?k4 ?k5 ?kA ?kF ?kK ?k6 ?k7 ?k8 ?k9 ?kB ?_ ?c1 ?c2 ?c3 ?c4; (case kA => exact rfl); (case kF => exact rfl); (case kK => exact rfl); (case k1 => k_asm); (case k2 => k_asm); (case k3 => k_asm); (case k4 => k_asm); (case k5 => k_asm); (case k6 => k_is); (case k7 => k_is); (case k9 => exact binds_K (by k_in) rfl (by k_is) rfl rfl rfl); (case kB => exact locs rfl); (case c1 => decide); (case c2 => exact rfl); (case c3 => exact rfl); (case c4 => exact rfl); (case k8 => k_room); intro g'q L'q h'q FG'q F'q N'q B'q X'q T'q l1q; (try k_lt l1q); (try dsimp only); (try k_lift B'q))))) | ((with_reducible show wpAny _ _ (binaryOp Operator.Mult (Value.str _ _) (Value.int _ _)) _ _ _); (k_here; k_dflt (refine' KXi.mul (n := 1) ?a ?b ?c ?d ?_; (case a => rfl); (case b => decide); (case c => omega); (case d => omega); k_whole; intro t'q k'q _ _))) | ((with_reducible show wpAny _ _ (getMethod (Value.ref _) _ _) _ _ _); (k_here; k_dflt (refine' super_init ?k1 ?k2 ?k3 ?k4 ?k5 ?k6 ?k7 ?k8 ?_; (case k1 => k_asm); (case k2 => k_asm); (case k3 => k_asm); (case k4 => k_mem); (case k5 => k_inst); (case k6 => k_is); (case k7 => k_is); (case k8 => kernel_rfl); k_whole; intro q'q h'q F'q N'q l1q; (try k_lt l1q); (try dsimp only)))) | (k_here; (with_reducible show wpAny _ _ (call (Value.type "range") [Value.int _ _, Value.int _ _]) _ _ _); k_dflt (refine' range2_rows ?F ?N ?_; (case F => k_asm); (case N => k_asm); k_whole; intro h'q tk'q t1'q u1'q v1'q R'q F'q N'q K'q)) | walk1 | (dsimp only; walk1) | (leave1; walk_say "STEP leave1"; try dsimp only) | fail "no step")
      rename Fr _ _ _ _ => Fz; rename News _ _ _ _ => Nz
      exact hret i _ _ _ _ _ _ hi1 hl (Or.inl hn) ‹_› ‹_› (GenMoved.trans hgm ‹_›) Fz (news_core Nz hsub)
    · subst hs
      obtain ⟨hus, hu⟩ := us_nil hw
      subst hus
      have ew : ([].map fun t : Addr × Str × Tok × Tok => t.2.1) ++ [u.2.1] = [wordI ((start : Int) + (i : Int))] := by rw [hu]; rfl
      rw [ew, hsp.2] at e'
      obtain ⟨t0, l2, el, e2⟩ := KSpl.cons_of e'
      obtain ⟨t9, l3, el3, e3⟩ := KSpl.cons_of e2
      obtain e4 := KSpl.nil_of e3
      subst e4
      subst el3
      subst el
      simp only [strValues, List.map_cons, List.map_nil] at N'
      repeat' (first | (k_unfold; (try dsimp only)) | (k_end; wrow_close) | ((with_reducible show wpAny _ _ (call (Value.ref _) _) _ _ _); first | (k_here; (k_dflt (show wpAny _ _ (call (Value.ref 63) [Value.ref _, Value.str _ _]) _ _ _)); k_dflt (refine' fstr_call ?k0 ?k1 ?k2 ?k3 ?k4 ?k5 ?k6 ?k7 ?k8 ?k9 ?k10 ?k11 ?k12 ?k13 ?k14 ?k15 ?k16 ?k17 ?k18 ?k19 ?k20 ?_; (case k0 => k_asm); (case k1 => k_asm); (case k2 => k_asm); (case k3 => k_asm); (case k4 => k_asm); (case k5 => k_asm); (case k6 => exact rfl); (case k7 => ktr_room); (case k8 => ktr_units); (case k9 => assumption); (case k10 => assumption); (case k11 => assumption); (case k12 => assumption); (case k13 => assumption); (case k14 => assumption); (case k15 => assumption); (case k16 => assumption); (case k17 => assumption); (case k18 => assumption); (case k19 => assumption); (case k20 => assumption); k_whole; intro t'q h'q gg'q tk'q k'q ln'q o1'q o2'q t1'q t2'q tq'q tr'q ht1'q ht2'q gm'q F'q N'q O'q; (try k_sweep))) | (k_here; (k_dflt (show wpAny _ _ (call (Value.ref 112) [Value.ref _, Value.str _ _, Value.str _ _]) _ _ _)); k_dflt (refine' chunk_over ?k0 ?k1 ?k2 ?k3 ?k4 ?k5 ?k6 ?k7 ?k8 ?k9 ?k10 ?k11 ?k12 ?k13 ?k14 ?k14b ?k15 ?k16 ?k17 ?k18 ?k19 ?k20 ?_; (case k0 => k_asm); (case k1 => k_asm); (case k2 => k_asm); (case k3 => k_asm); (case k4 => k_asm); (case k5 => k_asm); (case k6 => exact rfl); (case k7 => ktr_room); (case k8 => ktr_units); (case k9 => assumption); (case k10 => assumption); (case k11 => assumption); (case k12 => assumption); (case k13 => assumption); (case k14 => assumption); (case k14b => assumption); (case k15 => assumption); (case k16 => assumption); (case k17 => assumption); (case k18 => assumption); (case k19 => assumption); (case k20 => assumption); k_whole; intro t'q l'q h'q gg'q tk'q k'q ln'q o1'q o2'q t1'q t2'q tq'q ht1'q ht2'q gm'q F'q N'q O'q; (try k_sweep))) | (k_here; (k_dflt (show wpAny _ _ (call (Value.ref 112) [Value.ref _, Value.str _ _, Value.str _ _]) _ _ _)); k_dflt (refine' chunk_fit ?k0 ?k1 ?k2 ?k3 ?k4 ?k5 ?k6 ?k7 ?k8 ?k9 ?k10 ?k11 ?k12 ?k13 ?k14 ?k15 ?k16 ?k17 ?k18 ?_; (case k0 => k_asm); (case k1 => k_asm); (case k2 => k_asm); (case k3 => k_asm); (case k4 => k_asm); (case k5 => k_asm); (case k6 => exact rfl); (case k7 => ktr_room); (case k8 => ktr_units); (case k9 => assumption); (case k10 => assumption); (case k11 => assumption); (case k12 => assumption); (case k13 => assumption); (case k14 => assumption); (case k15 => assumption); (case k16 => omega); (case k17 => assumption); (case k18 => assumption); k_whole; intro t'q h'q gg'q tk'q k'q o1'q ht'q gm'q F'q N'q O'q W'q; (try k_sweep))) | (k_here; (with_reducible show wpAny _ _ (call (Value.ref _) []) _ _ _); k_dflt (refine' bound_init ?k1 ?k2 ?k3 ?k4 ?_; (case k1 => k_asm); (case k2 => k_asm); (case k3 => k_mem); (case k4 => k_upd); k_whole; intro h'q F'q N'q; (try k_sweep))) | ((with_reducible show wpAny _ _ (call (Value.ref _) _) _ _ _); (k_here; k_dflt (refine' call_acc ?k1 ?k2 ?k3 ?k4 ?k5 ?k6 ?_; (case k1 => k_asm); (case k2 => k_asm); (case k3 => k_asm); (case k5 => k_is); (case k6 => k_is); (case k4 => kernel_rfl); intro x'q d'q h'q F'q N'q l1q l2q; (have l3 := fun q hq => Nat.lt_trans (l1q q hq) l2q); (try k_lt l3); (try k_lt l1q); (try k_lt2 l2q); refine' ks_code_super ?k1 ?k2 ?k3 ?k4 ?k5 ?kA ?kF ?kK ?k6 ?k7 ?k8 ?k9 ?kB ?_ ?c1 ?c2 ?c3 ?c4; (case kA => exact rfl); (case kF => exact rfl); (case kK => exact rfl); (case k1 => k_asm); (case k2 => k_asm); (case k3 => k_asm); (case k4 => k_asm); (case k5 => k_asm); (case k6 => k_is); (case k7 => k_is); (case k9 => exact binds_K (by k_in) rfl (by k_is) rfl rfl rfl); (case kB => exact locs rfl); (case c1 => decide); (case c2 => exact rfl); (case c3 => exact rfl); (case c4 => exact rfl); (case k8 => k_room); intro g'q L'q h'q FG'q F'q N'q B'q X'q T'q l1q; (try k_lt l1q); (try dsimp only); (try k_lift B'q))))) | ((with_reducible show wpAny _ _ (binaryOp Operator.Mult (Value.str _ _) (Value.int _ _)) _ _ _); (k_here; k_dflt (refine' KXi.mul (n := 1) ?a ?b ?c ?d ?_; (case a => rfl); (case b => decide); (case c => omega); (case d => omega); k_whole; intro t'q k'q _ _))) | ((with_reducible show wpAny _ _ (getMethod (Value.ref _) _ _) _ _ _); (k_here; k_dflt (refine' super_init ?k1 ?k2 ?k3 ?k4 ?k5 ?k6 ?k7 ?k8 ?_; (case k1 => k_asm); (case k2 => k_asm); (case k3 => k_asm); (case k4 => k_mem); (case k5 => k_inst); (case k6 => k_is); (case k7 => k_is); (case k8 => kernel_rfl); k_whole; intro q'q h'q F'q N'q l1q; (try k_lt l1q); (try dsimp only)))) | (k_here; (with_reducible show wpAny _ _ (call (Value.type "range") [Value.int _ _, Value.int _ _]) _ _ _); k_dflt (refine' range2_rows ?F ?N ?_; (case F => k_asm); (case N => k_asm); k_whole; intro h'q tk'q t1'q u1'q v1'q R'q F'q N'q K'q)) | walk1 | (dsimp only; walk1) | (leave1; walk_say "STEP leave1"; try dsimp only) | fail "no step")
      rename Fr _ _ _ _ => Fz; rename News _ _ _ _ => Nz
      exact hret i _ _ _ _ _ _ hi1 hl (Or.inr hn) ‹_› ‹_› (GenMoved.trans hgm ‹_›) Fz (news_core Nz hsub)
  refine' For_range Fa ?hx ?hp ?hh ?_ ?hs ?hE
  case hx => exact rfl
  case hp => exact rfl
  case hh => exact rfl
  case hs => intro _; exact rfl
  case hE => passes_own
  repeat' (first | (k_unfold; (try dsimp only)) | (k_end; wrow_close) | ((with_reducible show wpAny _ _ (call (Value.ref _) _) _ _ _); first | (k_here; (k_dflt (show wpAny _ _ (call (Value.ref 63) [Value.ref _, Value.str _ _]) _ _ _)); k_dflt (refine' fstr_call ?k0 ?k1 ?k2 ?k3 ?k4 ?k5 ?k6 ?k7 ?k8 ?k9 ?k10 ?k11 ?k12 ?k13 ?k14 ?k15 ?k16 ?k17 ?k18 ?k19 ?k20 ?_; (case k0 => k_asm); (case k1 => k_asm); (case k2 => k_asm); (case k3 => k_asm); (case k4 => k_asm); (case k5 => k_asm); (case k6 => exact rfl); (case k7 => ktr_room); (case k8 => ktr_units); (case k9 => assumption); (case k10 => assumption); (case k11 => assumption); (case k12 => assumption); (case k13 => assumption); (case k14 => assumption); (case k15 => assumption); (case k16 => assumption); (case k17 => assumption); (case k18 => assumption); (case k19 => assumption); (case k20 => assumption); k_whole; intro t'q h'q gg'q tk'q k'q ln'q o1'q o2'q t1'q t2'q tq'q tr'q ht1'q ht2'q gm'q F'q N'q O'q; (try k_sweep))) | (k_here; (k_dflt (show wpAny _ _ (call (Value.ref 112) [Value.ref _, Value.str _ _, Value.str _ _]) _ _ _)); k_dflt (refine' chunk_over ?k0 ?k1 ?k2 ?k3 ?k4 ?k5 ?k6 ?k7 ?k8 ?k9 ?k10 ?k11 ?k12 ?k13 ?k14 ?k14b ?k15 ?k16 ?k17 ?k18 ?k19 ?k20 ?_; (case k0 => k_asm); (case k1 => k_asm); (case k2 => k_asm); (case k3 => k_asm); (case k4 => k_asm); (case k5 => k_asm); (case k6 => exact rfl); (case k7 => ktr_room); (case k8 => ktr_units); (case k9 => assumption); (case k10 => assumption); (case k11 => assumption); (case k12 => assumption); (case k13 => assumption); (case k14 => assumption); (case k14b => assumption); (case k15 => assumption); (case k16 => assumption); (case k17 => assumption); (case k18 => assumption); (case k19 => assumption); (case k20 => assumption); k_whole; intro t'q l'q h'q gg'q tk'q k'q ln'q o1'q o2'q t1'q t2'q tq'q ht1'q ht2'q gm'q F'q N'q O'q; (try k_sweep))) | (k_here; (k_dflt (show wpAny _ _ (call (Value.ref 112) [Value.ref _, Value.str _ _, Value.str _ _]) _ _ _)); k_dflt (refine' chunk_fit ?k0 ?k1 ?k2 ?k3 ?k4 ?k5 ?k6 ?k7 ?k8 ?k9 ?k10 ?k11 ?k12 ?k13 ?k14 ?k15 ?k16 ?k17 ?k18 ?_; (case k0 => k_asm); (case k1 => k_asm); (case k2 => k_asm); (case k3 => k_asm); (case k4 => k_asm); (case k5 => k_asm); (case k6 => exact rfl); (case k7 => ktr_room); (case k8 => ktr_units); (case k9 => assumption); (case k10 => assumption); (case k11 => assumption); (case k12 => assumption); (case k13 => assumption); (case k14 => assumption); (case k15 => assumption); (case k16 => omega); (case k17 => assumption); (case k18 => assumption); k_whole; intro t'q h'q gg'q tk'q k'q o1'q ht'q gm'q F'q N'q O'q W'q; (try k_sweep))) | (k_here; (with_reducible show wpAny _ _ (call (Value.ref _) []) _ _ _); k_dflt (refine' bound_init ?k1 ?k2 ?k3 ?k4 ?_; (case k1 => k_asm); (case k2 => k_asm); (case k3 => k_mem); (case k4 => k_upd); k_whole; intro h'q F'q N'q; (try k_sweep))) | ((with_reducible show wpAny _ _ (call (Value.ref _) _) _ _ _); (k_here; k_dflt (refine' call_acc ?k1 ?k2 ?k3 ?k4 ?k5 ?k6 ?_; (case k1 => k_asm); (case k2 => k_asm); (case k3 => k_asm); (case k5 => k_is); (case k6 => k_is); (case k4 => kernel_rfl); intro x'q d'q h'q F'q N'q l1q l2q; (have l3 := fun q hq => Nat.lt_trans (l1q q hq) l2q); (try k_lt l3); (try k_lt l1q); (try k_lt2 l2q); refine' ks_code_super ?k1 ?k2 ?k3 ?k4 ?k5 ?kA ?kF ?kK ?k6 ?k7 ?k8 ?k9 ?kB ?_ ?c1 ?c2 ?c3 ?c4; (case kA => exact rfl); (case kF => exact rfl); (case kK => exact rfl); (case k1 => k_asm); (case k2 => k_asm); (case k3 => k_asm); (case k4 => k_asm); (case k5 => k_asm); (case k6 => k_is); (case k7 => k_is); (case k9 => exact binds_K (by k_in) rfl (by k_is) rfl rfl rfl); (case kB => exact locs rfl); (case c1 => decide); (case c2 => exact rfl); (case c3 => exact rfl); (case c4 => exact rfl); (case k8 => k_room); intro g'q L'q h'q FG'q F'q N'q B'q X'q T'q l1q; (try k_lt l1q); (try dsimp only); (try k_lift B'q))))) | ((with_reducible show wpAny _ _ (binaryOp Operator.Mult (Value.str _ _) (Value.int _ _)) _ _ _); (k_here; k_dflt (refine' KXi.mul (n := 1) ?a ?b ?c ?d ?_; (case a => rfl); (case b => decide); (case c => omega); (case d => omega); k_whole; intro t'q k'q _ _))) | ((with_reducible show wpAny _ _ (getMethod (Value.ref _) _ _) _ _ _); (k_here; k_dflt (refine' super_init ?k1 ?k2 ?k3 ?k4 ?k5 ?k6 ?k7 ?k8 ?_; (case k1 => k_asm); (case k2 => k_asm); (case k3 => k_asm); (case k4 => k_mem); (case k5 => k_inst); (case k6 => k_is); (case k7 => k_is); (case k8 => kernel_rfl); k_whole; intro q'q h'q F'q N'q l1q; (try k_lt l1q); (try dsimp only)))) | (k_here; (with_reducible show wpAny _ _ (call (Value.type "range") [Value.int _ _, Value.int _ _]) _ _ _); k_dflt (refine' range2_rows ?F ?N ?_; (case F => k_asm); (case N => k_asm); k_whole; intro h'q tk'q t1'q u1'q v1'q R'q F'q N'q K'q)) | walk1 | (dsimp only; walk1) | (leave1; walk_say "STEP leave1"; try dsimp only) | fail "no step")
  rename IsRange _ _ _ _ _ _ _ _ => hr; rename Fr _ _ _ _ => Fc; rename News _ _ _ _ => Nd
  refine' ⟨_, _, _, _, _, _, _, _, size + 1 - start, FJ w.params start size tz fo fd ll x'q d'q es en tl, rfl, hr, (range_up h1 h2 (by omega)).1, (range_up h1 h2 (by omega)).2, Fc, Nd, ?h0, ?step, ?hR⟩
  case h0 =>
    exact ⟨[], _, _, _, _, _, _, _, tl, rfl, htab, htab2, O0, ⟨(fun _ h => nomatch h), (fun _ h => nomatch h)⟩, rfl, by simp [laidOf], rfl, rfl, rfl, fun _ h => h⟩
  case step =>
    intro i m₁ news₁ it o s₂ ti hi hJ hs hne hlt hoc F₂ N₂
    obtain ⟨tvs, k', ln', o1', o2', t1', t2', tL, tl', rfl, ht1, ht2, O', W', hw, hl, e1, e2, e3, hsub⟩ := hJ
    obtain ⟨hh, gg, tk, rfl, hgm⟩ := hs
    have N₃ := news_move N₂
    have O₃ : Off7 fo fd ll x'q d'q ((it, o) :: tl') := O'.snoc (fun e => hne (161, o1') (by simp) e.symm) (fun e => hne (168, o2') (by simp) e.symm) (fun e => hne (fo, instObj 115 fd) (by simp) e.symm) (fun e => hne (fd, dictOf es en) (by simp) e.symm) (fun e => hne (ll, listOf #[] ln') (by simp) e.symm) (fun e => hne (x'q, accObj 199 d'q (refsOf tvs) k') (by simp) e.symm) (fun e => hne (d'q, iniOf w.params t1' t2') (by simp) e.symm)
    have W₃ : Wds tvs ((it, o) :: tl') := W'.more
    have F₃ := Fr_map F₂ (m' := fun y => if y = Str.ofString "length" then some (.int ((start : Int) + (i : Int)) ti) else if y = Str.ofString "folder" then some (.ref fo) else if y = Str.ofString "laid" then some (.int (laidOf start i) tL) else if y = Str.ofString "size" then some (.int (size : Int) tz) else m₁ y) (fun y => by
      by_cases q0 : y = Str.ofString "length"
      · simp only [q0, if_true]
      · by_cases q1 : y = Str.ofString "folder"
        · subst q1; simp only [q0, if_true, if_false]; exact e1.symm
        · by_cases q2 : y = Str.ofString "laid"
          · subst q2; simp only [q0, q1, if_true, if_false]; exact e2.symm
          · by_cases q3 : y = Str.ofString "size"
            · subst q3; simp only [q0, q1, q2, if_true, if_false]; exact e3.symm
            · simp only [q0, q1, q2, q3, if_false])
    clear F₂ N₂
    have hx0 : ((wordI ((start : Int) + (i : Int))).length : Int) = (start : Int) + (i : Int) := wordI_len (by omega)
    have hsl : sumLen tvs = laidOf start i := sumLen_words h1 hw
    have htl : tvs.length = i := words_len hw
    obtain ⟨g1, g2, ⟨ts', g3⟩, g4, n1, n2, n3⟩ := fD
    by_cases hfit : laidOf start (i + 1) ≤ (size : Int)
    · have hfit' : sumLen tvs + ((wordI ((start : Int) + (i : Int))).length : Int) ≤ (size : Int) := by rw [hsl, hx0]; exact hfit
      have hx100 : (wordI ((start : Int) + (i : Int))).length ≤ 100 := by omega
      unfold wordI at hfit' hx100
      repeat' (first | (k_unfold; (try dsimp only)) | (k_end; wrow_close) | ((with_reducible show wpAny _ _ (call (Value.ref _) _) _ _ _); first | (k_here; (k_dflt (show wpAny _ _ (call (Value.ref 63) [Value.ref _, Value.str _ _]) _ _ _)); k_dflt (refine' fstr_call ?k0 ?k1 ?k2 ?k3 ?k4 ?k5 ?k6 ?k7 ?k8 ?k9 ?k10 ?k11 ?k12 ?k13 ?k14 ?k15 ?k16 ?k17 ?k18 ?k19 ?k20 ?_; (case k0 => k_asm); (case k1 => k_asm); (case k2 => k_asm); (case k3 => k_asm); (case k4 => k_asm); (case k5 => k_asm); (case k6 => exact rfl); (case k7 => ktr_room); (case k8 => ktr_units); (case k9 => assumption); (case k10 => assumption); (case k11 => assumption); (case k12 => assumption); (case k13 => assumption); (case k14 => assumption); (case k15 => assumption); (case k16 => assumption); (case k17 => assumption); (case k18 => assumption); (case k19 => assumption); (case k20 => assumption); k_whole; intro t'q h'q gg'q tk'q k'q ln'q o1'q o2'q t1'q t2'q tq'q tr'q ht1'q ht2'q gm'q F'q N'q O'q; (try k_sweep))) | (k_here; (k_dflt (show wpAny _ _ (call (Value.ref 112) [Value.ref _, Value.str _ _, Value.str _ _]) _ _ _)); k_dflt (refine' chunk_over ?k0 ?k1 ?k2 ?k3 ?k4 ?k5 ?k6 ?k7 ?k8 ?k9 ?k10 ?k11 ?k12 ?k13 ?k14 ?k14b ?k15 ?k16 ?k17 ?k18 ?k19 ?k20 ?_; (case k0 => k_asm); (case k1 => k_asm); (case k2 => k_asm); (case k3 => k_asm); (case k4 => k_asm); (case k5 => k_asm); (case k6 => exact rfl); (case k7 => ktr_room); (case k8 => ktr_units); (case k9 => assumption); (case k10 => assumption); (case k11 => assumption); (case k12 => assumption); (case k13 => assumption); (case k14 => assumption); (case k14b => assumption); (case k15 => assumption); (case k16 => assumption); (case k17 => assumption); (case k18 => assumption); (case k19 => assumption); (case k20 => assumption); k_whole; intro t'q l'q h'q gg'q tk'q k'q ln'q o1'q o2'q t1'q t2'q tq'q ht1'q ht2'q gm'q F'q N'q O'q; (try k_sweep))) | (k_here; (k_dflt (show wpAny _ _ (call (Value.ref 112) [Value.ref _, Value.str _ _, Value.str _ _]) _ _ _)); k_dflt (refine' chunk_fit ?k0 ?k1 ?k2 ?k3 ?k4 ?k5 ?k6 ?k7 ?k8 ?k9 ?k10 ?k11 ?k12 ?k13 ?k14 ?k15 ?k16 ?k17 ?k18 ?_; (case k0 => k_asm); (case k1 => k_asm); (case k2 => k_asm); (case k3 => k_asm); (case k4 => k_asm); (case k5 => k_asm); (case k6 => exact rfl); (case k7 => ktr_room); (case k8 => ktr_units); (case k9 => assumption); (case k10 => assumption); (case k11 => assumption); (case k12 => assumption); (case k13 => assumption); (case k14 => assumption); (case k15 => assumption); (case k16 => omega); (case k17 => assumption); (case k18 => assumption); k_whole; intro t'q h'q gg'q tk'q k'q o1'q ht'q gm'q F'q N'q O'q W'q; (try k_sweep))) | (k_here; (with_reducible show wpAny _ _ (call (Value.ref _) []) _ _ _); k_dflt (refine' bound_init ?k1 ?k2 ?k3 ?k4 ?_; (case k1 => k_asm); (case k2 => k_asm); (case k3 => k_mem); (case k4 => k_upd); k_whole; intro h'q F'q N'q; (try k_sweep))) | ((with_reducible show wpAny _ _ (call (Value.ref _) _) _ _ _); (k_here; k_dflt (refine' call_acc ?k1 ?k2 ?k3 ?k4 ?k5 ?k6 ?_; (case k1 => k_asm); (case k2 => k_asm); (case k3 => k_asm); (case k5 => k_is); (case k6 => k_is); (case k4 => kernel_rfl); intro x'q d'q h'q F'q N'q l1q l2q; (have l3 := fun q hq => Nat.lt_trans (l1q q hq) l2q); (try k_lt l3); (try k_lt l1q); (try k_lt2 l2q); refine' ks_code_super ?k1 ?k2 ?k3 ?k4 ?k5 ?kA ?kF ?kK ?k6 ?k7 ?k8 ?k9 ?kB ?_ ?c1 ?c2 ?c3 ?c4; (case kA => exact rfl); (case kF => exact rfl); (case kK => exact rfl); (case k1 => k_asm); (case k2 => k_asm); (case k3 => k_asm); (case k4 => k_asm); (case k5 => k_asm); (case k6 => k_is); (case k7 => k_is); (case k9 => exact binds_K (by k_in) rfl (by k_is) rfl rfl rfl); (case kB => exact locs rfl); (case c1 => decide); (case c2 => exact rfl); (case c3 => exact rfl); (case c4 => exact rfl); (case k8 => k_room); intro g'q L'q h'q FG'q F'q N'q B'q X'q T'q l1q; (try k_lt l1q); (try dsimp only); (try k_lift B'q))))) | ((with_reducible show wpAny _ _ (binaryOp Operator.Mult (Value.str _ _) (Value.int _ _)) _ _ _); (k_here; k_dflt (refine' KXi.mul (n := 1) ?a ?b ?c ?d ?_; (case a => rfl); (case b => decide); (case c => omega); (case d => omega); k_whole; intro t'q k'q _ _))) | ((with_reducible show wpAny _ _ (getMethod (Value.ref _) _ _) _ _ _); (k_here; k_dflt (refine' super_init ?k1 ?k2 ?k3 ?k4 ?k5 ?k6 ?k7 ?k8 ?_; (case k1 => k_asm); (case k2 => k_asm); (case k3 => k_asm); (case k4 => k_mem); (case k5 => k_inst); (case k6 => k_is); (case k7 => k_is); (case k8 => kernel_rfl); k_whole; intro q'q h'q F'q N'q l1q; (try k_lt l1q); (try dsimp only)))) | (k_here; (with_reducible show wpAny _ _ (call (Value.type "range") [Value.int _ _, Value.int _ _]) _ _ _); k_dflt (refine' range2_rows ?F ?N ?_; (case F => k_asm); (case N => k_asm); k_whole; intro h'q tk'q t1'q u1'q v1'q R'q F'q N'q K'q)) | walk1 | (dsimp only; walk1) | (leave1; walk_say "STEP leave1"; try dsimp only) | fail "no step")
      · exfalso
        rename _ < (_ : Int) => z
        have z2 : laidOf start (i + 1) = laidOf start i + ((start : Int) + (i : Int)) := rfl
        omega
      · rename Fr _ _ _ _ => Fz; rename News _ _ _ _ => Nz; rename Off7 _ _ _ _ _ (_ :: _ :: _) => Oz
        obtain ⟨tt, e0⟩ := nm_head (news_drop (news_drop (news_drop (news_drop (news_drop (news_drop (news_drop Nz)))))))
        subst e0
        refine ⟨_, _, _, _, _, rfl, ?_, Fz, news_back Nz, ?_, tvs ++ [_], _, _, _, _, _, _, _, _, rfl, ?_, ?_, Oz.tail ?_, W'.push hx100, ?_, hfit, rfl, rfl, rfl, ?_⟩
        · assumption
        · have ttn : tt ≠ it := news_ne Nz (.tail _ (.tail _ (.tail _ (.tail _ (.tail _ (.tail _ (.tail _ (.head _)))))))) (.tail _ (.tail _ (.tail _ (.tail _ (.tail _ (.tail _ (.tail _ (.tail _ (.head _))))))))) (by rw [hoc]; exact (by decide : Value.type "tuple" ≠ Value.type "range_iterator"))
          intro q hq
          simp only [List.mem_cons] at hq
          rcases hq with rfl | rfl | rfl | rfl | rfl | rfl | rfl | rfl | h
          · exact hne (161, o1') (by simp)
          · exact hne (168, o2') (by simp)
          · exact hne (fo, instObj 115 fd) (by simp)
          · exact hne (fd, dictOf es en) (by simp)
          · exact hne (ll, listOf #[] ln') (by simp)
          · exact hne (x'q, accObj 199 d'q (refsOf tvs) k') (by simp)
          · exact hne (d'q, iniOf w.params t1' t2') (by simp)
          · exact ttn
          · exact hne q (by simp [h])
        · assumption
        · assumption
        · intro q hq
          first | (revert q; (repeat (refine sub_cons (by repeat (first | exact List.mem_cons_self | apply List.mem_cons_of_mem)) ?_)); (first | exact (fun _ h => absurd h List.not_mem_nil) | (intro x9 hx9; repeat (first | exact hx9 | exact hs x9 hx9 | apply List.mem_cons_of_mem)))) | (simp only [List.mem_cons] at hq ⊢; rcases hq with h | h <;> simp [h])
        · rw [List.map_append, hw, wordsFrom_succ]; rfl
        · exact fun q hq => List.mem_cons_of_mem _ (hsub q hq)
    · have hi1 : 1 ≤ i := by
        rcases Nat.eq_zero_or_pos i with rfl | h
        · exact absurd (show laidOf start 1 ≤ (size : Int) by simp only [laidOf]; omega) hfit
        · exact h
      rcases List.eq_nil_or_concat tvs with rfl | ⟨us, u, rfl⟩
      · simp at htl; omega
      rw [List.concat_eq_append] at *
      have N₄ := news_dup N₃ (W₃.mem u (by simp))
      have O₄ := O₃.dup (W₃.mem u (by simp))
      have W₄ : Wds (us ++ [u]) (tup2 u :: (it, o) :: tl') := W₃.more
      have hback : u.2.1.cps.back? = some 59 := words_snoc h1 hw
      have husl : us.length < 90 := by simp at htl; omega
      have hfit' : (size : Int) < sumLen (us ++ [u]) + ((wordI ((start : Int) + (i : Int))).length : Int) := by
        rw [hsl, hx0]
        have z2 : laidOf start (i + 1) = laidOf start i + ((start : Int) + (i : Int)) := rfl
        omega
      have hx100 : (wordI ((start : Int) + (i : Int))).length ≤ 100 := by omega
      have hlv : (#[] : Array Value).size < 500 := by decide
      unfold wordI at hfit' hx100
      repeat' (first | (k_unfold; (try dsimp only)) | (k_end; wrow_close) | ((with_reducible show wpAny _ _ (call (Value.ref _) _) _ _ _); first | (k_here; (k_dflt (show wpAny _ _ (call (Value.ref 63) [Value.ref _, Value.str _ _]) _ _ _)); k_dflt (refine' fstr_call ?k0 ?k1 ?k2 ?k3 ?k4 ?k5 ?k6 ?k7 ?k8 ?k9 ?k10 ?k11 ?k12 ?k13 ?k14 ?k15 ?k16 ?k17 ?k18 ?k19 ?k20 ?_; (case k0 => k_asm); (case k1 => k_asm); (case k2 => k_asm); (case k3 => k_asm); (case k4 => k_asm); (case k5 => k_asm); (case k6 => exact rfl); (case k7 => ktr_room); (case k8 => ktr_units); (case k9 => assumption); (case k10 => assumption); (case k11 => assumption); (case k12 => assumption); (case k13 => assumption); (case k14 => assumption); (case k15 => assumption); (case k16 => assumption); (case k17 => assumption); (case k18 => assumption); (case k19 => assumption); (case k20 => assumption); k_whole; intro t'q h'q gg'q tk'q k'q ln'q o1'q o2'q t1'q t2'q tq'q tr'q ht1'q ht2'q gm'q F'q N'q O'q; (try k_sweep))) | (k_here; (k_dflt (show wpAny _ _ (call (Value.ref 112) [Value.ref _, Value.str _ _, Value.str _ _]) _ _ _)); k_dflt (refine' chunk_over ?k0 ?k1 ?k2 ?k3 ?k4 ?k5 ?k6 ?k7 ?k8 ?k9 ?k10 ?k11 ?k12 ?k13 ?k14 ?k14b ?k15 ?k16 ?k17 ?k18 ?k19 ?k20 ?_; (case k0 => k_asm); (case k1 => k_asm); (case k2 => k_asm); (case k3 => k_asm); (case k4 => k_asm); (case k5 => k_asm); (case k6 => exact rfl); (case k7 => ktr_room); (case k8 => ktr_units); (case k9 => assumption); (case k10 => assumption); (case k11 => assumption); (case k12 => assumption); (case k13 => assumption); (case k14 => assumption); (case k14b => assumption); (case k15 => assumption); (case k16 => assumption); (case k17 => assumption); (case k18 => assumption); (case k19 => assumption); (case k20 => assumption); k_whole; intro t'q l'q h'q gg'q tk'q k'q ln'q o1'q o2'q t1'q t2'q tq'q ht1'q ht2'q gm'q F'q N'q O'q; (try k_sweep))) | (k_here; (k_dflt (show wpAny _ _ (call (Value.ref 112) [Value.ref _, Value.str _ _, Value.str _ _]) _ _ _)); k_dflt (refine' chunk_fit ?k0 ?k1 ?k2 ?k3 ?k4 ?k5 ?k6 ?k7 ?k8 ?k9 ?k10 ?k11 ?k12 ?k13 ?k14 ?k15 ?k16 ?k17 ?k18 ?_; (case k0 => k_asm); (case k1 => k_asm); (case k2 => k_asm); (case k3 => k_asm); (case k4 => k_asm); (case k5 => k_asm); (case k6 => exact rfl); (case k7 => ktr_room); (case k8 => ktr_units); (case k9 => assumption); (case k10 => assumption); (case k11 => assumption); (case k12 => assumption); (case k13 => assumption); (case k14 => assumption); (case k15 => assumption); (case k16 => omega); (case k17 => assumption); (case k18 => assumption); k_whole; intro t'q h'q gg'q tk'q k'q o1'q ht'q gm'q F'q N'q O'q W'q; (try k_sweep))) | (k_here; (with_reducible show wpAny _ _ (call (Value.ref _) []) _ _ _); k_dflt (refine' bound_init ?k1 ?k2 ?k3 ?k4 ?_; (case k1 => k_asm); (case k2 => k_asm); (case k3 => k_mem); (case k4 => k_upd); k_whole; intro h'q F'q N'q; (try k_sweep))) | ((with_reducible show wpAny _ _ (call (Value.ref _) _) _ _ _); (k_here; k_dflt (refine' call_acc ?k1 ?k2 ?k3 ?k4 ?k5 ?k6 ?_; (case k1 => k_asm); (case k2 => k_asm); (case k3 => k_asm); (case k5 => k_is); (case k6 => k_is); (case k4 => kernel_rfl); intro x'q d'q h'q F'q N'q l1q l2q; (have l3 := fun q hq => Nat.lt_trans (l1q q hq) l2q); (try k_lt l3); (try k_lt l1q); (try k_lt2 l2q); refine' ks_code_super ?k1 ?k2 ?k3 ?k4 ?k5 ?kA ?kF ?kK ?k6 ?k7 ?k8 ?k9 ?kB ?_ ?c1 ?c2 ?c3 ?c4; (case kA => exact rfl); (case kF => exact rfl); (case kK => exact rfl); (case k1 => k_asm); (case k2 => k_asm); (case k3 => k_asm); (case k4 => k_asm); (case k5 => k_asm); (case k6 => k_is); (case k7 => k_is); (case k9 => exact binds_K (by k_in) rfl (by k_is) rfl rfl rfl); (case kB => exact locs rfl); (case c1 => decide); (case c2 => exact rfl); (case c3 => exact rfl); (case c4 => exact rfl); (case k8 => k_room); intro g'q L'q h'q FG'q F'q N'q B'q X'q T'q l1q; (try k_lt l1q); (try dsimp only); (try k_lift B'q))))) | ((with_reducible show wpAny _ _ (binaryOp Operator.Mult (Value.str _ _) (Value.int _ _)) _ _ _); (k_here; k_dflt (refine' KXi.mul (n := 1) ?a ?b ?c ?d ?_; (case a => rfl); (case b => decide); (case c => omega); (case d => omega); k_whole; intro t'q k'q _ _))) | ((with_reducible show wpAny _ _ (getMethod (Value.ref _) _ _) _ _ _); (k_here; k_dflt (refine' super_init ?k1 ?k2 ?k3 ?k4 ?k5 ?k6 ?k7 ?k8 ?_; (case k1 => k_asm); (case k2 => k_asm); (case k3 => k_asm); (case k4 => k_mem); (case k5 => k_inst); (case k6 => k_is); (case k7 => k_is); (case k8 => kernel_rfl); k_whole; intro q'q h'q F'q N'q l1q; (try k_lt l1q); (try dsimp only)))) | (k_here; (with_reducible show wpAny _ _ (call (Value.type "range") [Value.int _ _, Value.int _ _]) _ _ _); k_dflt (refine' range2_rows ?F ?N ?_; (case F => k_asm); (case N => k_asm); k_whole; intro h'q tk'q t1'q u1'q v1'q R'q F'q N'q K'q)) | walk1 | (dsimp only; walk1) | (leave1; walk_say "STEP leave1"; try dsimp only) | fail "no step")
      · rename Fr _ _ _ _ => Fz; rename News _ _ _ _ => Nz; rename Off7 _ _ _ _ _ (_ :: _ :: _) => Oz; rename GenMoved _ _ => gz
        refine (show _ ∧ _ from ⟨rfl, ?_⟩)
        refine ⟨_, _, _, _, rfl, hgm.trans gz, Fz, rfl, [], (_, _, _, _), _, [flatS (wordsFrom start i)], _, _, i, _, _, _, _, _, news_swap8 Nz, ?_, ?_, Oz.tail ?_, ⟨?_, ?_⟩, ?_, ?_, ?_, ?_, hi1, hl, Or.inr ⟨rfl, rfl, ?_⟩⟩
        · assumption
        · assumption
        · intro q hq
          first | (revert q; (repeat (refine sub_cons (by repeat (first | exact List.mem_cons_self | apply List.mem_cons_of_mem)) ?_)); (first | exact (fun _ h => absurd h List.not_mem_nil) | (intro x9 hx9; repeat (first | exact hx9 | exact hs x9 hx9 | apply List.mem_cons_of_mem)))) | (simp only [List.mem_cons] at hq ⊢; rcases hq with h | h | h | h | h <;> simp [h])
        · intro q hq
          rw [List.mem_singleton.mp hq]; exact List.mem_cons_self
        · intro q hq
          rw [List.mem_singleton.mp hq]; exact hx100
        · decide
        · simp
        · rw [← hw]; exact .cons _ _ .nil
        · intro q hq
          simp only [List.mem_cons]
          simp [hsub q hq]
        · have z2 : laidOf start (i + 1) = laidOf start i + ((start : Int) + (i : Int)) := rfl
          omega
      · exfalso
        rename ¬ (_ < (_ : Int)) => z
        have z2 : laidOf start (i + 1) = laidOf start i + ((start : Int) + (i : Int)) := rfl
        omega
  case hR =>
    intro h' gg tk m' news' F' N' hJ hgm
    obtain ⟨tvs, k', ln', o1', o2', t1', t2', tL, tl', rfl, ht1, ht2, O', W', hw, hl, e1, e2, e3, hsub⟩ := hJ
    have htl : tvs.length = size + 1 - start := words_len hw
    rcases List.eq_nil_or_concat tvs with rfl | ⟨us, u, rfl⟩
    · simp at htl; omega
    rw [List.concat_eq_append] at *
    have hm := W'.mem u (by simp)
    have husl : us.length < 90 := by simp at htl; omega
    exact ⟨rfl, h', gg, tk, m', rfl, hgm, F', e1, us, u, #[], [], k', ln', size + 1 - start, o1', o2', t1', t2', tl', news_dup N' hm, ht1, ht2, O'.dup hm, W'.more, husl, by decide, .nil, hsub, by omega, hl, Or.inl ⟨rfl, hw, rfl⟩⟩
end
section
theorem calm58 {M : PySem.Model} {A : PySem.Around} {Q : Unit → PySem.Shared → Prop} {E : PySem.Value → PySem.Shared → Prop} {s : PySem.Shared} (h : Q () s) : PySem.wpAny M A (pure ()) Q E s := by
  w_top off
  first | (walk1; done) | exact PySem.wpAny_pure h
noncomputable def firstI (size start : Nat) : Nat := ((List.range 18).filter fun i => decide (1 ≤ i) && decide (i ≤ size + 1 - start) && decide (laidOf start i ≤ (size : Int))).length
theorem firstI_all : ((List.range 17).all fun size => (List.range 17).all fun start => (List.range 17).all fun i => !(decide (1 ≤ start) && decide (start ≤ size) && decide (1 ≤ i) && decide (laidOf start i ≤ (size : Int)) && (decide (i = size + 1 - start) || decide ((size : Int) < laidOf start (i + 1)))) || decide (i = firstI size start)) = true := by decide +kernel
theorem firstI_eq {size start i : Nat} (h1 : 1 ≤ start) (h2 : start ≤ size) (h3 : size ≤ 16) (h4 : 1 ≤ i) (h5 : laidOf start i ≤ (size : Int)) (h6 : i = size + 1 - start ∨ (size : Int) < laidOf start (i + 1)) : i = firstI size start := by
  have hi : i < 17 := by have := laid_ge start i h1; omega
  have := List.all_eq_true.mp (List.all_eq_true.mp (List.all_eq_true.mp firstI_all size (List.mem_range.mpr (by omega))) start (List.mem_range.mpr (by omega))) i (List.mem_range.mpr hi)
  have h6' : (decide (i = size + 1 - start) || decide ((size : Int) < laidOf start (i + 1))) = true := by
    rcases h6 with h | h
    · rw [decide_eq_true h]; rfl
    · rw [decide_eq_true h, Bool.or_true]
  rw [decide_eq_true h1, decide_eq_true h2, decide_eq_true h4, decide_eq_true h5, h6'] at this
  simpa using this
/-- the two marks of a start, if its first row is full -/
noncomputable def marksAt (size start : Nat) : List Int := if laidOf start (firstI size start) = (size : Int) then [(firstI size start : Int), 2 * (start : Int) + (firstI size start : Int) - 1] else []
noncomputable def marksRaw (size : Nat) : Nat → List Int
  | 0 => []
  | n + 1 => marksRaw size n ++ marksAt size (n + 1)
noncomputable def MJ (size : Nat) (tz : Tok) (ml : Addr) (tl : List (Addr × Obj)) (i : Nat) (m' : Str → Option Value) (news' : List (Addr × Obj)) : Prop :=
  ∃ (o1 o2 : Obj) (vs : List Value) (n : Nat) (tl' : List (Addr × Obj)), news' = (161, o1) :: (168, o2) :: (ml, listOf vs.toArray n) :: tl' ∧ Tab o1 ∧ Tab o2 ∧ (∀ p ∈ tl', p.1 ≠ 161 ∧ p.1 ≠ 168 ∧ p.1 ≠ ml) ∧ IntsAre vs (marksRaw size i) ∧ m' "marks" = some (.ref ml) ∧ m' "size" = some (.int (size : Int) tz) ∧ ∀ q ∈ tl, q ∈ tl'
noncomputable def piecesOf (start i : Nat) : List Str := (List.range i).map fun k : Nat => Txt.mul (Str.ofString "-") ((start : Int) + (k : Int) - 1)
theorem pieces_all : ((List.range 17).all fun start => (List.range 17).all fun i => !(decide (1 ≤ start) && decide (1 ≤ i) && decide (laidOf start i ≤ 16)) || (decide (Txt.split (flatS (wordsFrom start i)) (Str.ofString ";") = piecesOf start i ++ [Str.ofString ""]))) = true := by decide +kernel
theorem pieces_split {start i : Nat} (h1 : 1 ≤ start) (h2 : start < 17) (h3 : 1 ≤ i) (h4 : i < 17) (h5 : laidOf start i ≤ 16) : Txt.split (flatS (wordsFrom start i)) (Str.ofString ";") = piecesOf start i ++ [Str.ofString ""] := by
  have := List.all_eq_true.mp (List.all_eq_true.mp pieces_all start (List.mem_range.mpr h2)) i (List.mem_range.mpr h4)
  rw [decide_eq_true h1, decide_eq_true h3, decide_eq_true h5] at this
  simpa using this
theorem pick_init (ys : Array Value) (v : Value) : slicePick (ys.push v) none (some (-1)) none = ys := by
  rw [kmk_pick_nat (ys.push v) (a := 0) (b := ys.size) (by
    simp only [sliceBounds, Option.getD_none, show (1 : Int) > 0 by decide, if_true, show ((-1 : Int) < 0) from by decide, Array.size_push]
    congr 1
    congr 1
    omega)]
  apply Array.ext'
  simp
theorem snoc_of {l : List (Str × Tok)} {xs : List Str} {y : Str} (e : l.map (·.1) = xs ++ [y]) : ∃ l1 t0, l = l1 ++ [(y, t0)] ∧ l1.map (·.1) = xs := by
  rcases List.eq_nil_or_concat l with rfl | ⟨l1, p, rfl⟩
  · simp at e
  · rw [List.concat_eq_append, List.map_append] at *
    obtain ⟨e1, e2⟩ := List.append_inj' e rfl
    obtain ⟨a, b⟩ := p
    have : a = y := by simpa using e2
    subst this
    exact ⟨l1, b, rfl, e1⟩
theorem values_snoc (l1 : List (Str × Tok)) (y : Str) (t : Tok) : (strValues (l1 ++ [(y, t)])).toArray = (strValues l1).toArray.push (.str y t) := by
  simp [strValues]
theorem pieces_len (a j : Nat) : (piecesOf a j).length = j := by simp [piecesOf]
theorem values_size {l1 : List (Str × Tok)} {xs : List Str} (e : l1.map (·.1) = xs) : (strValues l1).toArray.size = xs.length := by
  subst e; simp [strValues]
theorem values_are {l1 : List (Str × Tok)} {xs : List Str} (e : l1.map (·.1) = xs) : StrsAre (strValues l1) xs := by
  subst e
  induction l1 with
  | nil => exact .nil
  | cons p t ih => exact .cons _ _ ih
theorem piece_len {a j k : Nat} (h : k < j) (ha : 1 ≤ a) : (((piecesOf a j).getD k Str.empty).length : Int) = (a : Int) + (k : Int) - 1 := by
  have e : (piecesOf a j).getD k Str.empty = Txt.mul (Str.ofString "-") ((a : Int) + (k : Int) - 1) := by
    simp [piecesOf, List.getD, h]
  rw [e, len_mul, if_neg (by simp; omega)]
  have e1 : (Str.ofString "-").length = 1 := rfl
  rw [e1]; omega
theorem marksAt_len (size s : Nat) : (marksAt size s).length ≤ 2 := by unfold marksAt; split <;> simp
theorem marksRaw_len (size : Nat) : ∀ i, (marksRaw size i).length ≤ 2 * i
  | 0 => by simp [marksRaw]
  | i + 1 => by
    have := marksRaw_len size i
    have := marksAt_len size (i + 1)
    simp only [marksRaw, List.length_append]
    omega
theorem ints_more {vs : List Value} {ns : List Int} (h : IntsAre vs ns) {a b x y : Int} {t u : Tok} (e1 : x = a) (e2 : y = b) : IntsAre (vs ++ [.int x t, .int y u]) (ns ++ [a, b]) := by
  subst e1 e2
  induction h with
  | nil => exact .cons _ _ (.cons _ _ .nil)
  | cons i t _ ih => exact .cons i t ih
theorem marks_news {h₀ h : Heap} {L : Addr} {x1 x2 x3 a b it c : Addr × Obj} {tl : List (Addr × Obj)} (N : News h₀ L h (x1 :: x2 :: x3 :: a :: b :: it :: c :: tl)) : News h₀ L h (it :: a :: b :: c :: tl) := fun q hq => N q (by
  first | (revert q; (repeat (refine sub_cons (by repeat (first | exact List.mem_cons_self | apply List.mem_cons_of_mem)) ?_)); (first | exact (fun _ h => absurd h List.not_mem_nil) | (intro x9 hx9; repeat (first | exact hx9 | exact hs x9 hx9 | apply List.mem_cons_of_mem)))) | (simp only [List.mem_cons] at hq ⊢; rcases hq with h | h | h | h | h <;> simp [h]))
theorem marks_news0 {h₀ h : Heap} {L : Addr} {a b it c : Addr × Obj} {tl : List (Addr × Obj)} (N : News h₀ L h (a :: b :: it :: c :: tl)) : News h₀ L h (it :: a :: b :: c :: tl) := fun q hq => N q (by
  first | (revert q; (repeat (refine sub_cons (by repeat (first | exact List.mem_cons_self | apply List.mem_cons_of_mem)) ?_)); (first | exact (fun _ h => absurd h List.not_mem_nil) | (intro x9 hx9; repeat (first | exact hx9 | exact hs x9 hx9 | apply List.mem_cons_of_mem)))) | (simp only [List.mem_cons] at hq ⊢; rcases hq with h | h | h | h | h <;> simp [h]))
theorem arr_app2 (vs : List Value) (a b : Value) : vs.toArray ++ #[a, b] = (vs ++ [a, b]).toArray := by simp
theorem marks_fin {h₀ h : Heap} {L : Addr} {d a b c : Addr × Obj} {tl tl' : List (Addr × Obj)} (N : News h₀ L h (d :: a :: b :: c :: tl')) (hs : ∀ q ∈ tl, q ∈ tl') : News h₀ L h (d :: a :: b :: tl) := fun q hq => N q (by
  simp only [List.mem_cons] at hq ⊢
  rcases hq with h | h | h | h
  · simp [h]
  · simp [h]
  · simp [h]
  · simp [hs q h])
end
end
section
theorem calm59 {M : PySem.Model} {A : PySem.Around} {Q : Unit → PySem.Shared → Prop} {E : PySem.Value → PySem.Shared → Prop} {s : PySem.Shared} (h : Q () s) : PySem.wpAny M A (pure ()) Q E s := by
  w_top off
  first | (walk1; done) | exact PySem.wpAny_pure h
local macro_rules | `(tactic| walk_at "call type:range") => `(tactic| (k_here; (with_reducible show wpAny _ _ (call (Value.type "range") [Value.int _ _, Value.int _ _]) _ _ _); k_dflt (refine' range2_rows ?F ?N ?_; (case F => k_asm); (case N => k_asm); k_whole; intro h' tk' t1' u1' v1' R' F' N' K')))
local macro_rules | `(tactic| walk_at "call ref") => `(tactic| (k_here; (k_dflt (show wpAny _ _ (call (Value.ref 276) [Value.int _ _, Value.int _ _]) _ _ _)); k_dflt (refine' first_call ?k0 ?k1 ?k2 ?k3 ?k4 ?k5 ?k6 ?k7 ?k8 ?k9 ?k10 ?k11 ?k12 ?k13 ?k14 ?_; (case k0 => k_asm); (case k1 => k_asm); (case k2 => k_asm); (case k3 => k_asm); (case k4 => assumption); (case k5 => assumption); (case k6 => k_asm); (case k7 => exact rfl); (case k8 => ktr_room); (case k9 => ktr_units); (case k10 => assumption); (case k11 => assumption); (case k12 => assumption); (case k13 => assumption); (case k14 => assumption); k_whole; intro j' h' gg' tk' o1' o2' tr' hj1' hj2' hj3' ht1' ht2' gm' F' N'; (try k_sweep))))
local macro_rules | `(tactic| walk_at "subscriptTail Name Slice ref ref") => `(tactic| (k_here; k_dflt (refine' kmk_slice ?F ?N ?l ?p ?q ?_ ?s ?t ?z; (case F => k_asm); (case N => k_asm); (case l => exact News.isList (n := _) (by k_asm) (by k_mem)); (case p => first | exact IsPart.none | exact IsPart.int _ _); (case q => first | exact IsPart.none | exact IsPart.int _ _); (case s => with_unfolding_all rfl); (case t => (intro _; with_unfolding_all rfl)); (case z => (simp only [Array.size_push]; rw [sizeLine_eq]; omega))); intro D' h' F' N' l1; (try k_lt l1); (try rw [pick_init] at N')))
theorem marks_call {w : World} {p : Program} {loose : List Str} {mean : ExcName → Option Value} {mg mb : Str → Option Value}
  {dp un : Nat} {gd : Option (List Code)} {cn : Str} {cs : Scope} {a : Addr} {ccd : Value} {cl : List (Str × Addr)} {outer : List Env} {A₀ : Around} {base h₀ : Heap} {L : Addr} {m : Str → Option Value} {s : Shared} {Q : Value → Shared → Prop} {E : Value → Shared → Prop}
  {o1 o2 : Obj} {tl : List (Addr × Obj)} {size : Nat} {tz : Tok} 
  (B : Below A₀ base outer h₀) (F : Fr h₀ L s.heap m) (X : (heap39 w.params).In h₀)
  (N : News h₀ L s.heap ((161, o1) :: (168, o2) :: tl)) (u1 : ∀ p ∈ tl, p.1 ≠ 161) (u2 : ∀ p ∈ tl, p.1 ≠ 168)
  (T : Top p loose mean mg mb h₀) (hk : cs.kind = .function) (hd' : dp + 400 < recursionLimit) (hu : un + 3000 < cLine)
  (htab : Tab o1) (htab2 : Tab o2) (h1 : 1 ≤ size) (h3 : size ≤ 16)
  (hret : ∀ (D : Addr) (vs : List Value) (ns : List Int) (c : Nat) (h' : Heap) (gg : Array GenState) (tk' : Nat) (o1' o2' : Obj), Tab o1' → Tab o2' → GenMoved s.gens gg → Fr h₀ L h' m →
    News h₀ L h' ((D, listOf vs.toArray c) :: (161, o1') :: (168, o2') :: tl) → (∀ p ∈ tl, @LT.lt Nat _ p.1 D) → IntsAre vs ns → ns.Perm (marksRaw size size) → ns.Pairwise (· ≤ ·) → Q (.ref D) { s with heap := h', gens := gg, toks := tk' }) :
   wpAny (model PP w) (ktrTop dp un gd cn cs L a ccd cl outer) (call (.ref (nat_lit 283)) [.int (size : Int) tz]) Q E s := by
  have _k : (fun (_ : OpenLaw) => True) PySem.Challenge.rw_tc0068_02 ∧ heap39 = heap39 := by
    k_fill
    exact ⟨trivial, rfl⟩
  clear _k
  refine wpAny_call ?_
  refine' code_def ?k1 ?k2 ?k3 ?k4 ?k5 ?kA ?kF ?kK ?k6 ?k7 ?k8 ?k9 ?kB ?_ ?c2 ?c3 ?c4 ?c5; (case kA => exact rfl); (case kF => exact rfl); (case kK => assumption); (case k1 => k_asm); (case k2 => k_asm); (case k3 => k_asm); (case k4 => k_asm); (case k5 => k_asm); (case k6 => k_is); (case k7 => k_is); (case k8 => ktr_room); (case k9 => exact BindsTo.of_eq rfl); (case c5 => decide); (case kB => exact locs rfl); (case c2 => exact rfl); (case c3 => exact rfl); (case c4 => exact rfl); k_whole; intro g' L' h' FG' F' N' B' X' T'; (try dsimp only); (try k_lift B'); (try k_fold)
  repeat' ((fail_if_success (with_reducible show wpAny _ _ (exec (Stmt.For _ _ _ _ _) _) _ _ _)); (first | (k_unfold; (try dsimp only)) | (k_end; wrow_close) | walk1 | (dsimp only; walk1) | (leave1; walk_say "STEP leave1"; try dsimp only) | fail "no step"))
  k_here
  rename Fr _ _ _ _ => Fa; rename News _ _ _ _ => Na
  rename_i ml _ _ _
  have hA : AllLt ml tl := (‹161 < ml ∧ 168 < ml ∧ AllLt ml tl›).2.2
  have hml : ∀ p ∈ tl, p.1 ≠ ml := fun q hq e => Nat.lt_irrefl _ (e ▸ allLt_mem hA q hq)
  have Nb : News _ _ _ ((161, o1) :: (168, o2) :: (ml, listOf #[] 0) :: tl) := fun q hq => Na q (by
    first | (revert q; (repeat (refine sub_cons (by repeat (first | exact List.mem_cons_self | apply List.mem_cons_of_mem)) ?_)); (first | exact (fun _ h => absurd h List.not_mem_nil) | (intro x9 hx9; repeat (first | exact hx9 | exact hs x9 hx9 | apply List.mem_cons_of_mem)))) | (simp only [List.mem_cons] at hq ⊢; rcases hq with h | h | h | h <;> simp [h]))
  have hm1 : ml ≠ 161 := by k_ne
  have hm2 : ml ≠ 168 := by k_ne
  refine' For_range Fa ?hx ?hp ?hh ?_ ?hs ?hE
  case hx => exact rfl
  case hp => exact rfl
  case hh => exact rfl
  case hs => intro _; exact rfl
  case hE => passes_own
  k_steps
  rename IsRange _ _ _ _ _ _ _ _ => hr; rename Fr _ _ _ _ => Fc; rename News _ _ _ _ => Nd
  refine' ⟨_, _, _, _, _, _, _, _, size, MJ size tz ml tl, rfl, hr, (range_up (a := 1) (by decide) h1 (by omega)).1, (range_up (a := 1) (by decide) h1 (by omega)).2.trans (by omega), Fc, Nd, ?h0, ?step, ?hR⟩
  case h0 => exact ⟨_, _, [], _, tl, rfl, htab, htab2, fun p hp => ⟨u1 p hp, u2 p hp, hml p hp⟩, .nil, rfl, rfl, fun _ h => h⟩
  case step =>
    intro i m₁ news₁ it o s₂ ti hi hJ hs hne hlt hoc F₂ N₂
    obtain ⟨o1', o2', vs, n', tl', rfl, ht1, ht2, hu', hvs, e1, e2, hsub⟩ := hJ
    obtain ⟨hh, gg, tk, rfl, hgm⟩ := hs
    have N₃ : News _ _ _ ((161, o1') :: (168, o2') :: (it, o) :: (ml, listOf vs.toArray n') :: tl') := fun q hq => N₂ q (by
      first | (revert q; (repeat (refine sub_cons (by repeat (first | exact List.mem_cons_self | apply List.mem_cons_of_mem)) ?_)); (first | exact (fun _ h => absurd h List.not_mem_nil) | (intro x9 hx9; repeat (first | exact hx9 | exact hs x9 hx9 | apply List.mem_cons_of_mem)))) | (simp only [List.mem_cons] at hq ⊢; rcases hq with h | h | h | h | h <;> simp [h]))
    have v1 : ∀ p ∈ (it, o) :: (ml, listOf vs.toArray n') :: tl', p.1 ≠ 161 := List.forall_mem_cons.mpr ⟨fun e => hne (161, o1') (by simp) e.symm, List.forall_mem_cons.mpr ⟨hm1, fun p hp => (hu' p hp).1⟩⟩
    have v2 : ∀ p ∈ (it, o) :: (ml, listOf vs.toArray n') :: tl', p.1 ≠ 168 := List.forall_mem_cons.mpr ⟨fun e => hne (168, o2') (by simp) e.symm, List.forall_mem_cons.mpr ⟨hm2, fun p hp => (hu' p hp).2.1⟩⟩
    have F₃ := Fr_map F₂ (m' := fun y => if y = Str.ofString "start" then some (.int ((i + 1 : Nat) : Int) ti) else if y = Str.ofString "marks" then some (.ref ml) else if y = Str.ofString "size" then some (.int (size : Int) tz) else m₁ y) (fun y => by
      by_cases q0 : y = Str.ofString "start"
      · simp only [q0, if_true]; exact congrArg (fun z => some (Value.int z ti)) (by omega)
      · by_cases q1 : y = Str.ofString "marks"
        · subst q1; simp only [q0, if_true, if_false]; exact e1.symm
        · by_cases q3 : y = Str.ofString "size"
          · subst q3; simp only [q0, q1, if_true, if_false]; exact e2.symm
          · simp only [q0, q1, q3, if_false])
    clear F₂ N₂
    have hm3 : @Ne Nat ml it := hne (ml, listOf vs.toArray n') (by simp)
    have hm4 : ∀ p ∈ tl', p.1 ≠ ml := fun p hp => (hu' p hp).2.2
    have hvl : vs.length ≤ 1000 := by
      have z1 := hvs.length
      have z2 := marksRaw_len size i
      omega
    have hvsz : vs.toArray.size ≤ 1000 := by rw [List.size_toArray]; exact hvl
    have hs1 : 1 ≤ i + 1 := by omega
    have hs2 : i + 1 ≤ size := by omega
    k_steps
    rename laidOf _ _ ≤ _ => hj2; rename _ ∨ _ => hj3; rename 1 ≤ _ => hj1
    have ej := firstI_eq hs1 hs2 h3 hj1 hj2 hj3
    subst ej
    have hwl := flat_words_len (start := i + 1) (i := firstI size (i + 1)) hs1
    have hj17 : firstI size (i + 1) < 17 := by have := laid_ge (i + 1) (firstI size (i + 1)) hs1; omega
    have hps := pieces_split hs1 (by omega) hj1 hj17 (by omega)
    refine P.len_str (by omega) ?_
    repeat' ((fail_if_success (with_reducible show wpAny _ _ (call (Value.builtin "str.split") _) _ _ _)); (fail_if_success (with_reducible show TurnG _ _ _ _ _ _ _ _ _)); (first | (k_unfold; (try dsimp only)) | (k_end; wrow_close) | walk1 | (dsimp only; walk1) | (leave1; walk_say "STEP leave1"; try dsimp only) | fail "no step"))
    · refine KSpl.split1 (x := flatS (wordsFrom (i + 1) (firstI size (i + 1)))) (y := Str.ofString ";") (by k_asm) (by k_asm) (by decide) ?_ (by rw [sizeLine_eq]; omega)
      intro D' l' h' k' e' a' F' N' l1
      rw [hps] at e'
      obtain ⟨l2, t0, el, e2⟩ := snoc_of e'
      subst el
      rw [values_snoc] at N'
      clear a' e'
      have hpl := pieces_len (i + 1) (firstI size (i + 1))
      have hsz := values_size e2
      rw [hpl] at hsz
      have hare := values_are e2
      try k_lt l1
      have p0 := piece_len (a := i + 1) (j := firstI size (i + 1)) (k := 0) hj1 hs1
      k_steps
      refine P.len_str (x := (piecesOf (i + 1) (firstI size (i + 1))).getD 0 Str.empty) (by omega) ?_
      k_steps
      have p1 := piece_len (a := i + 1) (j := firstI size (i + 1)) (k := ((-1 : Int) + ((piecesOf (i + 1) (firstI size (i + 1))).length : Int)).toNat) (by rw [hpl]; omega) hs1
      refine P.len_str (x := (piecesOf (i + 1) (firstI size (i + 1))).getD ((-1 : Int) + ((piecesOf (i + 1) (firstI size (i + 1))).length : Int)).toNat Str.empty) (by omega) ?_
      k_steps
      refine' list_iadd (its := vs.toArray) (n := n') (l := ml) ?k1 ?k2 ?k3 ?k4 ?k5 ?k6 ?k7 ?k8 ?_
      case k1 => k_asm
      case k2 => k_asm
      case k3 => k_mem
      case k4 => k_mem
      case k5 => exact hvsz
      case k6 => exact (by decide : (2 : Nat) ≤ 1000)
      case k7 => exact (by decide : 0 < (2 : Nat))
      case k8 => k_upd
      intro h' F' N'
      k_steps
      rename Fr _ _ _ _ => Fz; rename News _ _ _ _ => Nz; rename GenMoved _ _ => gz
      rw [arr_app2] at Nz
      have zeq : laidOf (i + 1) (firstI size (i + 1)) = (size : Int) := by omega
      have z : marksAt size (i + 1) = [(firstI size (i + 1) : Int), 2 * ((i + 1 : Nat) : Int) + (firstI size (i + 1) : Int) - 1] := by
        unfold marksAt
        rw [if_pos zeq]
      refine ⟨_, _, _, _, _, rfl, gz, Fz, marks_news Nz, ?_, ⟨_, _, vs ++ [_, _], _, tl', rfl, ‹_›, ‹_›, hu', ?_, rfl, rfl, hsub⟩⟩
      · intro q hq
        simp only [List.mem_cons] at hq
        rcases hq with rfl | rfl | rfl | h
        · exact hne (161, o1') (by simp)
        · exact hne (168, o2') (by simp)
        · exact hm3
        · exact hne q (by simp [h])
      · simp only [marksRaw, z]
        exact ints_more hvs rfl (by omega)
    · rename Fr _ _ _ _ => Fz; rename News _ _ _ _ => Nz; rename GenMoved _ _ => gz
      rename ¬ (_ = (_ : Int)) => zne
      refine ⟨_, _, _, _, _, rfl, gz, Fz, marks_news0 Nz, ?_, ⟨_, _, vs, _, tl', rfl, ‹_›, ‹_›, hu', ?_, rfl, rfl, hsub⟩⟩
      · intro q hq
        simp only [List.mem_cons] at hq
        rcases hq with rfl | rfl | rfl | h
        · exact hne (161, o1') (by simp)
        · exact hne (168, o2') (by simp)
        · exact hm3
        · exact hne q (by simp [h])
      · have z : marksAt size (i + 1) = [] := by
          unfold marksAt
          rw [if_neg (by rw [← hwl]; exact zne)]
        simp only [marksRaw, z, List.append_nil]
        exact hvs
  case hR =>
    intro h' gg tk m' news' F' N' hJ hgm
    obtain ⟨o1', o2', vs, n', tl', rfl, ht1, ht2, hu', hvs, e1, e2, hsub⟩ := hJ
    have F₃ := Fr_map F' (m' := fun y => if y = Str.ofString "marks" then some (.ref ml) else m' y) (fun y => by
      by_cases q1 : y = Str.ofString "marks"
      · subst q1; simp only [if_true]; exact e1.symm
      · simp only [q1, if_false])
    clear F'
    have hvl : vs.length ≤ 32 := by
      have z1 := hvs.length
      have z2 := marksRaw_len size size
      omega
    k_steps
    rename Fr _ _ _ _ => Fz; rename News _ _ _ _ => Nz; rename IntsAre _ _ => iz; rename List.Perm _ _ => pz; rename List.Pairwise _ _ => wz
    rename_i D _ _ _ _ _ _ _ _ _ _ _ _
    skip
    have hlt : AllLt D tl' := (‹161 < D ∧ 168 < D ∧ ml < D ∧ AllLt D tl'›).2.2.2
    exact hret D _ _ _ _ _ _ _ _ ‹_› ‹_› hgm Fz (marks_fin Nz hsub) (fun q hq => allLt_mem hlt q (hsub q hq)) iz pz wz
end
end
section
local macro_rules | `(tactic| omega) => `(tactic| first | tb_rel | lia)
section
theorem calm60 {M : PySem.Model} {A : PySem.Around} {Q : Unit → PySem.Shared → Prop} {E : PySem.Value → PySem.Shared → Prop} {s : PySem.Shared} (h : Q () s) : PySem.wpAny M A (pure ()) Q E s := by
  w_top off
  first | (walk1; done) | exact PySem.wpAny_pure h
/-- what Whitespace.__init__ counts: count, b, n, nt -/
noncomputable def wsBump (l : List Int) (k : Nat) : List Int := l.set k (l.getD k 0 + 1)
noncomputable def wsGrow (l : List Int) (b : Nat) : List Int := if l.length ≤ b then l ++ List.replicate (b - l.length + 1) 0 else l
noncomputable def wsStep (a : List Int × Nat × Nat × Nat) (c : Nat) : List Int × Nat × Nat × Nat :=
  if c = 32 then (a.1, a.2.1 + 1, a.2.2.1 + 1, a.2.2.2) else (wsBump (wsGrow a.1 a.2.1) a.2.1, 0, a.2.2.1 + 1, a.2.2.2 + 1)
noncomputable def wsAt (x : List Nat) (i : Nat) : List Int × Nat × Nat × Nat := (x.take i).foldl wsStep ([], 0, 0, 0)
theorem wsAt_succ {x : List Nat} {i c : Nat} (h : x[i]? = some c) : wsAt x (i + 1) = wsStep (wsAt x i) c := by
  unfold wsAt
  rw [List.take_add_one, h, List.foldl_append]
  rfl
theorem wsGrow_len (l : List Int) (b : Nat) : (wsGrow l b).length = max l.length (b + 1) := by
  unfold wsGrow
  split
  · simp only [List.length_append, List.length_replicate]; omega
  · omega
theorem wsFold_le : ∀ (y : List Nat) (a : List Int × Nat × Nat × Nat) (k : Nat), a.1.length ≤ k → a.2.1 + 1 ≤ k → (y.foldl wsStep a).1.length ≤ k + y.length ∧ (y.foldl wsStep a).2.1 + 1 ≤ k + y.length ∧ (y.foldl wsStep a).2.2.1 = a.2.2.1 + y.length ∧ (y.foldl wsStep a).2.2.2 ≤ a.2.2.2 + y.length
  | [], a, k, h1, h2 => by simp; omega
  | c :: y, a, k, h1, h2 => by
    have z : (wsStep a c).1.length ≤ k + 1 ∧ (wsStep a c).2.1 + 1 ≤ k + 1 ∧ (wsStep a c).2.2.1 = a.2.2.1 + 1 ∧ (wsStep a c).2.2.2 ≤ a.2.2.2 + 1 := by
      unfold wsStep
      split
      · dsimp only; omega
      · dsimp only
        unfold wsBump
        rw [List.length_set, wsGrow_len]
        omega
    have := wsFold_le y (wsStep a c) (k + 1) z.1 z.2.1
    rw [List.foldl_cons, List.length_cons]
    omega
theorem wsAt_le (x : List Nat) (i : Nat) (hi : i ≤ x.length) : (wsAt x i).1.length ≤ i + 1 ∧ (wsAt x i).2.1 ≤ i ∧ (wsAt x i).2.2.1 = i ∧ (wsAt x i).2.2.2 ≤ i := by
  have := wsFold_le (x.take i) ([], 0, 0, 0) 1 (by simp) (by simp)
  rw [List.length_take] at this
  unfold wsAt
  dsimp only at this
  omega
theorem ws_char {c : Nat} (h : ((⟨#[c]⟩ : Str) == Str.ofString " ") = true) : c = 32 := by
  have := eq_of_beq h
  have e : (Str.ofString " ").cps = #[32] := by rfl
  have z := congrArg Str.cps this
  rw [e] at z
  simpa using z
theorem ws_char' {c : Nat} (h : ((⟨#[c]⟩ : Str) == Str.ofString " ") = false) : c ≠ 32 := by
  rintro rfl
  have : ((⟨#[32]⟩ : Str) == Str.ofString " ") = true := by rfl
  rw [h] at this
  cases this
theorem nm_obj4 {h₀ h : Heap} {L a b c d : Addr} {o1 o2 o3 o : Obj} {news : List (Addr × Obj)} (_ : News h₀ L h ((a, o1) :: (b, o2) :: (c, o3) :: (d, o) :: news)) : ∃ o', o' = o := ⟨o, rfl⟩
theorem tab_char' {c : Nat} (h : ((⟨#[c]⟩ : Str) == Str.ofString "\t") = false) : c ≠ 9 := by
  rintro rfl
  have : ((⟨#[9]⟩ : Str) == Str.ofString "\t") = true := by rfl
  rw [h] at this
  cases this
theorem ws_keep {h₀ h : Heap} {L : Addr} {a b c i x d e : Addr × Obj} {tl : List (Addr × Obj)} (N : News h₀ L h (a :: b :: c :: i :: x :: d :: e :: tl)) : News h₀ L h (i :: x :: d :: a :: tl) := fun q hq => N q (by
  first | (revert q; (repeat (refine sub_cons (by repeat (first | exact List.mem_cons_self | apply List.mem_cons_of_mem)) ?_)); (first | exact (fun _ h => absurd h List.not_mem_nil) | (intro x9 hx9; repeat (first | exact hx9 | exact hs x9 hx9 | apply List.mem_cons_of_mem)))) | (simp only [List.mem_cons] at hq ⊢; rcases hq with h | h | h | h | h <;> simp [h]))
theorem ws_grown {ws : List Value} {cnt : List Int} {b : Nat} {v : Value} (z : (cnt.length : Int) ≤ (b : Int))
    (h : IntsAre (ws.set ((b : Int)).toNat v) ((cnt ++ (List.replicate ((b : Int) - (cnt.length : Int) + 1).toNat [(0 : Int)]).flatten).set ((b : Int)).toNat ((cnt ++ (List.replicate ((b : Int) - (cnt.length : Int) + 1).toNat [(0 : Int)]).flatten).getD ((b : Int)).toNat 0 + 1))) :
    IntsAre (ws.set ((b : Int)).toNat v) (wsBump (wsGrow cnt b) b) := by
  have e : ((b : Int) - (cnt.length : Int) + 1).toNat = b - cnt.length + 1 := by omega
  rw [e, List.flatten_replicate_singleton] at h
  unfold wsBump wsGrow
  rw [if_pos (by omega)]
  simpa using h
theorem ws_same {ws : List Value} {cnt : List Int} {b : Nat} {v : Value} (z : ¬ (cnt.length : Int) ≤ (b : Int))
    (h : IntsAre (ws.set ((b : Int)).toNat v) (cnt.set ((b : Int)).toNat (cnt.getD ((b : Int)).toNat 0 + 1))) :
    IntsAre (ws.set ((b : Int)).toNat v) (wsBump (wsGrow cnt b) b) := by
  unfold wsBump wsGrow
  rw [if_neg (by omega)]
  simpa using h
noncomputable abbrev tupO (vs : Array Value) : Obj := { cls := .type "tuple", data := .seq vs }
/-- the dict of a Whitespace -/
noncomputable abbrev wsDict (P : Params) (x : Str) (tx : Tok) (n nt : Int) (nn : Addr) (bb : Bool) (t2 t3 k1 k2 k3 k4 k5 : Tok) : Obj :=
  dictOf [⟨PyData.keyHash P "raw", .str "raw" k1, .str x tx⟩, ⟨PyData.keyHash P "n", .str "n" k2, .int n t2⟩, ⟨PyData.keyHash P "nt", .str "nt" k3, .int nt t3⟩, ⟨PyData.keyHash P "norm", .str "norm" k4, .ref nn⟩, ⟨PyData.keyHash P "is_simple", .str "is_simple" k5, .bool bb⟩] 5
theorem ws_start {h₀ h : Heap} {L : Addr} {a b x d : Addr × Obj} {tl : List (Addr × Obj)} (N : News h₀ L h (a :: b :: x :: d :: tl)) : News h₀ L h (x :: d :: a :: b :: tl) := fun q hq => N q (by
  first | (revert q; (repeat (refine sub_cons (by repeat (first | exact List.mem_cons_self | apply List.mem_cons_of_mem)) ?_)); (first | exact (fun _ h => absurd h List.not_mem_nil) | (intro x9 hx9; repeat (first | exact hx9 | exact hs x9 hx9 | apply List.mem_cons_of_mem)))) | (simp only [List.mem_cons] at hq ⊢; rcases hq with h | h | h | h | h <;> simp [h]))
theorem ws_end {h₀ h : Heap} {L : Addr} {a b x d e : Addr × Obj} {tl tl' : List (Addr × Obj)} (N : News h₀ L h (a :: b :: x :: d :: e :: tl')) (hs : ∀ q ∈ tl, q ∈ tl') : News h₀ L h (x :: d :: a :: b :: tl) := fun q hq => N q (by
  simp only [List.mem_cons] at hq ⊢
  rcases hq with h | h | h | h | h
  · simp [h]
  · simp [h]
  · simp [h]
  · simp [h]
  · simp [hs q h])
/-- the loop's state -/
noncomputable def WJ (d0 : Obj) (x : Str) (tx : Tok) (self d : Addr) (tl : List (Addr × Obj)) (i : Nat) (m : Str → Option Value) (news : List (Addr × Obj)) : Prop :=
  ∃ (cl : Addr) (vs : List Value) (k : Nat) (tl' : List (Addr × Obj)) (t1 t2 t3 t4 t5 : Tok), news = (self, instObj 265 d) :: (d, d0) :: (cl, listOf vs.toArray k) :: tl' ∧
    (∀ p ∈ tl', @Ne Nat p.1 self ∧ @Ne Nat p.1 d ∧ @Ne Nat p.1 cl) ∧ @Ne Nat self d ∧ @Ne Nat self cl ∧ @Ne Nat d cl ∧ (∀ q ∈ tl, q ∈ tl') ∧ IntsAre vs (wsAt x.cps.toList i).1 ∧
    m (Str.ofString "self") = some (.ref self) ∧ m (Str.ofString "count") = some (.ref cl) ∧ m (Str.ofString "b") = some (.int ((wsAt x.cps.toList i).2.1 : Int) t1) ∧ m (Str.ofString "n") = some (.int ((wsAt x.cps.toList i).2.2.1 : Int) t2) ∧ m (Str.ofString "nt") = some (.int ((wsAt x.cps.toList i).2.2.2 : Int) t3) ∧
    m (Str.ofString "S") = some (.str (Str.ofString " ") t4) ∧ m (Str.ofString "T") = some (.str (Str.ofString "\t") t5)
theorem WJ.of {d0 : Obj} {x : Str} {tx : Tok} {self d : Addr} {tl : List (Addr × Obj)} {i : Nat} {m : Str → Option Value} {cl : Addr} {vs : List Value} {k : Nat} {tl' : List (Addr × Obj)} {t1 t2 t3 t4 t5 : Tok} {cnt : List Int} {b n nt : Nat}
    (hw : wsAt x.cps.toList i = (cnt, b, n, nt)) (hap : ∀ p ∈ tl', @Ne Nat p.1 self ∧ @Ne Nat p.1 d ∧ @Ne Nat p.1 cl) (q1 : @Ne Nat self d) (q2 : @Ne Nat self cl) (q3 : @Ne Nat d cl) (hsub : ∀ q ∈ tl, q ∈ tl') (hvs : IntsAre vs cnt)
    (e1 : m (Str.ofString "self") = some (.ref self)) (e2 : m (Str.ofString "count") = some (.ref cl)) (e3 : m (Str.ofString "b") = some (.int (b : Int) t1)) (e4 : m (Str.ofString "n") = some (.int (n : Int) t2)) (e5 : m (Str.ofString "nt") = some (.int (nt : Int) t3))
    (e6 : m (Str.ofString "S") = some (.str (Str.ofString " ") t4)) (e7 : m (Str.ofString "T") = some (.str (Str.ofString "\t") t5)) :
    WJ d0 x tx self d tl i m ((self, instObj 265 d) :: (d, d0) :: (cl, listOf vs.toArray k) :: tl') :=
  ⟨cl, vs, k, tl', t1, t2, t3, t4, t5, rfl, hap, q1, q2, q3, hsub, by rw [hw]; exact hvs, e1, e2, by rw [hw]; exact e3, by rw [hw]; exact e4, by rw [hw]; exact e5, e6, e7⟩
theorem ws_call {w : World} {p : Program} {loose : List Str} {mean : ExcName → Option Value} {mg mb : Str → Option Value}
  {dp un : Nat} {gd : Option (List Code)} {cn : Str} {cs : Scope} {a : Addr} {ccd : Value} {cl : List (Str × Addr)} {outer : List Env} {A₀ : Around} {base h₀ : Heap} {L : Addr} {m : Str → Option Value} {s : Shared} {Q : Value → Shared → Prop} {E : Value → Shared → Prop}
  {tl : List (Addr × Obj)} {x : Str} {tx : Tok}
  (B : Below A₀ base outer h₀) (F : Fr h₀ L s.heap m) (X : (heap39 w.params).In h₀)
  (N : News h₀ L s.heap tl) 
  (T : Top p loose mean mg mb h₀) (hk : cs.kind = .function) (hd' : dp + 100 < recursionLimit) (hu : un + 1000 < cLine)
  (hx : x.cps.size ≤ 60) (hxa : ∀ c ∈ x.cps.toList, c = 32 ∨ c = 9)
  (hret : ∀ (x' d' nn tc : Addr) (vs : List Value) (bb : Bool) (h' : Heap) (gg : Array GenState) (tk' : Nat) (t1 t2 t3 k1 k2 k3 k4 k5 : Tok), GenMoved s.gens gg → Fr h₀ L h' m →
    News h₀ L h' ((x', instObj 265 d') :: (d', wsDict w.params x tx ((wsAt x.cps.toList x.cps.size).2.2.1 : Nat) ((wsAt x.cps.toList x.cps.size).2.2.2 : Nat) nn bb t2 t3 k1 k2 k3 k4 k5) :: (nn, tupO #[.ref tc, .int ((wsAt x.cps.toList x.cps.size).2.1 : Nat) t1]) :: (tc, tupO vs.toArray) :: tl) →
    (∀ p ∈ tl, @LT.lt Nat _ p.1 d') → @LT.lt Nat _ d' x' → @LT.lt Nat _ x' tc → @LT.lt Nat _ tc nn → IntsAre vs (wsAt x.cps.toList x.cps.size).1 → Q (.ref x') { s with heap := h', gens := gg, toks := tk' }) :
   wpAny (model PP w) (ktrTop dp un gd cn cs L a ccd cl outer) (call (.ref (nat_lit 265)) [.str x tx]) Q E s := by
  have _k : (fun (_ : OpenLaw) => True) PySem.Challenge.rw_tc0068_02 ∧ heap39 = heap39 := by
    k_fill
    exact ⟨trivial, rfl⟩
  clear _k
  refine' call_cls ?k1 ?k2 ?k3 ?k4 ?k5 ?k6 ?_; (case k1 => k_asm); (case k2 => k_asm); (case k3 => k_asm); (case k4 => k_is); (case k5 => k_is); (case k6 => k_is); intro x' d' h' F' N' l1 l2; (try k_lt l1); (try k_lt2 l2)
  refine' code_def ?k1 ?k2 ?k3 ?k4 ?k5 ?kA ?kF ?kK ?k6 ?k7 ?k8 ?k9 ?kB ?_ ?c2 ?c3 ?c4 ?c5; (case kA => exact rfl); (case kF => exact rfl); (case kK => assumption); (case k1 => k_asm); (case k2 => k_asm); (case k3 => k_asm); (case k4 => k_asm); (case k5 => k_asm); (case k6 => k_is); (case k7 => k_is); (case k8 => ktr_room); (case k9 => exact BindsTo.of_eq rfl); (case c5 => decide); (case kB => exact locs rfl); (case c2 => exact rfl); (case c3 => exact rfl); (case c4 => exact rfl); k_whole; intro g' L' h' FG' F' N' B' X' T'; (try dsimp only); (try k_lift B'); (try k_fold)
  repeat' ((fail_if_success (with_reducible show wpAny _ _ (exec (Stmt.For _ _ _ _ _) _) _ _ _)); (first | (k_unfold; (try dsimp only)) | (k_end; wrow_close) | ((with_reducible show wpAny _ _ (call (Value.type _) _) _ _ _); first | (k_here; (with_reducible show wpAny _ _ (call (Value.type "tuple") [Value.ref _]) _ _ _); k_dflt (refine' kde_tupleOf ?k1 ?k2 ?k3 ?k4 ?k5 ?_; (case k1 => k_asm); (case k2 => k_asm); (case k3 => exact News.isList (by k_asm) (by k_mem)); (case k4 => (rw [List.size_toArray]; omega)); (case k5 => exact rfl); k_whole); intro D'q h'q F'q N'q l1q; (try dsimp only [List.toArray_toList] at N'q); (try k_lt l1q); (try k_sweep)) | (k_here; (with_reducible show wpAny _ _ (call (Value.type "range") [Value.int _ _, Value.int _ _]) _ _ _); k_dflt (refine' range2_rows ?F ?N ?_; (case F => k_asm); (case N => k_asm); k_whole; intro h'q tk'q t1'q u1'q v1'q R'q F'q N'q K'q))) | walk1 | (dsimp only; walk1) | (leave1; walk_say "STEP leave1"; try dsimp only) | fail "no step"))
  k_here
  rename Fr _ _ _ _ => Fa; rename News _ _ _ _ => Na
  rename_i l _ _ _ _ _ _
  rename_i D _ _ _ _ _ _ _ _ _ _ _ _
  skip
  obtain ⟨d0, e0⟩ := nm_obj4 Na
  rw [← e0] at Na
  have hxA : x.cps.all (· < 128) = true := by
    rw [← Array.all_toList, List.all_eq_true]
    intro c hc
    rcases hxa c hc with rfl | rfl <;> rfl
  refine' For_text Fa ?hx ?hp ?hh ?_ ?hs ?hE
  case hx => exact rfl
  case hp => exact rfl
  case hh => exact rfl
  case hs => intro _; exact rfl
  case hE => passes_own
  rw [e0] at Na
  repeat' (first | (k_unfold; (try dsimp only)) | (k_end; wrow_close) | ((with_reducible show wpAny _ _ (call (Value.type _) _) _ _ _); first | (k_here; (with_reducible show wpAny _ _ (call (Value.type "tuple") [Value.ref _]) _ _ _); k_dflt (refine' kde_tupleOf ?k1 ?k2 ?k3 ?k4 ?k5 ?_; (case k1 => k_asm); (case k2 => k_asm); (case k3 => exact News.isList (by k_asm) (by k_mem)); (case k4 => (rw [List.size_toArray]; omega)); (case k5 => exact rfl); k_whole); intro D'q h'q F'q N'q l1q; (try dsimp only [List.toArray_toList] at N'q); (try k_lt l1q); (try k_sweep)) | (k_here; (with_reducible show wpAny _ _ (call (Value.type "range") [Value.int _ _, Value.int _ _]) _ _ _); k_dflt (refine' range2_rows ?F ?N ?_; (case F => k_asm); (case N => k_asm); k_whole; intro h'q tk'q t1'q u1'q v1'q R'q F'q N'q K'q))) | walk1 | (dsimp only; walk1) | (leave1; walk_say "STEP leave1"; try dsimp only) | fail "no step")
  rename Fr _ _ _ _ => Fc; rename News _ _ _ _ => Nd
  rw [← e0] at Nd
  refine' ⟨_, _, _, _, WJ d0 x tx x' d' tl, rfl, hxA, Fc, ws_start Nd, ?h0, ?step, ?hR⟩
  case h0 =>
    have hA : D < l ∧ x' < l ∧ d' < l ∧ AllLt l tl := ‹_›
    have hB : x' < D ∧ d' < D ∧ AllLt D tl := ‹_›
    have h2 : @LT.lt Nat _ d' x' := l2
    have h1 : ∀ q ∈ tl, @LT.lt Nat _ q.1 d' := l1
    exact WJ.of (cnt := []) (b := 0) (n := 0) (nt := 0) (vs := []) rfl (List.forall_mem_cons.mpr ⟨⟨Nat.ne_of_gt hB.1, Nat.ne_of_gt hB.2.1, Nat.ne_of_lt hA.1⟩, fun q hq => ⟨Nat.ne_of_lt (Nat.lt_trans (h1 q hq) h2), Nat.ne_of_lt (h1 q hq), Nat.ne_of_lt (allLt_mem hA.2.2.2 q hq)⟩⟩) (Nat.ne_of_gt h2) (Nat.ne_of_lt hA.2.1) (Nat.ne_of_lt hA.2.2.1) (fun q hq => List.mem_cons_of_mem _ hq) .nil rfl rfl rfl rfl rfl rfl rfl
  case step =>
    clear e0
    intro i c m₁ news₁ it o s₂ tk hc hJ hs hne hlt hoc F₂ N₂
    obtain ⟨cl', vs, k, tl', t1, t2, t3, t4, t5, rfl, hap, q1, q2, q3, hsub, hvs, e1, e2, e3, e4, e5, e6, e7⟩ := hJ
    obtain ⟨hh, gg, tk', rfl, hgm⟩ := hs
    have hil : i < x.cps.toList.length := by rw [Array.length_toList]; exact (Array.getElem?_eq_some_iff.mp hc).1
    have hc' : x.cps.toList[i]? = some c := by rw [Array.getElem?_toList]; exact hc
    have hstep := wsAt_succ hc'
    have hle := wsAt_le x.cps.toList i (Nat.le_of_lt hil)
    rw [Array.length_toList] at hil
    generalize hw : wsAt x.cps.toList i = st at *
    obtain ⟨cnt, b0, n0, nt0⟩ := st
    dsimp only at *
    have F₃ := Fr_map F₂ (m' := fun y => if y = Str.ofString "ch" then some (.str ⟨#[c]⟩ tk) else if y = Str.ofString "self" then some (.ref x') else if y = Str.ofString "count" then some (.ref cl') else if y = Str.ofString "b" then some (.int (b0 : Int) t1) else if y = Str.ofString "n" then some (.int (n0 : Int) t2) else if y = Str.ofString "nt" then some (.int (nt0 : Int) t3) else if y = Str.ofString "S" then some (.str (Str.ofString " ") t4) else if y = Str.ofString "T" then some (.str (Str.ofString "\t") t5) else m₁ y) (fun y => by
      by_cases q0 : y = Str.ofString "ch"
      · simp only [q0, if_true]
      · by_cases p1 : y = Str.ofString "self"
        · subst p1; simp only [q0, if_true, if_false]; exact e1.symm
        · by_cases p2 : y = Str.ofString "count"
          · subst p2; simp only [q0, p1, if_true, if_false]; exact e2.symm
          · by_cases p3 : y = Str.ofString "b"
            · subst p3; simp only [q0, p1, p2, if_true, if_false]; exact e3.symm
            · by_cases p4 : y = Str.ofString "n"
              · subst p4; simp only [q0, p1, p2, p3, if_true, if_false]; exact e4.symm
              · by_cases p5 : y = Str.ofString "nt"
                · subst p5; simp only [q0, p1, p2, p3, p4, if_true, if_false]; exact e5.symm
                · by_cases p6 : y = Str.ofString "S"
                  · subst p6; simp only [q0, p1, p2, p3, p4, p5, if_true, if_false]; exact e6.symm
                  · by_cases p7 : y = Str.ofString "T"
                    · subst p7; simp only [q0, p1, p2, p3, p4, p5, p6, if_true, if_false]; exact e7.symm
                    · simp only [q0, p1, p2, p3, p4, p5, p6, p7, if_false])
    clear F₂
    have hm3 : @Ne Nat cl' it := hne (cl', listOf vs.toArray k) (by simp)
    have hm4 : @Ne Nat x' it := hne (x', instObj 265 d') (by simp)
    have hm5 : @Ne Nat d' it := hne (d', _) (List.mem_cons_of_mem _ List.mem_cons_self)
    have hm6 : ∀ p ∈ tl', p.1 ≠ it := fun p hp => hne p (by simp [hp])
    have hm7 : ∀ p ∈ tl', p.1 ≠ cl' := fun p hp => (hap p hp).2.2
    have hvl : vs.length = cnt.length := hvs.length
    have hvl' : cnt.length ≤ 61 := by omega
    have hb0 : b0 ≤ 60 := by omega
    have hn0 : n0 ≤ 60 := by omega
    have hnt0 : nt0 ≤ 60 := by omega
    have hc9 : c = 32 ∨ c = 9 := hxa c (List.mem_of_getElem? hc')
    repeat' (first | (k_unfold; (try dsimp only)) | (k_end; wrow_close) | ((with_reducible show wpAny _ _ (call (Value.type _) _) _ _ _); first | (k_here; (with_reducible show wpAny _ _ (call (Value.type "tuple") [Value.ref _]) _ _ _); k_dflt (refine' kde_tupleOf ?k1 ?k2 ?k3 ?k4 ?k5 ?_; (case k1 => k_asm); (case k2 => k_asm); (case k3 => exact News.isList (by k_asm) (by k_mem)); (case k4 => (rw [List.size_toArray]; omega)); (case k5 => exact rfl); k_whole); intro D'q h'q F'q N'q l1q; (try dsimp only [List.toArray_toList] at N'q); (try k_lt l1q); (try k_sweep)) | (k_here; (with_reducible show wpAny _ _ (call (Value.type "range") [Value.int _ _, Value.int _ _]) _ _ _); k_dflt (refine' range2_rows ?F ?N ?_; (case F => k_asm); (case N => k_asm); k_whole; intro h'q tk'q t1'q u1'q v1'q R'q F'q N'q K'q))) | walk1 | (dsimp only; walk1) | (leave1; walk_say "STEP leave1"; try dsimp only) | fail "no step")
    · have hw2 : wsAt x.cps.toList (i + 1) = (cnt, b0 + 1, n0 + 1, nt0) := by rw [hstep]; unfold wsStep; rw [if_pos (ws_char ‹_›)]
      rename Fr _ _ _ _ => Fz; rename News _ _ _ _ => Nz
      exact ⟨_, _, _, _, _, rfl, .refl, Fz, Nz, fun q hq => hne q hq, WJ.of hw2 hap q1 q2 q3 hsub hvs rfl rfl rfl rfl rfl rfl rfl⟩
    · have hw2 : wsAt x.cps.toList (i + 1) = (wsBump (wsGrow cnt b0) b0, 0, n0 + 1, nt0 + 1) := by rw [hstep]; unfold wsStep; rw [if_neg (ws_char' ‹_›)]
      rename Fr _ _ _ _ => Fz; rename News _ _ _ _ => Nz
      have Ny := ws_keep Nz
      rename_i D _ _ _ _ _ _ _ _ _ _ _
      skip
      have hD : it < D ∧ x' < D ∧ d' < D ∧ cl' < D ∧ AllLt D tl' := (‹_ < D ∧ _ < D ∧ it < D ∧ x' < D ∧ d' < D ∧ cl' < D ∧ AllLt D tl'›).2.2
      obtain ⟨z1, z2, z3, z4, z5⟩ := hD
      have z6 : ∀ q ∈ tl', @Ne Nat q.1 D := fun q hq => Nat.ne_of_lt (allLt_mem z5 q hq)
      exact ⟨_, _, _, _, _, rfl, .refl, Fz, Ny, List.forall_mem_cons.mpr ⟨hm4, List.forall_mem_cons.mpr ⟨hm5, List.forall_mem_cons.mpr ⟨Nat.ne_of_gt z1, hm6⟩⟩⟩, WJ.of hw2 (fun q hq => ⟨(hap q hq).1, (hap q hq).2.1, z6 q hq⟩) q1 (Nat.ne_of_lt z2) (Nat.ne_of_lt z3) hsub (ws_grown ‹_› ‹_›) rfl rfl rfl rfl rfl rfl rfl⟩
    · have hw2 : wsAt x.cps.toList (i + 1) = (wsBump (wsGrow cnt b0) b0, 0, n0 + 1, nt0 + 1) := by rw [hstep]; unfold wsStep; rw [if_neg (ws_char' ‹_›)]
      rename Fr _ _ _ _ => Fz; rename News _ _ _ _ => Nz
      exact ⟨_, _, _, _, _, rfl, .refl, Fz, Nz, fun q hq => by
        simp only [List.mem_cons] at hq
        rcases hq with rfl | rfl | rfl | h
        · exact hm4
        · exact hm5
        · exact hm3
        · exact hm6 q h, WJ.of hw2 hap q1 q2 q3 hsub (ws_same ‹_› ‹_›) rfl rfl rfl rfl rfl rfl rfl⟩
    · exact absurd hc9 (by rintro (z | z); exact ws_char' ‹_› z; exact tab_char' ‹_› z)
  case hR =>
    intro h' gg tk m' news' F' N' hJ hgm
    obtain ⟨cl', vs, k, tl', t1, t2, t3, t4, t5, rfl, hap, q1, q2, q3, hsub, hvs, e1, e2, e3, e4, e5, e6, e7⟩ := hJ
    have hle := wsAt_le x.cps.toList x.cps.size (by simp)
    generalize hw : wsAt x.cps.toList x.cps.size = st at *
    obtain ⟨cnt, b0, n0, nt0⟩ := st
    dsimp only at *
    have F₃ := Fr_map F' (m' := fun y => if y = Str.ofString "self" then some (.ref x') else if y = Str.ofString "count" then some (.ref cl') else if y = Str.ofString "b" then some (.int (b0 : Int) t1) else if y = Str.ofString "n" then some (.int (n0 : Int) t2) else if y = Str.ofString "nt" then some (.int (nt0 : Int) t3) else m' y) (fun y => by
        by_cases p1 : y = Str.ofString "self"
        · subst p1; simp only [if_true, if_false]; exact e1.symm
        · by_cases p2 : y = Str.ofString "count"
          · subst p2; simp only [p1, if_true, if_false]; exact e2.symm
          · by_cases p3 : y = Str.ofString "b"
            · subst p3; simp only [p1, p2, if_true, if_false]; exact e3.symm
            · by_cases p4 : y = Str.ofString "n"
              · subst p4; simp only [p1, p2, p3, if_true, if_false]; exact e4.symm
              · by_cases p5 : y = Str.ofString "nt"
                · subst p5; simp only [p1, p2, p3, p4, if_true, if_false]; exact e5.symm
                · simp only [p1, p2, p3, p4, p5, if_false])
    clear F'
    have hm7 : ∀ p ∈ tl', p.1 ≠ cl' := fun p hp => (hap p hp).2.2
    have hm8 : ∀ p ∈ tl', p.1 ≠ d' := fun p hp => (hap p hp).2.1
    have hm9 : ∀ p ∈ tl', p.1 ≠ x' := fun p hp => (hap p hp).1
    have hvl : vs.length = cnt.length := hvs.length
    have hvl' : cnt.length ≤ 61 := by omega
    have hb0 : b0 ≤ 60 := by omega
    have hn0 : n0 ≤ 60 := by omega
    have hnt0 : nt0 ≤ 60 := by omega
    subst e0
    repeat' (first | (k_unfold; (try dsimp only)) | (k_end; wrow_close) | ((with_reducible show wpAny _ _ (call (Value.type _) _) _ _ _); first | (k_here; (with_reducible show wpAny _ _ (call (Value.type "tuple") [Value.ref _]) _ _ _); k_dflt (refine' kde_tupleOf ?k1 ?k2 ?k3 ?k4 ?k5 ?_; (case k1 => k_asm); (case k2 => k_asm); (case k3 => exact News.isList (by k_asm) (by k_mem)); (case k4 => (rw [List.size_toArray]; omega)); (case k5 => exact rfl); k_whole); intro D'q h'q F'q N'q l1q; (try dsimp only [List.toArray_toList] at N'q); (try k_lt l1q); (try k_sweep)) | (k_here; (with_reducible show wpAny _ _ (call (Value.type "range") [Value.int _ _, Value.int _ _]) _ _ _); k_dflt (refine' range2_rows ?F ?N ?_; (case F => k_asm); (case N => k_asm); k_whole; intro h'q tk'q t1'q u1'q v1'q R'q F'q N'q K'q))) | walk1 | (dsimp only; walk1) | (leave1; walk_say "STEP leave1"; try dsimp only) | fail "no step")
    rename Fr _ _ _ _ => Fz; rename News _ _ _ _ => Nz
    have Ny := ws_end Nz hsub
    rename_i nn _ _ _ _ _ _ _ _ _
    obtain ⟨tc, f1⟩ := nm_head (news_drop Nz)
    subst f1
    have hb1 : tc < nn ∧ x' < nn ∧ d' < nn ∧ cl' < nn ∧ AllLt nn tl' := ‹_›
    have hb2 : x' < tc ∧ d' < tc ∧ cl' < tc ∧ AllLt tc tl' := ‹_›
    exact hret x' d' nn tc vs _ _ _ _ _ _ _ _ _ _ _ _ hgm Fz Ny l1 l2 hb2.1 hb1.1 hvs
end
section
theorem calm61 {M : PySem.Model} {A : PySem.Around} {Q : Unit → PySem.Shared → Prop} {E : PySem.Value → PySem.Shared → Prop} {s : PySem.Shared} (h : Q () s) : PySem.wpAny M A (pure ()) Q E s := by
  w_top off
  first | (walk1; done) | exact PySem.wpAny_pure h
theorem run_call {w : World} {p : Program} {loose : List Str} {mean : ExcName → Option Value} {mg mb : Str → Option Value}
  {dp un : Nat} {gd : Option (List Code)} {cn : Str} {cs : Scope} {a : Addr} {ccd : Value} {cl : List (Str × Addr)} {outer : List Env} {A₀ : Around} {base h₀ : Heap} {L : Addr} {m : Str → Option Value} {s : Shared} {Q : Value → Shared → Prop} {E : Value → Shared → Prop}
  {tl : List (Addr × Obj)} {x : Str} {tx : Tok} {x' d' nn tc : Addr} {n nt b : Nat} {vs : List Value} {bb : Bool} {t1 t2 t3 k1 k2 k3 k4 k5 : Tok} {cnt : List Int}
  (B : Below A₀ base outer h₀) (F : Fr h₀ L s.heap m) (X : (heap39 w.params).In h₀)
  (N : News h₀ L s.heap ((x', instObj 265 d') :: (d', wsDict w.params x tx (n : Int) (nt : Int) nn bb t2 t3 k1 k2 k3 k4 k5) :: (nn, tupO #[.ref tc, .int (b : Int) t1]) :: (tc, tupO vs.toArray) :: tl)) 
  (T : Top p loose mean mg mb h₀) (hk : cs.kind = .function) (hd' : dp + 100 < recursionLimit) (hu : un + 1000 < cLine)
  (hvs : IntsAre vs cnt) (hl : cnt.length ≤ 61) (hb : b ≤ 60)
  (hret : ∀ (h' : Heap) (tk' : Nat) (t : Tok), Fr h₀ L h' m →
    News h₀ L h' ((x', instObj 265 d') :: (d', wsDict w.params x tx (n : Int) (nt : Int) nn bb t2 t3 k1 k2 k3 k4 k5) :: (nn, tupO #[.ref tc, .int (b : Int) t1]) :: (tc, tupO vs.toArray) :: tl) → Q (.int (if (b : Int) > (cnt.length : Int) - 1 then (b : Int) else (cnt.length : Int) - 1) t) { s with heap := h', toks := tk' }) :
   wpAny (model PP w) (ktrTop dp un gd cn cs L a ccd cl outer) (call (.ref (nat_lit 227)) [.ref x']) Q E s := by
  have _k : (fun (_ : OpenLaw) => True) PySem.Challenge.rw_tc0068_02 ∧ heap39 = heap39 := by
    k_fill
    exact ⟨trivial, rfl⟩
  clear _k
  refine wpAny_call ?_
  refine' code_def ?k1 ?k2 ?k3 ?k4 ?k5 ?kA ?kF ?kK ?k6 ?k7 ?k8 ?k9 ?kB ?_ ?c2 ?c3 ?c4 ?c5; (case kA => exact rfl); (case kF => exact rfl); (case kK => assumption); (case k1 => k_asm); (case k2 => k_asm); (case k3 => k_asm); (case k4 => k_asm); (case k5 => k_asm); (case k6 => k_is); (case k7 => k_is); (case k8 => ktr_room); (case k9 => exact BindsTo.of_eq rfl); (case c5 => decide); (case kB => exact locs rfl); (case c2 => exact rfl); (case c3 => exact rfl); (case c4 => exact rfl); k_whole; intro g' L' h' FG' F' N' B' X' T'; (try dsimp only); (try k_lift B'); (try k_fold)
  have hvl : vs.length = cnt.length := hvs.length
  have hvl' : vs.length ≤ 1000 := by omega
  repeat' (first | (k_unfold; (try dsimp only)) | (k_end; wrow_close) | (k_here; (with_reducible show wpAny _ _ (call (Value.builtin "len") [Value.ref _]) _ _ _); k_dflt (refine' ktm_lenK ?k1 ?k2 ?k3 ?k4 ?_; (case k1 => k_asm); (case k2 => k_mem); (case k3 => first | assumption | omega); (case k4 => exact congrArg Nat.cast (IntsAre.length (by assumption))); k_whole)) | ((with_reducible show wpAny _ _ (call (Value.type _) _) _ _ _); first | (k_here; (with_reducible show wpAny _ _ (call (Value.type "tuple") [Value.ref _]) _ _ _); k_dflt (refine' kde_tupleOf ?k1 ?k2 ?k3 ?k4 ?k5 ?_; (case k1 => k_asm); (case k2 => k_asm); (case k3 => exact News.isList (by k_asm) (by k_mem)); (case k4 => (rw [List.size_toArray]; omega)); (case k5 => exact rfl); k_whole); intro D'q h'q F'q N'q l1q; (try dsimp only [List.toArray_toList] at N'q); (try k_lt l1q); (try k_sweep)) | (k_here; (with_reducible show wpAny _ _ (call (Value.type "range") [Value.int _ _, Value.int _ _]) _ _ _); k_dflt (refine' range2_rows ?F ?N ?_; (case F => k_asm); (case N => k_asm); k_whole; intro h'q tk'q t1'q u1'q v1'q R'q F'q N'q K'q))) | walk1 | (dsimp only; walk1) | (leave1; walk_say "STEP leave1"; try dsimp only) | fail "no step")
  rename Fr _ _ _ _ => Fz; rename News _ _ _ _ => Nz
  exact hret _ _ _ Fz Nz
/-- the sum of indent_level's loop -/
noncomputable def ilSum (cnt : List Int) (ts : Nat) : Nat → Int
  | 0 => 0
  | k + 1 => ilSum cnt ts k + ((ts : Int) + (k : Int)).fdiv (ts : Int) * cnt.getD ((ts : Int) + (k : Int)).toNat 0
theorem range_gen {a b : Nat} (h1 : a ≤ 900) (h2 : b ≤ 900) : Builtin.Range.small (a : Int) (b : Int) 1 = true ∧ Builtin.Range.rangeSize (a : Int) (b : Int) 1 = ((b - a : Nat) : Int) := by
  have e : Builtin.Range.rangeSize (a : Int) (b : Int) 1 = ((b - a : Nat) : Int) := by
    simp only [Builtin.Range.rangeSize]
    rw [if_pos (by decide)]
    by_cases z : (a : Int) < b
    · rw [if_pos (by omega), Int.ediv_one]; omega
    · rw [if_neg (by omega)]; omega
  refine ⟨?_, e⟩
  have fl : ∀ z : Int, -1000 ≤ z → z ≤ 1000 → Builtin.Range.rangeFitsLong z = true := fun z a b => by
    unfold Builtin.Range.rangeFitsLong
    rw [decide_eq_true (by omega), decide_eq_true (by omega)]; rfl
  unfold Builtin.Range.small
  rw [e, fl _ (by omega) (by omega), fl _ (by omega) (by omega), fl 1 (by decide) (by decide), fl _ (by omega) (by omega), if_pos (by decide), fl _ (by omega) (by omega)]
  simp
theorem tup_int {prog : Program} {w : World} {A : Around} {E : Value → Shared → Prop} {s : Shared} {h₀ : Heap} {L : Addr} {news : List (Addr × Obj)} {t : Addr} {vs : List Value} {ns : List Int} {k : Int} {u : Tok} {value slice : PySem.Expr} {Q : Value → Shared → Prop}
    (N : News h₀ L s.heap news) (hm : (t, tupO vs.toArray) ∈ news) (hi : IntsAre vs ns) (h0 : 0 ≤ k) (h1 : k < ns.length) (hf : ns.length ≤ 1000) (h : ∀ tk, Q (.int (ns.getD k.toNat 0) tk) s)
    (hs : subscripted slice false (.ref t) (.int k u) = operate [.ref t, .int k u] (getItem (.ref t) (.int k u))) (hg : ∀ r, letTemporaryGo value (.ref t) r = pure ()) :
    wpAny (model prog w) A (subscriptTail value slice (.ref t) (.int k u)) Q E s := by
  have hl : vs.length = ns.length := hi.length
  have hk : k.toNat < vs.length := by omega
  obtain ⟨n, tk, e1, e2⟩ := IntsAre.at hi k.toNat vs[k.toNat] (List.getElem?_eq_getElem hk)
  refine item_tupleL (j := k.toNat) (x := .int n tk) (l := vs) ⟨_, (N _ hm).1, rfl, 0, rfl⟩ (by omega) (by omega) (seqIndex_of h0 (by omega)) (by rw [List.getElem?_eq_getElem hk, e1]) ?_ hs hg
  have := h tk
  rw [List.getD_eq_getElem?_getD, e2] at this
  exact this
/-- the ledger of one Whitespace -/
noncomputable abbrev wsN (P : Params) (x : Str) (tx : Tok) (x' d' nn tc : Addr) (n nt b : Nat) (vs : List Value) (bb : Bool) (t1 t2 t3 k1 k2 k3 k4 k5 : Tok) (tl : List (Addr × Obj)) : List (Addr × Obj) :=
  (x', instObj 265 d') :: (d', wsDict P x tx (n : Int) (nt : Int) nn bb t2 t3 k1 k2 k3 k4 k5) :: (nn, tupO #[.ref tc, .int (b : Int) t1]) :: (tc, tupO vs.toArray) :: tl
noncomputable def IJ (cnt : List Int) (ts b : Nat) (t0 t1 : Tok) (self tc : Addr) (N0 : List (Addr × Obj)) (i : Nat) (m : Str → Option Value) (news : List (Addr × Obj)) : Prop :=
  ∃ t : Tok, news = N0 ∧ m (Str.ofString "self") = some (.ref self) ∧ m (Str.ofString "tabsize") = some (.int (ts : Int) t0) ∧ m (Str.ofString "count") = some (.ref tc) ∧ m (Str.ofString "trailing") = some (.int (b : Int) t1) ∧ m (Str.ofString "il") = some (.int (ilSum cnt ts i) t)
theorem lvl_call {w : World} {p : Program} {loose : List Str} {mean : ExcName → Option Value} {mg mb : Str → Option Value}
  {dp un : Nat} {gd : Option (List Code)} {cn : Str} {cs : Scope} {a : Addr} {ccd : Value} {cl : List (Str × Addr)} {outer : List Env} {A₀ : Around} {base h₀ : Heap} {L : Addr} {m : Str → Option Value} {s : Shared} {Q : Value → Shared → Prop} {E : Value → Shared → Prop}
  {tl : List (Addr × Obj)} {x : Str} {tx : Tok} {x' d' nn tc : Addr} {n nt b ts : Nat} {vs : List Value} {bb : Bool} {t0 t1 t2 t3 k1 k2 k3 k4 k5 : Tok} {cnt : List Int}
  (B : Below A₀ base outer h₀) (F : Fr h₀ L s.heap m) (X : (heap39 w.params).In h₀)
  (N : News h₀ L s.heap ((x', instObj 265 d') :: (d', wsDict w.params x tx (n : Int) (nt : Int) nn bb t2 t3 k1 k2 k3 k4 k5) :: (nn, tupO #[.ref tc, .int (b : Int) t1]) :: (tc, tupO vs.toArray) :: tl)) 
  (T : Top p loose mean mg mb h₀) (hk : cs.kind = .function) (hd' : dp + 100 < recursionLimit) (hu : un + 1000 < cLine)
  (hvs : IntsAre vs cnt) (hl : cnt.length ≤ 61) (hb : b ≤ 60) (hnt : nt ≤ 60) (hcb : ∀ z ∈ cnt, 0 ≤ z ∧ z ≤ 60) (ht1 : 1 ≤ ts) (ht2 : ts ≤ 100)
  (hret : ∀ (h' : Heap) (gg : Array GenState) (tk' : Nat) (t : Tok), GenMoved s.gens gg → Fr h₀ L h' m →
    News h₀ L h' ((x', instObj 265 d') :: (d', wsDict w.params x tx (n : Int) (nt : Int) nn bb t2 t3 k1 k2 k3 k4 k5) :: (nn, tupO #[.ref tc, .int (b : Int) t1]) :: (tc, tupO vs.toArray) :: tl) → Q (.int ((b : Int) + ts * (ilSum cnt ts (cnt.length - ts) + nt)) t) { s with heap := h', gens := gg, toks := tk' }) :
   wpAny (model PP w) (ktrTop dp un gd cn cs L a ccd cl outer) (call (.ref (nat_lit 234)) [.ref x', .int (ts : Int) t0]) Q E s := by
  have _k : (fun (_ : OpenLaw) => True) PySem.Challenge.rw_tc0068_02 ∧ heap39 = heap39 := by
    k_fill
    exact ⟨trivial, rfl⟩
  clear _k
  refine wpAny_call ?_
  have hvl : vs.length = cnt.length := hvs.length
  have hvl' : vs.length ≤ 1000 := by omega
  refine' code_def ?k1 ?k2 ?k3 ?k4 ?k5 ?kA ?kF ?kK ?k6 ?k7 ?k8 ?k9 ?kB ?_ ?c2 ?c3 ?c4 ?c5; (case kA => exact rfl); (case kF => exact rfl); (case kK => assumption); (case k1 => k_asm); (case k2 => k_asm); (case k3 => k_asm); (case k4 => k_asm); (case k5 => k_asm); (case k6 => k_is); (case k7 => k_is); (case k8 => ktr_room); (case k9 => exact BindsTo.of_eq rfl); (case c5 => decide); (case kB => exact locs rfl); (case c2 => exact rfl); (case c3 => exact rfl); (case c4 => exact rfl); k_whole; intro g' L' h' FG' F' N' B' X' T'; (try dsimp only); (try k_lift B'); (try k_fold)
  repeat' ((fail_if_success (with_reducible show wpAny _ _ (exec (Stmt.For _ _ _ _ _) _) _ _ _)); (first | (k_unfold; (try dsimp only)) | (k_end; wrow_close) | (k_here; (with_reducible show wpAny _ _ (subscriptTail _ _ (Value.ref _) (Value.int _ _)) _ _ _); k_dflt (refine' tup_int ?k1 ?k2 ?k3 ?k4 ?k5 ?k6 ?_ ?k7 ?k8; (case k1 => k_asm); (case k2 => k_mem); (case k3 => assumption); (case k4 => omega); (case k5 => omega); (case k6 => omega); (case k7 => with_unfolding_all rfl); (case k8 => (intro _; with_unfolding_all rfl)); k_whole; intro tk'q)) | (k_here; (with_reducible show wpAny _ _ (call (Value.builtin "len") [Value.ref _]) _ _ _); k_dflt (refine' ktm_lenK ?k1 ?k2 ?k3 ?k4 ?_; (case k1 => k_asm); (case k2 => k_mem); (case k3 => first | assumption | omega); (case k4 => exact congrArg Nat.cast (IntsAre.length (by assumption))); k_whole)) | ((with_reducible show wpAny _ _ (call (Value.type _) _) _ _ _); first | (k_here; (with_reducible show wpAny _ _ (call (Value.type "tuple") [Value.ref _]) _ _ _); k_dflt (refine' kde_tupleOf ?k1 ?k2 ?k3 ?k4 ?k5 ?_; (case k1 => k_asm); (case k2 => k_asm); (case k3 => exact News.isList (by k_asm) (by k_mem)); (case k4 => (rw [List.size_toArray]; omega)); (case k5 => exact rfl); k_whole); intro D'q h'q F'q N'q l1q; (try dsimp only [List.toArray_toList] at N'q); (try k_lt l1q); (try k_sweep)) | (k_here; (with_reducible show wpAny _ _ (call (Value.type "range") [Value.int _ _, Value.int _ _]) _ _ _); k_dflt (refine' range2_rows ?F ?N ?_; (case F => k_asm); (case N => k_asm); k_whole; intro h'q tk'q t1'q u1'q v1'q R'q F'q N'q K'q))) | walk1 | (dsimp only; walk1) | (leave1; walk_say "STEP leave1"; try dsimp only) | fail "no step"))
  k_here
  rename Fr _ _ _ _ => Fa; rename News _ _ _ _ => Na
  refine' For_range Fa ?hx ?hp ?hh ?_ ?hs ?hE
  case hx => exact rfl
  case hp => exact rfl
  case hh => exact rfl
  case hs => intro _; exact rfl
  case hE => passes_own
  have hA : @LT.lt Nat _ 0 1 := by decide
  repeat' (first | (k_unfold; (try dsimp only)) | (k_end; wrow_close) | (k_here; (with_reducible show wpAny _ _ (subscriptTail _ _ (Value.ref _) (Value.int _ _)) _ _ _); k_dflt (refine' tup_int ?k1 ?k2 ?k3 ?k4 ?k5 ?k6 ?_ ?k7 ?k8; (case k1 => k_asm); (case k2 => k_mem); (case k3 => assumption); (case k4 => omega); (case k5 => omega); (case k6 => omega); (case k7 => with_unfolding_all rfl); (case k8 => (intro _; with_unfolding_all rfl)); k_whole; intro tk'q)) | (k_here; (with_reducible show wpAny _ _ (call (Value.builtin "len") [Value.ref _]) _ _ _); k_dflt (refine' ktm_lenK ?k1 ?k2 ?k3 ?k4 ?_; (case k1 => k_asm); (case k2 => k_mem); (case k3 => first | assumption | omega); (case k4 => exact congrArg Nat.cast (IntsAre.length (by assumption))); k_whole)) | ((with_reducible show wpAny _ _ (call (Value.type _) _) _ _ _); first | (k_here; (with_reducible show wpAny _ _ (call (Value.type "tuple") [Value.ref _]) _ _ _); k_dflt (refine' kde_tupleOf ?k1 ?k2 ?k3 ?k4 ?k5 ?_; (case k1 => k_asm); (case k2 => k_asm); (case k3 => exact News.isList (by k_asm) (by k_mem)); (case k4 => (rw [List.size_toArray]; omega)); (case k5 => exact rfl); k_whole); intro D'q h'q F'q N'q l1q; (try dsimp only [List.toArray_toList] at N'q); (try k_lt l1q); (try k_sweep)) | (k_here; (with_reducible show wpAny _ _ (call (Value.type "range") [Value.int _ _, Value.int _ _]) _ _ _); k_dflt (refine' range2_rows ?F ?N ?_; (case F => k_asm); (case N => k_asm); k_whole; intro h'q tk'q t1'q u1'q v1'q R'q F'q N'q K'q))) | walk1 | (dsimp only; walk1) | (leave1; walk_say "STEP leave1"; try dsimp only) | fail "no step")
  rename IsRange _ _ _ _ _ _ _ _ => hr; rename Fr _ _ _ _ => Fc; rename News _ _ _ _ => Nd
  have hrg := range_gen (a := ts) (b := cnt.length) (by omega) (by omega)
  refine' ⟨_, _, _, _, _, _, _, _, cnt.length - ts, IJ cnt ts b t0 t1 x' tc (wsN w.params x tx x' d' nn tc n nt b vs bb t1 t2 t3 k1 k2 k3 k4 k5 tl), rfl, hr, hrg.1, hrg.2, Fc, Nd, ?h0, ?step, ?hR⟩
  case h0 => exact ⟨_, rfl, rfl, rfl, rfl, rfl, rfl⟩
  case step =>
    intro i m₁ news₁ it o s₂ ti hi hJ hs hne hlt hoc F₂ N₂
    obtain ⟨t, e0, e1, e2, e3, e4, e5⟩ := hJ
    subst e0
    obtain ⟨hh, gg, tk, rfl, hgm⟩ := hs
    have F₃ := Fr_map F₂ (m' := fun y => if y = Str.ofString "i" then some (.int ((ts : Int) + (i : Int)) ti) else if y = Str.ofString "self" then some (.ref x') else if y = Str.ofString "tabsize" then some (.int (ts : Int) t0) else if y = Str.ofString "count" then some (.ref tc) else if y = Str.ofString "trailing" then some (.int (b : Int) t1) else if y = Str.ofString "il" then some (.int (ilSum cnt ts i) t) else m₁ y) (fun y => by
      by_cases q0 : y = Str.ofString "i"
      · simp only [q0, if_true]
      · by_cases p1 : y = Str.ofString "self"
        · subst p1; simp only [q0, if_true, if_false]; exact e1.symm
        · by_cases p2 : y = Str.ofString "tabsize"
          · subst p2; simp only [q0, p1, if_true, if_false]; exact e2.symm
          · by_cases p3 : y = Str.ofString "count"
            · subst p3; simp only [q0, p1, p2, if_true, if_false]; exact e3.symm
            · by_cases p4 : y = Str.ofString "trailing"
              · subst p4; simp only [q0, p1, p2, p3, if_true, if_false]; exact e4.symm
              · by_cases p5 : y = Str.ofString "il"
                · subst p5; simp only [q0, p1, p2, p3, p4, if_true, if_false]; exact e5.symm
                · simp only [q0, p1, p2, p3, p4, p5, if_false])
    clear F₂
    dsimp only [wsN] at N₂
    have hn1 : @Ne Nat x' it := hne _ List.mem_cons_self
    have hn2 : @Ne Nat d' it := hne _ (List.mem_cons_of_mem _ List.mem_cons_self)
    have hn3 : @Ne Nat nn it := hne _ (List.mem_cons_of_mem _ (List.mem_cons_of_mem _ List.mem_cons_self))
    have hn4 : @Ne Nat tc it := hne _ (List.mem_cons_of_mem _ (List.mem_cons_of_mem _ (List.mem_cons_of_mem _ List.mem_cons_self)))
    have hn5 : ∀ q ∈ tl, q.1 ≠ it := fun q hq => hne q (List.mem_cons_of_mem _ (List.mem_cons_of_mem _ (List.mem_cons_of_mem _ (List.mem_cons_of_mem _ hq))))
    have hz : 0 ≤ cnt.getD ((ts : Int) + (i : Int)).toNat 0 ∧ cnt.getD ((ts : Int) + (i : Int)).toNat 0 ≤ 60 := by
      rw [List.getD_eq_getElem?_getD]
      cases q : cnt[((ts : Int) + (i : Int)).toNat]? with
      | none => decide
      | some z => exact hcb z (List.mem_of_getElem? q)
    obtain ⟨hz1, hz2⟩ := hz
    repeat' (first | (k_unfold; (try dsimp only)) | (k_end; wrow_close) | (k_here; (with_reducible show wpAny _ _ (subscriptTail _ _ (Value.ref _) (Value.int _ _)) _ _ _); k_dflt (refine' tup_int ?k1 ?k2 ?k3 ?k4 ?k5 ?k6 ?_ ?k7 ?k8; (case k1 => k_asm); (case k2 => k_mem); (case k3 => assumption); (case k4 => omega); (case k5 => omega); (case k6 => omega); (case k7 => with_unfolding_all rfl); (case k8 => (intro _; with_unfolding_all rfl)); k_whole; intro tk'q)) | (k_here; (with_reducible show wpAny _ _ (call (Value.builtin "len") [Value.ref _]) _ _ _); k_dflt (refine' ktm_lenK ?k1 ?k2 ?k3 ?k4 ?_; (case k1 => k_asm); (case k2 => k_mem); (case k3 => first | assumption | omega); (case k4 => exact congrArg Nat.cast (IntsAre.length (by assumption))); k_whole)) | ((with_reducible show wpAny _ _ (call (Value.type _) _) _ _ _); first | (k_here; (with_reducible show wpAny _ _ (call (Value.type "tuple") [Value.ref _]) _ _ _); k_dflt (refine' kde_tupleOf ?k1 ?k2 ?k3 ?k4 ?k5 ?_; (case k1 => k_asm); (case k2 => k_asm); (case k3 => exact News.isList (by k_asm) (by k_mem)); (case k4 => (rw [List.size_toArray]; omega)); (case k5 => exact rfl); k_whole); intro D'q h'q F'q N'q l1q; (try dsimp only [List.toArray_toList] at N'q); (try k_lt l1q); (try k_sweep)) | (k_here; (with_reducible show wpAny _ _ (call (Value.type "range") [Value.int _ _, Value.int _ _]) _ _ _); k_dflt (refine' range2_rows ?F ?N ?_; (case F => k_asm); (case N => k_asm); k_whole; intro h'q tk'q t1'q u1'q v1'q R'q F'q N'q K'q))) | walk1 | (dsimp only; walk1) | (leave1; walk_say "STEP leave1"; try dsimp only) | fail "no step")
    rename Fr _ _ _ _ => Fz; rename News _ _ _ _ => Nz
    exact ⟨_, _, _, _, _, rfl, .refl, Fz, Nz, hne, _, rfl, rfl, rfl, rfl, rfl, rfl⟩
  case hR =>
    intro h' gg tk m' news' F' N' hJ hgm
    obtain ⟨t, e0, e1, e2, e3, e4, e5⟩ := hJ
    subst e0
    have F₃ := Fr_map F' (m' := fun y => if y = Str.ofString "self" then some (.ref x') else if y = Str.ofString "tabsize" then some (.int (ts : Int) t0) else if y = Str.ofString "trailing" then some (.int (b : Int) t1) else if y = Str.ofString "il" then some (.int (ilSum cnt ts (cnt.length - ts)) t) else m' y) (fun y => by
      by_cases p1 : y = Str.ofString "self"
      · subst p1; simp only [if_true, if_false]; exact e1.symm
      · by_cases p2 : y = Str.ofString "tabsize"
        · subst p2; simp only [p1, if_true, if_false]; exact e2.symm
        · by_cases p4 : y = Str.ofString "trailing"
          · subst p4; simp only [p1, p2, if_true, if_false]; exact e4.symm
          · by_cases p5 : y = Str.ofString "il"
            · subst p5; simp only [p1, p2, p4, if_true, if_false]; exact e5.symm
            · simp only [p1, p2, p4, p5, if_false])
    clear F'
    dsimp only [wsN] at N'
    repeat' (first | (k_unfold; (try dsimp only)) | (k_end; wrow_close) | (k_here; (with_reducible show wpAny _ _ (subscriptTail _ _ (Value.ref _) (Value.int _ _)) _ _ _); k_dflt (refine' tup_int ?k1 ?k2 ?k3 ?k4 ?k5 ?k6 ?_ ?k7 ?k8; (case k1 => k_asm); (case k2 => k_mem); (case k3 => assumption); (case k4 => omega); (case k5 => omega); (case k6 => omega); (case k7 => with_unfolding_all rfl); (case k8 => (intro _; with_unfolding_all rfl)); k_whole; intro tk'q)) | (k_here; (with_reducible show wpAny _ _ (call (Value.builtin "len") [Value.ref _]) _ _ _); k_dflt (refine' ktm_lenK ?k1 ?k2 ?k3 ?k4 ?_; (case k1 => k_asm); (case k2 => k_mem); (case k3 => first | assumption | omega); (case k4 => exact congrArg Nat.cast (IntsAre.length (by assumption))); k_whole)) | ((with_reducible show wpAny _ _ (call (Value.type _) _) _ _ _); first | (k_here; (with_reducible show wpAny _ _ (call (Value.type "tuple") [Value.ref _]) _ _ _); k_dflt (refine' kde_tupleOf ?k1 ?k2 ?k3 ?k4 ?k5 ?_; (case k1 => k_asm); (case k2 => k_asm); (case k3 => exact News.isList (by k_asm) (by k_mem)); (case k4 => (rw [List.size_toArray]; omega)); (case k5 => exact rfl); k_whole); intro D'q h'q F'q N'q l1q; (try dsimp only [List.toArray_toList] at N'q); (try k_lt l1q); (try k_sweep)) | (k_here; (with_reducible show wpAny _ _ (call (Value.type "range") [Value.int _ _, Value.int _ _]) _ _ _); k_dflt (refine' range2_rows ?F ?N ?_; (case F => k_asm); (case N => k_asm); k_whole; intro h'q tk'q t1'q u1'q v1'q R'q F'q N'q K'q))) | walk1 | (dsimp only; walk1) | (leave1; walk_say "STEP leave1"; try dsimp only) | fail "no step")
    rename Fr _ _ _ _ => Fz; rename News _ _ _ _ => Nz
    exact hret _ _ _ _ hgm Fz Nz
end
section
theorem calm62 {M : PySem.Model} {A : PySem.Around} {Q : Unit → PySem.Shared → Prop} {E : PySem.Value → PySem.Shared → Prop} {s : PySem.Shared} (h : Q () s) : PySem.wpAny M A (pure ()) Q E s := by
  w_top off
  first | (walk1; done) | exact PySem.wpAny_pure h
section
variable {w : World} {p : Program} {loose : List Str} {mean : ExcName → Option Value} {mg mb : Str → Option Value}
  {dp un : Nat} {gd : Option (List Code)} {cn : Str} {cs : Scope} {a : Addr} {ccd : Value} {cl : List (Str × Addr)} {outer : List Env} {A₀ : Around} {base h₀ : Heap} {L : Addr} {m : Str → Option Value} {s : Shared} {Q : Value → Shared → Prop} {E : Value → Shared → Prop}
  {news : List (Addr × Obj)} {x : Str} {tx : Tok} {x' d' nn tc : Addr} {n nt b ts : Nat} {vs : List Value} {bb : Bool} {t0 t1 t2 t3 k1 k2 k3 k4 k5 : Tok} {cnt : List Int}
theorem ws_sub (N : News h₀ L s.heap news) (m1 : (x', instObj 265 d') ∈ news) (m2 : (d', wsDict w.params x tx (n : Int) (nt : Int) nn bb t2 t3 k1 k2 k3 k4 k5) ∈ news) (m3 : (nn, tupO #[.ref tc, .int (b : Int) t1]) ∈ news) (m4 : (tc, tupO vs.toArray) ∈ news) :
    News h₀ L s.heap (wsN w.params x tx x' d' nn tc n nt b vs bb t1 t2 t3 k1 k2 k3 k4 k5 news) := fun q hq => N q (by
  simp only [List.mem_cons] at hq
  rcases hq with h | h | h | h | h
  · rw [h]; exact m1
  · rw [h]; exact m2
  · rw [h]; exact m3
  · rw [h]; exact m4
  · exact h)
theorem ws_back {h : Heap} (N : News h₀ L h (wsN w.params x tx x' d' nn tc n nt b vs bb t1 t2 t3 k1 k2 k3 k4 k5 news)) : News h₀ L h news := fun q hq => N q (List.mem_cons_of_mem _ (List.mem_cons_of_mem _ (List.mem_cons_of_mem _ (List.mem_cons_of_mem _ hq))))
theorem run_mem (B : Below A₀ base outer h₀) (F : Fr h₀ L s.heap m) (X : (heap39 w.params).In h₀) (N : News h₀ L s.heap news)
  (m1 : (x', instObj 265 d') ∈ news) (m2 : (d', wsDict w.params x tx (n : Int) (nt : Int) nn bb t2 t3 k1 k2 k3 k4 k5) ∈ news) (m3 : (nn, tupO #[.ref tc, .int (b : Int) t1]) ∈ news) (m4 : (tc, tupO vs.toArray) ∈ news)
  (T : Top p loose mean mg mb h₀) (hk : cs.kind = .function) (hd' : dp + 100 < recursionLimit) (hu : un + 1000 < cLine) (hvs : IntsAre vs cnt) (hl : cnt.length ≤ 61) (hb : b ≤ 60)
  (hret : ∀ (h' : Heap) (tk' : Nat) (t : Tok), Fr h₀ L h' m → News h₀ L h' news → Q (.int (if (b : Int) > (cnt.length : Int) - 1 then (b : Int) else (cnt.length : Int) - 1) t) { s with heap := h', toks := tk' }) :
   wpAny (model PP w) (ktrTop dp un gd cn cs L a ccd cl outer) (call (.ref (nat_lit 227)) [.ref x']) Q E s :=
  run_call B F X (ws_sub N m1 m2 m3 m4) T hk hd' hu hvs hl hb fun h' tk' t F' N' => hret h' tk' t F' (ws_back N')
theorem lvl_mem (B : Below A₀ base outer h₀) (F : Fr h₀ L s.heap m) (X : (heap39 w.params).In h₀) (N : News h₀ L s.heap news)
  (m1 : (x', instObj 265 d') ∈ news) (m2 : (d', wsDict w.params x tx (n : Int) (nt : Int) nn bb t2 t3 k1 k2 k3 k4 k5) ∈ news) (m3 : (nn, tupO #[.ref tc, .int (b : Int) t1]) ∈ news) (m4 : (tc, tupO vs.toArray) ∈ news)
  (T : Top p loose mean mg mb h₀) (hk : cs.kind = .function) (hd' : dp + 100 < recursionLimit) (hu : un + 1000 < cLine) (hvs : IntsAre vs cnt) (hl : cnt.length ≤ 61) (hb : b ≤ 60) (hnt : nt ≤ 60) (hcb : ∀ z ∈ cnt, 0 ≤ z ∧ z ≤ 60) (e0 : 1 ≤ ts) (e1 : ts ≤ 100)
  (hret : ∀ (h' : Heap) (gg : Array GenState) (tk' : Nat) (t : Tok), GenMoved s.gens gg → Fr h₀ L h' m → News h₀ L h' news → Q (.int ((b : Int) + ts * (ilSum cnt ts (cnt.length - ts) + nt)) t) { s with heap := h', gens := gg, toks := tk' }) :
   wpAny (model PP w) (ktrTop dp un gd cn cs L a ccd cl outer) (call (.ref (nat_lit 234)) [.ref x', .int (ts : Int) t0]) Q E s :=
  lvl_call B F X (ws_sub N m1 m2 m3 m4) T hk hd' hu hvs hl hb hnt hcb e0 e1 fun h' gg tk' t g F' N' => hret h' gg tk' t g F' (ws_back N')
end
inductive Trips (news : List (Addr × Obj)) : List Value → List (Int × Int × Int) → Prop
  | nil : Trips news [] []
  | cons {t : Addr} {ta tb tc : Tok} {a b c : Int} {vs : List Value} {ws : List (Int × Int × Int)} : (t, tupO #[.int a ta, .int b tb, .int c tc]) ∈ news → Trips news vs ws → Trips news (.ref t :: vs) ((a, b, c) :: ws)
theorem Trips.mono {n1 n2 : List (Addr × Obj)} (hs : ∀ q ∈ n1, q ∈ n2) : ∀ {vs : List Value} {ws : List (Int × Int × Int)}, Trips n1 vs ws → Trips n2 vs ws
  | _, _, .nil => .nil
  | _, _, .cons h t => .cons (hs _ h) (t.mono hs)
theorem Trips.snoc {news : List (Addr × Obj)} {t : Addr} {ta tb tc : Tok} {a b c : Int} (h : (t, tupO #[.int a ta, .int b tb, .int c tc]) ∈ news) : ∀ {vs : List Value} {ws : List (Int × Int × Int)}, Trips news vs ws → Trips news (vs ++ [.ref t]) (ws ++ [(a, b, c)])
  | _, _, .nil => .cons h .nil
  | _, _, .cons h' t' => .cons h' (t'.snoc h)
theorem Trips.length {news : List (Addr × Obj)} : ∀ {vs : List Value} {ws : List (Int × Int × Int)}, Trips news vs ws → vs.length = ws.length
  | _, _, .nil => rfl
  | _, _, .cons _ t => congrArg (· + 1) t.length
/-- the indent level -/
noncomputable def lvl (b nt : Nat) (cnt : List Int) (ts : Nat) : Int := (b : Int) + ts * (ilSum cnt ts (cnt.length - ts) + nt)
noncomputable def wits (f g : Nat → Int) : Nat → List (Int × Int × Int)
  | 0 => []
  | k + 1 => wits f g k ++ (if f (k + 1) ≠ g (k + 1) then [(((k + 1 : Nat) : Int), f (k + 1), g (k + 1))] else [])
theorem wits_len (f g : Nat → Int) : ∀ k, (wits f g k).length ≤ k
  | 0 => Nat.le_refl _
  | k + 1 => by
    have := wits_len f g k
    simp only [wits, List.length_append]
    split <;> simp <;> omega
theorem wit_news {h₀ h : Heap} {L : Addr} {D i a b c d e f g j l : Addr × Obj} {tl : List (Addr × Obj)} (N : News h₀ L h (D :: i :: a :: b :: c :: d :: e :: f :: g :: j :: l :: tl)) : News h₀ L h (i :: a :: b :: c :: d :: e :: f :: g :: j :: l :: D :: tl) := fun q hq => N q (by
  first | (revert q; (repeat (refine sub_cons (by repeat (first | exact List.mem_cons_self | apply List.mem_cons_of_mem)) ?_)); (first | exact (fun _ h => absurd h List.not_mem_nil) | (intro x9 hx9; repeat (first | exact hx9 | exact hs x9 hx9 | apply List.mem_cons_of_mem)))) | (simp only [List.mem_cons] at hq ⊢; rcases hq with h | h | h | h | h | h | h | h | h | h | h | h <;> simp [h]))
theorem wit_end {h₀ h : Heap} {L : Addr} {a b c d e f g j l : Addr × Obj} {tl : List (Addr × Obj)} (N : News h₀ L h (a :: b :: c :: d :: e :: f :: g :: j :: l :: tl)) : News h₀ L h (a :: tl) := fun q hq => N q (by
  first | (revert q; (repeat (refine sub_cons (by repeat (first | exact List.mem_cons_self | apply List.mem_cons_of_mem)) ?_)); (first | exact (fun _ h => absurd h List.not_mem_nil) | (intro x9 hx9; repeat (first | exact hx9 | exact hs x9 hx9 | apply List.mem_cons_of_mem)))) | (simp only [List.mem_cons] at hq ⊢; rcases hq with h | h <;> simp [h]))
noncomputable def NJ (tl : List (Addr × Obj)) (s1 s2 ml : Addr) (mk : List (Addr × Obj) → List (Addr × Obj)) (f g : Nat → Int) (i : Nat) (m : Str → Option Value) (news : List (Addr × Obj)) : Prop :=
  ∃ (vs : List Value) (k : Nat) (tl' : List (Addr × Obj)), news = (ml, listOf vs.toArray k) :: mk tl' ∧ (∀ p ∈ tl', @Ne Nat p.1 ml) ∧ (∀ q ∈ tl, q ∈ tl') ∧ Trips tl' vs (wits f g i) ∧
    m (Str.ofString "self") = some (.ref s1) ∧ m (Str.ofString "other") = some (.ref s2) ∧ m (Str.ofString "a") = some (.ref ml)
theorem wit_call {w : World} {p : Program} {loose : List Str} {mean : ExcName → Option Value} {mg mb : Str → Option Value}
  {dp un : Nat} {gd : Option (List Code)} {cn : Str} {cs : Scope} {a : Addr} {ccd : Value} {cl : List (Str × Addr)} {outer : List Env} {A₀ : Around} {base h₀ : Heap} {L : Addr} {m : Str → Option Value} {s : Shared} {Q : Value → Shared → Prop} {E : Value → Shared → Prop}
  {tl : List (Addr × Obj)} 
  {x1 : Str} {tx1 : Tok} {s1 d1 nn1 tc1 : Addr} {n1 nt1 b1 : Nat} {vs1 : List Value} {bb1 : Bool} {t11 t12 t13 k11 k12 k13 k14 k15 : Tok} {cnt1 : List Int}
  {x2 : Str} {tx2 : Tok} {s2 d2 nn2 tc2 : Addr} {n2 nt2 b2 : Nat} {vs2 : List Value} {bb2 : Bool} {t21 t22 t23 k21 k22 k23 k24 k25 : Tok} {cnt2 : List Int}
  (B : Below A₀ base outer h₀) (F : Fr h₀ L s.heap m) (X : (heap39 w.params).In h₀)
  (N : News h₀ L s.heap (wsN w.params x1 tx1 s1 d1 nn1 tc1 n1 nt1 b1 vs1 bb1 t11 t12 t13 k11 k12 k13 k14 k15 (wsN w.params x2 tx2 s2 d2 nn2 tc2 n2 nt2 b2 vs2 bb2 t21 t22 t23 k21 k22 k23 k24 k25 tl))) 
  (T : Top p loose mean mg mb h₀) (hk : cs.kind = .function) (hd' : dp + 200 < recursionLimit) (hu : un + 2000 < cLine)
  (hv1 : IntsAre vs1 cnt1) (hl1 : cnt1.length ≤ 61) (hb1 : b1 ≤ 60) (ht1 : nt1 ≤ 60) (hc1 : ∀ z ∈ cnt1, 0 ≤ z ∧ z ≤ 60)
  (hv2 : IntsAre vs2 cnt2) (hl2 : cnt2.length ≤ 61) (hb2 : b2 ≤ 60) (ht2 : nt2 ≤ 60) (hc2 : ∀ z ∈ cnt2, 0 ≤ z ∧ z ≤ 60)
  {N1 : Nat} (hN1 : N1 ≤ 62) (eN1 : (if (if (b2 : Int) > (cnt2.length : Int) - 1 then (b2 : Int) else (cnt2.length : Int) - 1) > (if (b1 : Int) > (cnt1.length : Int) - 1 then (b1 : Int) else (cnt1.length : Int) - 1) then (if (b2 : Int) > (cnt2.length : Int) - 1 then (b2 : Int) else (cnt2.length : Int) - 1) else (if (b1 : Int) > (cnt1.length : Int) - 1 then (b1 : Int) else (cnt1.length : Int) - 1)) + 1 = (N1 : Int))
  (hret : ∀ (D : Addr) (vs : List Value) (k : Nat) (tl' : List (Addr × Obj)) (h' : Heap) (gg : Array GenState) (tk' : Nat), GenMoved s.gens gg → Fr h₀ L h' m → News h₀ L h' ((D, listOf vs.toArray k) :: tl') → (∀ q ∈ tl, q ∈ tl') → (∀ p ∈ tl', @Ne Nat p.1 D) →
    Trips tl' vs (wits (lvl b1 nt1 cnt1) (lvl b2 nt2 cnt2) N1) → Q (.ref D) { s with heap := h', gens := gg, toks := tk' }) :
   wpAny (model PP w) (ktrTop dp un gd cn cs L a ccd cl outer) (call (.ref (nat_lit 248)) [.ref s1, .ref s2]) Q E s := by
  dsimp only [wsN] at N
  have _k : (fun (_ : OpenLaw) => True) PySem.Challenge.rw_tc0068_02 ∧ heap39 = heap39 := by
    k_fill
    exact ⟨trivial, rfl⟩
  clear _k
  refine wpAny_call ?_
  refine' code_def ?k1 ?k2 ?k3 ?k4 ?k5 ?kA ?kF ?kK ?k6 ?k7 ?k8 ?k9 ?kB ?_ ?c2 ?c3 ?c4 ?c5; (case kA => exact rfl); (case kF => exact rfl); (case kK => assumption); (case k1 => k_asm); (case k2 => k_asm); (case k3 => k_asm); (case k4 => k_asm); (case k5 => k_asm); (case k6 => k_is); (case k7 => k_is); (case k8 => ktr_room); (case k9 => exact BindsTo.of_eq rfl); (case c5 => decide); (case kB => exact locs rfl); (case c2 => exact rfl); (case c3 => exact rfl); (case c4 => exact rfl); k_whole; intro g' L' h' FG' F' N' B' X' T'; (try dsimp only); (try k_lift B'); (try k_fold)
  repeat' ((fail_if_success (with_reducible show wpAny _ _ (exec (Stmt.For _ _ _ _ _) _) _ _ _)); (first | (k_unfold; (try dsimp only)) | (k_end; wrow_close) | ((with_reducible show wpAny _ _ (call (Value.ref _) _) _ _ _); first | (k_here; (k_dflt (show wpAny _ _ (call (Value.ref 234) [Value.ref _, Value.int _ _]) _ _ _)); k_dflt (refine' lvl_mem ?k1 ?k2 ?k3 ?k4 ?m1 ?m2 ?m3 ?m4 ?k5 ?k6 ?k7 ?k8 ?k9 ?ka ?kb ?kc ?kd ?ke ?kf ?_; (case k1 => k_asm); (case k2 => k_asm); (case k3 => k_asm); (case k4 => k_asm); (case m1 => k_mem); (case m2 => k_mem); (case m3 => k_mem); (case m4 => k_mem); (case k5 => k_asm); (case k6 => exact rfl); (case k7 => ktr_room); (case k8 => ktr_units); (case k9 => assumption); (case ka => assumption); (case kb => assumption); (case kc => assumption); (case kd => assumption); (case ke => assumption); (case kf => assumption); k_whole; intro h'q gg'q tk'q t'q g'q F'q N'q; (try dsimp only))) | (k_here; (k_dflt (show wpAny _ _ (call (Value.ref 227) [Value.ref _]) _ _ _)); k_dflt (refine' run_mem ?k1 ?k2 ?k3 ?k4 ?m1 ?m2 ?m3 ?m4 ?k5 ?k6 ?k7 ?k8 ?k9 ?ka ?kb ?_; (case k1 => k_asm); (case k2 => k_asm); (case k3 => k_asm); (case k4 => k_asm); (case m1 => k_mem); (case m2 => k_mem); (case m3 => k_mem); (case m4 => k_mem); (case k5 => k_asm); (case k6 => exact rfl); (case k7 => ktr_room); (case k8 => ktr_units); (case k9 => assumption); (case ka => assumption); (case kb => assumption); k_whole; intro h'q tk'q t'q F'q N'q))) | (k_here; (with_reducible show wpAny _ _ (call (Value.builtin "len") [Value.ref _]) _ _ _); k_dflt (refine' ktm_lenK ?k1 ?k2 ?k3 ?k4 ?_; (case k1 => k_asm); (case k2 => k_mem); (case k3 => first | assumption | omega); (case k4 => exact congrArg Nat.cast (IntsAre.length (by assumption))); k_whole)) | ((with_reducible show wpAny _ _ (call (Value.type _) _) _ _ _); first | (k_here; (with_reducible show wpAny _ _ (call (Value.type "tuple") [Value.ref _]) _ _ _); k_dflt (refine' kde_tupleOf ?k1 ?k2 ?k3 ?k4 ?k5 ?_; (case k1 => k_asm); (case k2 => k_asm); (case k3 => exact News.isList (by k_asm) (by k_mem)); (case k4 => (rw [List.size_toArray]; omega)); (case k5 => exact rfl); k_whole); intro D'q h'q F'q N'q l1q; (try dsimp only [List.toArray_toList] at N'q); (try k_lt l1q); (try k_sweep)) | (k_here; (with_reducible show wpAny _ _ (call (Value.type "range") [Value.int _ _, Value.int _ _]) _ _ _); k_dflt (refine' range2_rows ?F ?N ?_; (case F => k_asm); (case N => k_asm); k_whole; intro h'q tk'q t1'q u1'q v1'q R'q F'q N'q K'q))) | walk1 | (dsimp only; walk1) | (leave1; walk_say "STEP leave1"; try dsimp only) | fail "no step"))
  k_here
  rename Fr _ _ _ _ => Fa; rename News _ _ _ _ => Na
  rw [eN1] at Fa
  rename_i ml _ _ _
  refine' For_range Fa ?hx ?hp ?hh ?_ ?hs ?hE
  case hx => exact rfl
  case hp => exact rfl
  case hh => exact rfl
  case hs => intro _; exact rfl
  case hE => passes_own
  repeat' (first | (k_unfold; (try dsimp only)) | (k_end; wrow_close) | ((with_reducible show wpAny _ _ (call (Value.ref _) _) _ _ _); first | (k_here; (k_dflt (show wpAny _ _ (call (Value.ref 234) [Value.ref _, Value.int _ _]) _ _ _)); k_dflt (refine' lvl_mem ?k1 ?k2 ?k3 ?k4 ?m1 ?m2 ?m3 ?m4 ?k5 ?k6 ?k7 ?k8 ?k9 ?ka ?kb ?kc ?kd ?ke ?kf ?_; (case k1 => k_asm); (case k2 => k_asm); (case k3 => k_asm); (case k4 => k_asm); (case m1 => k_mem); (case m2 => k_mem); (case m3 => k_mem); (case m4 => k_mem); (case k5 => k_asm); (case k6 => exact rfl); (case k7 => ktr_room); (case k8 => ktr_units); (case k9 => assumption); (case ka => assumption); (case kb => assumption); (case kc => assumption); (case kd => assumption); (case ke => assumption); (case kf => assumption); k_whole; intro h'q gg'q tk'q t'q g'q F'q N'q; (try dsimp only))) | (k_here; (k_dflt (show wpAny _ _ (call (Value.ref 227) [Value.ref _]) _ _ _)); k_dflt (refine' run_mem ?k1 ?k2 ?k3 ?k4 ?m1 ?m2 ?m3 ?m4 ?k5 ?k6 ?k7 ?k8 ?k9 ?ka ?kb ?_; (case k1 => k_asm); (case k2 => k_asm); (case k3 => k_asm); (case k4 => k_asm); (case m1 => k_mem); (case m2 => k_mem); (case m3 => k_mem); (case m4 => k_mem); (case k5 => k_asm); (case k6 => exact rfl); (case k7 => ktr_room); (case k8 => ktr_units); (case k9 => assumption); (case ka => assumption); (case kb => assumption); k_whole; intro h'q tk'q t'q F'q N'q))) | (k_here; (with_reducible show wpAny _ _ (call (Value.builtin "len") [Value.ref _]) _ _ _); k_dflt (refine' ktm_lenK ?k1 ?k2 ?k3 ?k4 ?_; (case k1 => k_asm); (case k2 => k_mem); (case k3 => first | assumption | omega); (case k4 => exact congrArg Nat.cast (IntsAre.length (by assumption))); k_whole)) | ((with_reducible show wpAny _ _ (call (Value.type _) _) _ _ _); first | (k_here; (with_reducible show wpAny _ _ (call (Value.type "tuple") [Value.ref _]) _ _ _); k_dflt (refine' kde_tupleOf ?k1 ?k2 ?k3 ?k4 ?k5 ?_; (case k1 => k_asm); (case k2 => k_asm); (case k3 => exact News.isList (by k_asm) (by k_mem)); (case k4 => (rw [List.size_toArray]; omega)); (case k5 => exact rfl); k_whole); intro D'q h'q F'q N'q l1q; (try dsimp only [List.toArray_toList] at N'q); (try k_lt l1q); (try k_sweep)) | (k_here; (with_reducible show wpAny _ _ (call (Value.type "range") [Value.int _ _, Value.int _ _]) _ _ _); k_dflt (refine' range2_rows ?F ?N ?_; (case F => k_asm); (case N => k_asm); k_whole; intro h'q tk'q t1'q u1'q v1'q R'q F'q N'q K'q))) | walk1 | (dsimp only; walk1) | (leave1; walk_say "STEP leave1"; try dsimp only) | fail "no step")
  rename IsRange _ _ _ _ _ _ _ _ => hr; rename Fr _ _ _ _ => Fc; rename News _ _ _ _ => Nd
  have hrg := range_gen (a := 1) (b := N1 + 1) (by omega) (by omega)
  have hml : s1 < ml ∧ d1 < ml ∧ nn1 < ml ∧ tc1 < ml ∧ s2 < ml ∧ d2 < ml ∧ nn2 < ml ∧ tc2 < ml ∧ AllLt ml tl := ‹_›
  refine' ⟨_, _, _, _, _, _, _, _, N1, NJ tl s1 s2 ml (fun r => wsN w.params x1 tx1 s1 d1 nn1 tc1 n1 nt1 b1 vs1 bb1 t11 t12 t13 k11 k12 k13 k14 k15 (wsN w.params x2 tx2 s2 d2 nn2 tc2 n2 nt2 b2 vs2 bb2 t21 t22 t23 k21 k22 k23 k24 k25 r)) (lvl b1 nt1 cnt1) (lvl b2 nt2 cnt2), rfl, hr, hrg.1, hrg.2, Fc, Nd, ?h0, ?step, ?hR⟩
  case h0 => exact ⟨[], 0, tl, rfl, fun q hq => Nat.ne_of_lt (allLt_mem hml.2.2.2.2.2.2.2.2 q hq), fun _ h => h, .nil, rfl, rfl, rfl⟩
  case step =>
    intro i m₁ news₁ it o s₂ ti hi hJ hs hne hlt hoc F₂ N₂
    obtain ⟨vs, k, tl', e0, hap, hsub, htr, e1, e2, e3⟩ := hJ
    subst e0
    obtain ⟨hh, gg, tk, rfl, hgm⟩ := hs
    have F₃ := Fr_map F₂ (m' := fun y => if y = Str.ofString "ts" then some (.int ((i + 1 : Nat) : Int) ti) else if y = Str.ofString "self" then some (.ref s1) else if y = Str.ofString "other" then some (.ref s2) else if y = Str.ofString "a" then some (.ref ml) else m₁ y) (fun y => by
      by_cases q0 : y = Str.ofString "ts"
      · simp only [q0, if_true]; exact congrArg (fun z => some (Value.int z ti)) (by omega)
      · by_cases p1 : y = Str.ofString "self"
        · subst p1; simp only [q0, if_true, if_false]; exact e1.symm
        · by_cases p2 : y = Str.ofString "other"
          · subst p2; simp only [q0, p1, if_true, if_false]; exact e2.symm
          · by_cases p3 : y = Str.ofString "a"
            · subst p3; simp only [q0, p1, p2, if_true, if_false]; exact e3.symm
            · simp only [q0, p1, p2, p3, if_false])
    clear F₂
    have hnm : @Ne Nat ml it := hne _ List.mem_cons_self
    have hrest : ∀ q ∈ tl', q.1 ≠ it := fun q hq => hne q (by simp [hq])
    dsimp only [wsN] at N₂
    have hi1 : 1 ≤ i + 1 := by omega
    have hi2 : i + 1 ≤ 100 := by omega
    have hvl : vs.length ≤ 62 := by
      have := htr.length
      have := wits_len (lvl b1 nt1 cnt1) (lvl b2 nt2 cnt2) i
      omega
    obtain ⟨z1, z2, z3, z4, z5, z6, z7, z8, z9⟩ := hml
    have y1 : @Ne Nat ml s1 := Nat.ne_of_gt z1
    have y2 : @Ne Nat ml d1 := Nat.ne_of_gt z2
    have y3 : @Ne Nat ml nn1 := Nat.ne_of_gt z3
    have y4 : @Ne Nat ml tc1 := Nat.ne_of_gt z4
    have y5 : @Ne Nat ml s2 := Nat.ne_of_gt z5
    have y6 : @Ne Nat ml d2 := Nat.ne_of_gt z6
    have y7 : @Ne Nat ml nn2 := Nat.ne_of_gt z7
    have y8 : @Ne Nat ml tc2 := Nat.ne_of_gt z8
    repeat' (first | (k_unfold; (try dsimp only)) | (k_end; wrow_close) | ((with_reducible show wpAny _ _ (call (Value.ref _) _) _ _ _); first | (k_here; (k_dflt (show wpAny _ _ (call (Value.ref 234) [Value.ref _, Value.int _ _]) _ _ _)); k_dflt (refine' lvl_mem ?k1 ?k2 ?k3 ?k4 ?m1 ?m2 ?m3 ?m4 ?k5 ?k6 ?k7 ?k8 ?k9 ?ka ?kb ?kc ?kd ?ke ?kf ?_; (case k1 => k_asm); (case k2 => k_asm); (case k3 => k_asm); (case k4 => k_asm); (case m1 => k_mem); (case m2 => k_mem); (case m3 => k_mem); (case m4 => k_mem); (case k5 => k_asm); (case k6 => exact rfl); (case k7 => ktr_room); (case k8 => ktr_units); (case k9 => assumption); (case ka => assumption); (case kb => assumption); (case kc => assumption); (case kd => assumption); (case ke => assumption); (case kf => assumption); k_whole; intro h'q gg'q tk'q t'q g'q F'q N'q; (try dsimp only))) | (k_here; (k_dflt (show wpAny _ _ (call (Value.ref 227) [Value.ref _]) _ _ _)); k_dflt (refine' run_mem ?k1 ?k2 ?k3 ?k4 ?m1 ?m2 ?m3 ?m4 ?k5 ?k6 ?k7 ?k8 ?k9 ?ka ?kb ?_; (case k1 => k_asm); (case k2 => k_asm); (case k3 => k_asm); (case k4 => k_asm); (case m1 => k_mem); (case m2 => k_mem); (case m3 => k_mem); (case m4 => k_mem); (case k5 => k_asm); (case k6 => exact rfl); (case k7 => ktr_room); (case k8 => ktr_units); (case k9 => assumption); (case ka => assumption); (case kb => assumption); k_whole; intro h'q tk'q t'q F'q N'q))) | (k_here; (with_reducible show wpAny _ _ (call (Value.builtin "len") [Value.ref _]) _ _ _); k_dflt (refine' ktm_lenK ?k1 ?k2 ?k3 ?k4 ?_; (case k1 => k_asm); (case k2 => k_mem); (case k3 => first | assumption | omega); (case k4 => exact congrArg Nat.cast (IntsAre.length (by assumption))); k_whole)) | ((with_reducible show wpAny _ _ (call (Value.type _) _) _ _ _); first | (k_here; (with_reducible show wpAny _ _ (call (Value.type "tuple") [Value.ref _]) _ _ _); k_dflt (refine' kde_tupleOf ?k1 ?k2 ?k3 ?k4 ?k5 ?_; (case k1 => k_asm); (case k2 => k_asm); (case k3 => exact News.isList (by k_asm) (by k_mem)); (case k4 => (rw [List.size_toArray]; omega)); (case k5 => exact rfl); k_whole); intro D'q h'q F'q N'q l1q; (try dsimp only [List.toArray_toList] at N'q); (try k_lt l1q); (try k_sweep)) | (k_here; (with_reducible show wpAny _ _ (call (Value.type "range") [Value.int _ _, Value.int _ _]) _ _ _); k_dflt (refine' range2_rows ?F ?N ?_; (case F => k_asm); (case N => k_asm); k_whole; intro h'q tk'q t1'q u1'q v1'q R'q F'q N'q K'q))) | walk1 | (dsimp only; walk1) | (leave1; walk_say "STEP leave1"; try dsimp only) | fail "no step")
    · rename Fr _ _ _ _ => Fz; rename News _ _ _ _ => Nz
      rename_i D _ _ _
      have hw : wits (lvl b1 nt1 cnt1) (lvl b2 nt2 cnt2) (i + 1) = wits (lvl b1 nt1 cnt1) (lvl b2 nt2 cnt2) i ++ [(((i + 1 : Nat) : Int), lvl b1 nt1 cnt1 (i + 1), lvl b2 nt2 cnt2 (i + 1))] := by
        simp only [wits]
        rw [if_pos (by assumption)]
      have hD : it < D ∧ ml < D ∧ s1 < D ∧ d1 < D ∧ nn1 < D ∧ tc1 < D ∧ s2 < D ∧ d2 < D ∧ nn2 < D ∧ tc2 < D ∧ AllLt D tl' := ‹_›
      rw [List.push_toArray] at Nz
      have Ny := wit_news Nz
      refine ⟨_, _, _, _, _, rfl, .trans (by assumption) (.trans (by assumption) (.trans (by assumption) (by assumption))), Fz, Ny, ?_, vs ++ [.ref D], k + 1, (D, _) :: tl', rfl, ?_, fun q hq => List.mem_cons_of_mem _ (hsub q hq), ?_, rfl, rfl, rfl⟩
      · intro q hq
        simp only [List.mem_cons] at hq
        rcases hq with h | h | h | h | h | h | h | h | h | h | h
        · rw [h]; exact hnm
        · exact hne q (by simp [h])
        · exact hne q (by simp [h])
        · exact hne q (by simp [h])
        · exact hne q (by simp [h])
        · exact hne q (by simp [h])
        · exact hne q (by simp [h])
        · exact hne q (by simp [h])
        · exact hne q (by simp [h])
        · rw [h]; exact Nat.ne_of_gt hD.1
        · exact hrest q h
      · exact List.forall_mem_cons.mpr ⟨Nat.ne_of_gt hD.2.1, hap⟩
      · rw [hw]
        exact Trips.snoc List.mem_cons_self (htr.mono fun q hq => List.mem_cons_of_mem _ hq)
    · rename Fr _ _ _ _ => Fz; rename News _ _ _ _ => Nz
      have hw : wits (lvl b1 nt1 cnt1) (lvl b2 nt2 cnt2) (i + 1) = wits (lvl b1 nt1 cnt1) (lvl b2 nt2 cnt2) i := by
        simp only [wits]
        rw [if_neg (not_not_intro (by assumption)), List.append_nil]
      exact ⟨_, _, _, _, _, rfl, .trans (by assumption) (by assumption), Fz, Nz, hne, vs, k, tl', rfl, hap, hsub, by rw [hw]; exact htr, rfl, rfl, rfl⟩
  case hR =>
    intro h' gg tk m' news' F' N' hJ hgm
    obtain ⟨vs, k, tl', e0, hap, hsub, htr, e1, e2, e3⟩ := hJ
    subst e0
    have F₃ := Fr_map F' (m' := fun y => if y = Str.ofString "a" then some (.ref ml) else m' y) (fun y => by
      by_cases p3 : y = Str.ofString "a"
      · subst p3; simp only [if_true]; exact e3.symm
      · simp only [p3, if_false])
    clear F'
    dsimp only [wsN] at N'
    repeat' (first | (k_unfold; (try dsimp only)) | (k_end; wrow_close) | ((with_reducible show wpAny _ _ (call (Value.ref _) _) _ _ _); first | (k_here; (k_dflt (show wpAny _ _ (call (Value.ref 234) [Value.ref _, Value.int _ _]) _ _ _)); k_dflt (refine' lvl_mem ?k1 ?k2 ?k3 ?k4 ?m1 ?m2 ?m3 ?m4 ?k5 ?k6 ?k7 ?k8 ?k9 ?ka ?kb ?kc ?kd ?ke ?kf ?_; (case k1 => k_asm); (case k2 => k_asm); (case k3 => k_asm); (case k4 => k_asm); (case m1 => k_mem); (case m2 => k_mem); (case m3 => k_mem); (case m4 => k_mem); (case k5 => k_asm); (case k6 => exact rfl); (case k7 => ktr_room); (case k8 => ktr_units); (case k9 => assumption); (case ka => assumption); (case kb => assumption); (case kc => assumption); (case kd => assumption); (case ke => assumption); (case kf => assumption); k_whole; intro h'q gg'q tk'q t'q g'q F'q N'q; (try dsimp only))) | (k_here; (k_dflt (show wpAny _ _ (call (Value.ref 227) [Value.ref _]) _ _ _)); k_dflt (refine' run_mem ?k1 ?k2 ?k3 ?k4 ?m1 ?m2 ?m3 ?m4 ?k5 ?k6 ?k7 ?k8 ?k9 ?ka ?kb ?_; (case k1 => k_asm); (case k2 => k_asm); (case k3 => k_asm); (case k4 => k_asm); (case m1 => k_mem); (case m2 => k_mem); (case m3 => k_mem); (case m4 => k_mem); (case k5 => k_asm); (case k6 => exact rfl); (case k7 => ktr_room); (case k8 => ktr_units); (case k9 => assumption); (case ka => assumption); (case kb => assumption); k_whole; intro h'q tk'q t'q F'q N'q))) | (k_here; (with_reducible show wpAny _ _ (call (Value.builtin "len") [Value.ref _]) _ _ _); k_dflt (refine' ktm_lenK ?k1 ?k2 ?k3 ?k4 ?_; (case k1 => k_asm); (case k2 => k_mem); (case k3 => first | assumption | omega); (case k4 => exact congrArg Nat.cast (IntsAre.length (by assumption))); k_whole)) | ((with_reducible show wpAny _ _ (call (Value.type _) _) _ _ _); first | (k_here; (with_reducible show wpAny _ _ (call (Value.type "tuple") [Value.ref _]) _ _ _); k_dflt (refine' kde_tupleOf ?k1 ?k2 ?k3 ?k4 ?k5 ?_; (case k1 => k_asm); (case k2 => k_asm); (case k3 => exact News.isList (by k_asm) (by k_mem)); (case k4 => (rw [List.size_toArray]; omega)); (case k5 => exact rfl); k_whole); intro D'q h'q F'q N'q l1q; (try dsimp only [List.toArray_toList] at N'q); (try k_lt l1q); (try k_sweep)) | (k_here; (with_reducible show wpAny _ _ (call (Value.type "range") [Value.int _ _, Value.int _ _]) _ _ _); k_dflt (refine' range2_rows ?F ?N ?_; (case F => k_asm); (case N => k_asm); k_whole; intro h'q tk'q t1'q u1'q v1'q R'q F'q N'q K'q))) | walk1 | (dsimp only; walk1) | (leave1; walk_say "STEP leave1"; try dsimp only) | fail "no step")
    rename Fr _ _ _ _ => Fz; rename News _ _ _ _ => Nz
    exact hret ml vs k tl' _ _ _ hgm Fz (wit_end Nz) hsub hap htr
end
section
theorem calm63 {M : PySem.Model} {A : PySem.Around} {Q : Unit → PySem.Shared → Prop} {E : PySem.Value → PySem.Shared → Prop} {s : PySem.Shared} (h : Q () s) : PySem.wpAny M A (pure ()) Q E s := by
  w_top off
  first | (walk1; done) | exact PySem.wpAny_pure h
/-- runs of blanks, a tab behind each -/
noncomputable def wsCodes (ns : List Nat) : List Nat := ns.flatMap fun n => List.replicate n 32 ++ [9]
noncomputable def wsStr (ns : List Nat) : Str := ⟨(wsCodes ns).toArray⟩
theorem wsCodes_mem {ns : List Nat} {c : Nat} (h : c ∈ (wsStr ns).cps.toList) : c = 32 ∨ c = 9 := by
  simp only [wsStr, wsCodes, List.mem_flatMap, List.mem_append, List.mem_replicate, List.mem_singleton] at h
  obtain ⟨_, _, h | h⟩ := h
  · exact .inl h.2
  · exact .inr h
theorem runs_all : ((List.range 4).all fun r0 => (List.range 4).all fun r1 => Txt.join "" [Txt.mul (Str.ofString " ") (r0 : Int) ++ Str.ofString "\t", Txt.mul (Str.ofString " ") (r1 : Int) ++ Str.ofString "\t"] == wsStr [r0, r1]) = true := by decide +kernel
theorem runs_eq {r0 r1 : Nat} (h0 : r0 < 4) (h1 : r1 < 4) : Txt.join "" [Txt.mul (Str.ofString " ") (r0 : Int) ++ Str.ofString "\t", Txt.mul (Str.ofString " ") (r1 : Int) ++ Str.ofString "\t"] = wsStr [r0, r1] :=
  eq_of_beq (List.all_eq_true.mp (List.all_eq_true.mp runs_all r0 (List.mem_range.mpr h0)) r1 (List.mem_range.mpr h1))
theorem first_all : ((List.range 4).all fun r0 => (List.range 4).all fun r1 => (List.range 17).all fun z => (wsStr [r0, r1] ++ Txt.mul (Str.ofString " ") (z : Int)) ++ Str.ofString "\t" == wsStr [r0, r1, z]) = true := by decide +kernel
theorem first_eq {r0 r1 z : Nat} (h0 : r0 < 4) (h1 : r1 < 4) (h2 : z < 17) : (wsStr [r0, r1] ++ Txt.mul (Str.ofString " ") (z : Int)) ++ Str.ofString "\t" = wsStr [r0, r1, z] :=
  eq_of_beq (List.all_eq_true.mp (List.all_eq_true.mp (List.all_eq_true.mp first_all r0 (List.mem_range.mpr h0)) r1 (List.mem_range.mpr h1)) z (List.mem_range.mpr h2))
theorem second_all : ((List.range 4).all fun r0 => (List.range 4).all fun r1 => (List.range 17).all fun z => (Txt.mul (Str.ofString " ") (z : Int) ++ Str.ofString "\t") ++ wsStr [r0, r1] == wsStr [z, r0, r1]) = true := by decide +kernel
theorem second_eq {r0 r1 z : Nat} (h0 : r0 < 4) (h1 : r1 < 4) (h2 : z < 17) : (Txt.mul (Str.ofString " ") (z : Int) ++ Str.ofString "\t") ++ wsStr [r0, r1] = wsStr [z, r0, r1] :=
  eq_of_beq (List.all_eq_true.mp (List.all_eq_true.mp (List.all_eq_true.mp second_all r0 (List.mem_range.mpr h0)) r1 (List.mem_range.mpr h1)) z (List.mem_range.mpr h2))
/-- what a Whitespace of these runs counts -/
noncomputable def wsOf (ns : List Nat) : List Int × Nat × Nat × Nat := wsAt (wsStr ns).cps.toList (wsStr ns).cps.size
noncomputable def wsLvl (ns : List Nat) : Nat → Int := lvl (wsOf ns).2.1 (wsOf ns).2.2.2 (wsOf ns).1
noncomputable def wsRun (ns : List Nat) : Int := if ((wsOf ns).2.1 : Int) > ((wsOf ns).1.length : Int) - 1 then ((wsOf ns).2.1 : Int) else ((wsOf ns).1.length : Int) - 1
noncomputable def wsTop (a b : List Nat) : Nat := ((if wsRun b > wsRun a then wsRun b else wsRun a) + 1).toNat
noncomputable def witsOf (r0 r1 z : Nat) : List (Int × Int × Int) := wits (wsLvl [r0, r1, z]) (wsLvl [z - 1, r0, r1]) (wsTop [r0, r1, z] [z - 1, r0, r1])
/-- the steps: those of one size -/
noncomputable def stepsOf (z : Nat) : List Int := (witsOf 0 0 z).map fun t => t.1
noncomputable def wsFine (ns : List Nat) : Bool := decide ((wsStr ns).cps.size ≤ 60) && ((wsOf ns).1.all fun z => decide (0 ≤ z ∧ z ≤ 60)) && decide (0 ≤ wsRun ns)
theorem fine_all : ((List.range 4).all fun r0 => (List.range 4).all fun r1 => (List.range 17).all fun z => wsFine [r0, r1, z] && wsFine [z, r0, r1]) = true := by decide +kernel
theorem wits_all : ((List.range 4).all fun r0 => (List.range 4).all fun r1 => (List.range 16).all fun z => ((witsOf r0 r1 (z + 1)).map (fun t => t.1) == stepsOf (z + 1)) && ((witsOf r0 r1 (z + 1)).all fun t => decide (t.2.1 - t.2.2 = t.1))) = true := by decide +kernel
theorem len2_all : ((List.range 4).all fun r0 => (List.range 4).all fun r1 => decide ((wsStr [r0, r1]).length ≤ 8) && decide ((Txt.mul (Str.ofString " ") (r0 : Int) ++ Str.ofString "\t").length ≤ 4)) = true := by decide +kernel
theorem wsStr_len2 {r0 r1 : Nat} (h0 : r0 < 4) (h1 : r1 < 4) : (wsStr [r0, r1]).length ≤ 8 ∧ (Txt.mul (Str.ofString " ") (r0 : Int) ++ Str.ofString "\t").length ≤ 4 := by
  have := List.all_eq_true.mp (List.all_eq_true.mp len2_all r0 (List.mem_range.mpr h0)) r1 (List.mem_range.mpr h1)
  simpa using this
theorem fine_of {r0 r1 z : Nat} (h0 : r0 < 4) (h1 : r1 < 4) (h2 : z < 17) : wsFine [r0, r1, z] = true ∧ wsFine [z, r0, r1] = true := by
  have := List.all_eq_true.mp (List.all_eq_true.mp (List.all_eq_true.mp fine_all r0 (List.mem_range.mpr h0)) r1 (List.mem_range.mpr h1)) z (List.mem_range.mpr h2)
  exact Bool.and_eq_true_iff.mp this
theorem fine_facts {ns : List Nat} (h : wsFine ns = true) : (wsStr ns).cps.size ≤ 60 ∧ (∀ z ∈ (wsOf ns).1, 0 ≤ z ∧ z ≤ 60) ∧ 0 ≤ wsRun ns ∧ (wsOf ns).1.length ≤ 61 ∧ (wsOf ns).2.1 ≤ 60 ∧ (wsOf ns).2.2.2 ≤ 60 ∧ wsRun ns ≤ 60 := by
  simp only [wsFine, Bool.and_eq_true, decide_eq_true_eq, List.all_eq_true] at h
  have hl := wsAt_le (wsStr ns).cps.toList (wsStr ns).cps.size (by simp)
  have e : wsOf ns = wsAt (wsStr ns).cps.toList (wsStr ns).cps.size := rfl
  rw [← e] at hl
  refine ⟨h.1.1, h.1.2, h.2, by omega, by omega, by omega, ?_⟩
  unfold wsRun
  split <;> omega
end
section
theorem calm64 {M : PySem.Model} {A : PySem.Around} {Q : Unit → PySem.Shared → Prop} {E : PySem.Value → PySem.Shared → Prop} {s : PySem.Shared} (h : Q () s) : PySem.wpAny M A (pure ()) Q E s := by
  w_top off
  first | (walk1; done) | exact PySem.wpAny_pure h
theorem wit_swap {h₀ h : Heap} {L : Addr} {a b c d e f g j : Addr × Obj} {tl : List (Addr × Obj)} (N : News h₀ L h (a :: b :: c :: d :: e :: f :: g :: j :: tl)) : News h₀ L h (e :: f :: g :: j :: a :: b :: c :: d :: tl) := fun q hq => N q (by
  first | (revert q; (repeat (refine sub_cons (by repeat (first | exact List.mem_cons_self | apply List.mem_cons_of_mem)) ?_)); (first | exact (fun _ h => absurd h List.not_mem_nil) | (intro x9 hx9; repeat (first | exact hx9 | exact hs x9 hx9 | apply List.mem_cons_of_mem)))) | (simp only [List.mem_cons] at hq ⊢; rcases hq with h | h | h | h | h | h | h | h | h <;> simp [h]))
theorem lw_call {w : World} {p : Program} {loose : List Str} {mean : ExcName → Option Value} {mg mb : Str → Option Value}
  {dp un : Nat} {gd : Option (List Code)} {cn : Str} {cs : Scope} {a : Addr} {ccd : Value} {cl : List (Str × Addr)} {outer : List Env} {A₀ : Around} {base h₀ : Heap} {L : Addr} {m : Str → Option Value} {s : Shared} {Q : Value → Shared → Prop} {E : Value → Shared → Prop}
  {tl : List (Addr × Obj)} {cD : Addr} {a0 a1 a2 a3 : Int} {u0 u1 u2 u3 tz : Tok} {k size : Nat}
  (B : Below A₀ base outer h₀) (F : Fr h₀ L s.heap m) (X : (heap39 w.params).In h₀)
  (N : News h₀ L s.heap ((cD, listOf #[.int a0 u0, .int a1 u1, .int a2 u2, .int a3 u3] k) :: tl)) 
  (T : Top p loose mean mg mb h₀) (hk : cs.kind = .function) (hd' : dp + 300 < recursionLimit) (hu : un + 2500 < cLine)
  (h1 : 1 ≤ size) (h2 : size ≤ 16) 
  (hret : ∀ (D : Addr) (vs : List Value) (kk : Nat) (tl' : List (Addr × Obj)) (h' : Heap) (gg : Array GenState) (tk' : Nat), GenMoved s.gens gg → Fr h₀ L h' m → News h₀ L h' ((D, listOf vs.toArray kk) :: tl') → (∀ q ∈ (cD, listOf #[.int a0 u0, .int a1 u1, .int a2 u2, .int a3 u3] k) :: tl, q ∈ tl') → (∀ p ∈ tl', @Ne Nat p.1 D) →
    ∀ r0 r1 : Nat, r0 < 4 → r1 < 4 → Trips tl' vs (witsOf r0 r1 size) → Q (.ref D) { s with heap := h', gens := gg, toks := tk' }) :
   wpAny (model PP w) (ktrTop dp un gd cn cs L a ccd cl outer) (call (.ref (nat_lit 293)) [.int (size : Int) tz, .ref cD]) Q E s := by
  have _k : (fun (_ : OpenLaw) => True) PySem.Challenge.rw_tc0068_02 ∧ heap39 = heap39 := by
    k_fill
    exact ⟨trivial, rfl⟩
  clear _k
  refine wpAny_call ?_
  refine' code_def ?k1 ?k2 ?k3 ?k4 ?k5 ?kA ?kF ?kK ?k6 ?k7 ?k8 ?k9 ?kB ?_ ?c2 ?c3 ?c4 ?c5; (case kA => exact rfl); (case kF => exact rfl); (case kK => assumption); (case k1 => k_asm); (case k2 => k_asm); (case k3 => k_asm); (case k4 => k_asm); (case k5 => k_asm); (case k6 => k_is); (case k7 => k_is); (case k8 => ktr_room); (case k9 => exact BindsTo.of_eq rfl); (case c5 => decide); (case kB => exact locs rfl); (case c2 => exact rfl); (case c3 => exact rfl); (case c4 => exact rfl); k_whole; intro g' L' h' FG' F' N' B' X' T'; (try dsimp only); (try k_lift B'); (try k_fold)
  have hm0 : 0 ≤ a0.fmod 4 ∧ a0.fmod 4 ≤ 3 := by rw [Int.fmod_eq_emod_of_nonneg _ (by decide)]; omega
  have hm1 : 0 ≤ a1.fmod 4 ∧ a1.fmod 4 ≤ 3 := by rw [Int.fmod_eq_emod_of_nonneg _ (by decide)]; omega
  obtain ⟨r0, hr0⟩ : ∃ r : Nat, a0.fmod 4 = (r : Int) := ⟨(a0.fmod 4).toNat, by omega⟩
  obtain ⟨r1, hr1⟩ : ∃ r : Nat, a1.fmod 4 = (r : Int) := ⟨(a1.fmod 4).toNat, by omega⟩
  have lr0 : r0 < 4 := by omega
  have lr1 : r1 < 4 := by omega
  repeat' ((fail_if_success (with_reducible show wpAny _ _ (call (Value.builtin "str.join") _) _ _ _)); (first | (k_unfold; (try dsimp only)) | (k_end; wrow_close) | ((with_reducible show wpAny _ _ (binaryOp Operator.Mult (Value.str _ _) (Value.int _ _)) _ _ _); (k_here; k_dflt (refine' KXi.mul (n := 1) ?a ?b ?c ?d ?_; (case a => rfl); (case b => decide); (case c => omega); (case d => omega); k_whole; intro t'q k'q _ _))) | (k_here; (with_reducible show wpAny _ _ (call (Value.type "range") [Value.int _ _, Value.int _ _]) _ _ _); k_dflt (refine' range2_rows ?F ?N ?_; (case F => k_asm); (case N => k_asm); k_whole; intro h'q tk'q t1'q u1'q v1'q R'q F'q N'q K'q)) | walk1 | (dsimp only; walk1) | (leave1; walk_say "STEP leave1"; try dsimp only) | (walk_at "CompEnd") | fail "no step"))
  refine join_listW (News.isList (by k_asm) (n := _) (by k_mem)) (.cons _ _ (.cons _ _ .nil)) (by decide +kernel) ?_ ?_
  · rw [hr0, hr1]
    have z0 := (wsStr_len2 lr0 lr1).2
    have z1 := (wsStr_len2 lr1 lr0).2
    simp only [List.map_cons, List.map_nil, List.sum_cons, List.sum_nil, List.length_cons, List.length_nil]
    omega
  intro tj kj
  rw [hr0, hr1, runs_eq lr0 lr1]
  have hl8 := (wsStr_len2 lr0 lr1).1
  repeat' ((fail_if_success (k_dflt (show wpAny _ _ (call (Value.ref 265) _) _ _ _))); (first | (k_unfold; (try dsimp only)) | (k_end; wrow_close) | ((with_reducible show wpAny _ _ (binaryOp Operator.Mult (Value.str _ _) (Value.int _ _)) _ _ _); (k_here; k_dflt (refine' KXi.mul (n := 1) ?a ?b ?c ?d ?_; (case a => rfl); (case b => decide); (case c => omega); (case d => omega); k_whole; intro t'q k'q _ _))) | (k_here; (with_reducible show wpAny _ _ (call (Value.type "range") [Value.int _ _, Value.int _ _]) _ _ _); k_dflt (refine' range2_rows ?F ?N ?_; (case F => k_asm); (case N => k_asm); k_whole; intro h'q tk'q t1'q u1'q v1'q R'q F'q N'q K'q)) | walk1 | (dsimp only; walk1) | (leave1; walk_say "STEP leave1"; try dsimp only) | (walk_at "CompEnd") | fail "no step"))
  k_here
  rw [first_eq lr0 lr1 (by omega)]
  have f1 := fine_facts (fine_of lr0 lr1 (z := size) (by omega)).1
  have f2 := fine_facts (fine_of lr0 lr1 (z := size - 1) (by omega)).2
  refine' ws_call ?B ?F ?X ?N ?T ?hk ?d ?u ?hx ?hxa ?_
  case B => k_asm
  case F => k_asm
  case X => k_asm
  case N => k_asm
  case T => k_asm
  case hk => exact rfl
  case d => ktr_room
  case u => ktr_units
  case hx => exact f1.1
  case hxa => exact fun c hc => wsCodes_mem hc
  dsimp only
  intro x1 d1 nn1 tc1 vs1 bb1 h1 gg1 tk1 ta1 tb1 tcc1 ka1 kb1 kc1 kd1 ke1 gm1 FF1 NN1 la1 lb1 lc1 ld1 iv1
  repeat' ((fail_if_success (k_dflt (show wpAny _ _ (call (Value.ref 265) _) _ _ _))); (first | (k_unfold; (try dsimp only)) | (k_end; wrow_close) | ((with_reducible show wpAny _ _ (binaryOp Operator.Mult (Value.str _ _) (Value.int _ _)) _ _ _); (k_here; k_dflt (refine' KXi.mul (n := 1) ?a ?b ?c ?d ?_; (case a => rfl); (case b => decide); (case c => omega); (case d => omega); k_whole; intro t'q k'q _ _))) | (k_here; (with_reducible show wpAny _ _ (call (Value.type "range") [Value.int _ _, Value.int _ _]) _ _ _); k_dflt (refine' range2_rows ?F ?N ?_; (case F => k_asm); (case N => k_asm); k_whole; intro h'q tk'q t1'q u1'q v1'q R'q F'q N'q K'q)) | walk1 | (dsimp only; walk1) | (leave1; walk_say "STEP leave1"; try dsimp only) | (walk_at "CompEnd") | fail "no step"))
  k_here
  have es : ((size : Int) - 1) = ((size - 1 : Nat) : Int) := by omega
  rw [es, second_eq lr0 lr1 (by omega)]
  refine' ws_call ?B ?F ?X ?N ?T ?hk ?d ?u ?hx ?hxa ?_
  case B => k_asm
  case F => k_asm
  case X => k_asm
  case N => k_asm
  case T => k_asm
  case hk => exact rfl
  case d => ktr_room
  case u => ktr_units
  case hx => exact f2.1
  case hxa => exact fun c hc => wsCodes_mem hc
  dsimp only
  intro x2 d2 nn2 tc2 vs2 bb2 h2 gg2 tk2 ta2 tb2 tcc2 ka2 kb2 kc2 kd2 ke2 gm2 FF2 NN2 la2 lb2 lc2 ld2 iv2
  repeat' ((fail_if_success (k_dflt (show wpAny _ _ (call (Value.ref 248) _) _ _ _))); (first | (k_unfold; (try dsimp only)) | (k_end; wrow_close) | ((with_reducible show wpAny _ _ (binaryOp Operator.Mult (Value.str _ _) (Value.int _ _)) _ _ _); (k_here; k_dflt (refine' KXi.mul (n := 1) ?a ?b ?c ?d ?_; (case a => rfl); (case b => decide); (case c => omega); (case d => omega); k_whole; intro t'q k'q _ _))) | (k_here; (with_reducible show wpAny _ _ (call (Value.type "range") [Value.int _ _, Value.int _ _]) _ _ _); k_dflt (refine' range2_rows ?F ?N ?_; (case F => k_asm); (case N => k_asm); k_whole; intro h'q tk'q t1'q u1'q v1'q R'q F'q N'q K'q)) | walk1 | (dsimp only; walk1) | (leave1; walk_say "STEP leave1"; try dsimp only) | (walk_at "CompEnd") | fail "no step"))
  k_here
  rename Fr _ _ _ _ => Fa; rename News _ _ _ _ => Na
  have Nb := wit_swap Na
  clear Na
  have e1 : (if wsRun [size - 1, r0, r1] > wsRun [r0, r1, size] then wsRun [size - 1, r0, r1] else wsRun [r0, r1, size]) + 1 = ((wsTop [r0, r1, size] [size - 1, r0, r1] : Nat) : Int) := by
    unfold wsTop
    rw [Int.toNat_of_nonneg]
    split <;> omega
  have e2 : wsTop [r0, r1, size] [size - 1, r0, r1] ≤ 62 := by
    have : ((wsTop [r0, r1, size] [size - 1, r0, r1] : Nat) : Int) ≤ 62 := by
      rw [← e1]
      split <;> omega
    omega
  refine' wit_call ?B ?F ?X ?N ?T ?hk ?d ?u ?j1 ?j2 ?j3 ?j4 ?j5 ?i1 ?i2 ?i3 ?i4 ?i5 ?g1 ?g2 ?_
  case B => k_asm
  case F => k_asm
  case X => k_asm
  case N => exact Nb
  case T => k_asm
  case hk => exact rfl
  case d => ktr_room
  case u => ktr_units
  case j1 => exact iv1
  case j2 => exact f1.2.2.2.1
  case j3 => exact f1.2.2.2.2.1
  case j4 => exact f1.2.2.2.2.2.1
  case j5 => exact f1.2.1
  case i1 => exact iv2
  case i2 => exact f2.2.2.2.1
  case i3 => exact f2.2.2.2.2.1
  case i4 => exact f2.2.2.2.2.2.1
  case i5 => exact f2.2.1
  case g2 => exact e1
  case g1 => exact e2
  intro D vs k' tl' h' gg tk' gm FF NN hs ha tr
  dsimp only
  repeat' (first | (k_unfold; (try dsimp only)) | (k_end; wrow_close) | ((with_reducible show wpAny _ _ (binaryOp Operator.Mult (Value.str _ _) (Value.int _ _)) _ _ _); (k_here; k_dflt (refine' KXi.mul (n := 1) ?a ?b ?c ?d ?_; (case a => rfl); (case b => decide); (case c => omega); (case d => omega); k_whole; intro t'q k'q _ _))) | (k_here; (with_reducible show wpAny _ _ (call (Value.type "range") [Value.int _ _, Value.int _ _]) _ _ _); k_dflt (refine' range2_rows ?F ?N ?_; (case F => k_asm); (case N => k_asm); k_whole; intro h'q tk'q t1'q u1'q v1'q R'q F'q N'q K'q)) | walk1 | (dsimp only; walk1) | (leave1; walk_say "STEP leave1"; try dsimp only) | fail "no step")
  rename Fr _ _ _ _ => Fz; rename News _ _ _ _ => Nz
  exact hret D vs k' tl' _ _ _ (.trans gm1 (.trans gm2 gm)) Fz Nz (fun q hq => hs q (List.mem_cons_of_mem _ (List.mem_cons_of_mem _ hq))) ha r0 r1 lr0 lr1 tr
end
section
theorem calm65 {M : PySem.Model} {A : PySem.Around} {Q : Unit → PySem.Shared → Prop} {E : PySem.Value → PySem.Shared → Prop} {s : PySem.Shared} (h : Q () s) : PySem.wpAny M A (pure ()) Q E s := by
  w_top off
  first | (walk1; done) | exact PySem.wpAny_pure h
noncomputable def aheads : List Str := [Str.ofString "", Str.ofString "a", Str.ofString "\\)", Str.ofString "\"(\"", Str.ofString "\\\\"]
noncomputable def brks : List Str := [Str.ofString ")", Str.ofString "("]
noncomputable def pieceAt (cx ns : List Int) (j : Nat) : Str := aheads.getD (((cx.getD ((j : Int).fmod 4).toNat 0).fdiv 4).fmod 5).toNat Str.empty ++ brks.getD ((ns.getD j 0).fmod 2).toNat Str.empty
noncomputable def piecesTo (cx ns : List Int) (i : Nat) : List Str := (List.range i).map (pieceAt cx ns)
theorem ahead_len : ∀ k : Nat, (aheads.getD k Str.empty).length ≤ 4
  | 0 => by decide
  | 1 => by decide
  | 2 => by decide
  | 3 => by decide
  | 4 => by decide
  | _ + 5 => Nat.zero_le _
theorem brk_len : ∀ k : Nat, (brks.getD k Str.empty).length ≤ 1
  | 0 => by decide
  | 1 => by decide
  | _ + 2 => Nat.zero_le _
theorem piecesTo_succ (cx ns : List Int) (i : Nat) : piecesTo cx ns (i + 1) = piecesTo cx ns i ++ [pieceAt cx ns i] := by
  unfold piecesTo
  rw [List.range_succ, List.map_append]
  rfl
local macro_rules | `(tactic| walk_at "CompEnd") => `(tactic| (refine' comp_end1 ?F ?N ?o ?S ?r; (case F => k_asm); (case N => k_asm); (case o => assumption); (case S => exact fun _ h => h)))
theorem pieces_news {h₀ h : Heap} {L : Addr} {a b c d e f : Addr × Obj} {tl : List (Addr × Obj)} (N : News h₀ L h (a :: b :: c :: d :: e :: f :: tl)) : News h₀ L h (a :: e :: f :: tl) := fun q hq => N q (by
  first | (revert q; (repeat (refine sub_cons (by repeat (first | exact List.mem_cons_self | apply List.mem_cons_of_mem)) ?_)); (first | exact (fun _ h => absurd h List.not_mem_nil) | (intro x9 hx9; repeat (first | exact hx9 | exact hs x9 hx9 | apply List.mem_cons_of_mem)))) | (simp only [List.mem_cons] at hq ⊢; rcases hq with h | h | h | h <;> simp [h]))
theorem pieces_ap {P : Addr} {b c d e f : Addr × Obj} {tl : List (Addr × Obj)} (h : ∀ p ∈ b :: c :: d :: e :: f :: tl, @Ne Nat p.1 P) : ∀ p ∈ e :: f :: tl, @Ne Nat p.1 P := fun q hq => h q (List.mem_cons_of_mem _ (List.mem_cons_of_mem _ (List.mem_cons_of_mem _ hq)))
theorem lp_call {w : World} {p : Program} {loose : List Str} {mean : ExcName → Option Value} {mg mb : Str → Option Value}
  {dp un : Nat} {gd : Option (List Code)} {cn : Str} {cs : Scope} {a : Addr} {ccd : Value} {cl : List (Str × Addr)} {outer : List Env} {A₀ : Around} {base h₀ : Heap} {L : Addr} {m : Str → Option Value} {s : Shared} {Q : Value → Shared → Prop} {E : Value → Shared → Prop}
  {tl : List (Addr × Obj)} {D cD : Addr} {vs cv : List Value} {ns cx : List Int} {c c2 : Nat}
  (B : Below A₀ base outer h₀) (F : Fr h₀ L s.heap m) (X : (heap39 w.params).In h₀)
  (N : News h₀ L s.heap ((D, listOf vs.toArray c) :: (cD, listOf cv.toArray c2) :: tl)) 
  (T : Top p loose mean mg mb h₀) (hk : cs.kind = .function) (hd' : dp + 300 < recursionLimit) (hu : un + 2500 < cLine)
  (iv : IntsAre vs ns) (ic : IntsAre cv cx) (hl : ns.length ≤ 32) (hc : cx.length = 4) (hcb : ∀ x ∈ cx, 0 ≤ x ∧ x < 1000000) (hnb : ∀ x ∈ ns, 0 ≤ x ∧ x < 1000)
  (hret : ∀ (P : Addr) (ps : List Value) (kk : Nat) (h' : Heap) (tk' : Nat), Fr h₀ L h' m → News h₀ L h' ((P, listOf ps.toArray kk) :: (D, listOf vs.toArray c) :: (cD, listOf cv.toArray c2) :: tl) → (∀ p ∈ (D, listOf vs.toArray c) :: (cD, listOf cv.toArray c2) :: tl, @Ne Nat p.1 P) →
    StrsAre ps (piecesTo cx ns ns.length) → Q (.ref P) { s with heap := h', toks := tk' }) :
   wpAny (model PP w) (ktrTop dp un gd cn cs L a ccd cl outer) (call (.ref (nat_lit 288)) [.ref D, .ref cD]) Q E s := by
  have _k : (fun (_ : OpenLaw) => True) PySem.Challenge.rw_tc0068_02 ∧ heap39 = heap39 := by
    k_fill
    exact ⟨trivial, rfl⟩
  clear _k
  refine wpAny_call ?_
  refine' code_defC ?k1 ?k2 ?k3 ?k4 ?k5 ?kA ?kF ?kK ?k6 ?k7 ?k8 ?k9 ?kB ?kD ?_ ?c2 ?c3 ?c4; (case kA => exact rfl); (case kF => exact rfl); (case kK => assumption); (case k1 => k_asm); (case k2 => k_asm); (case k3 => k_asm); (case k4 => k_asm); (case k5 => k_asm); (case k6 => k_is); (case k7 => k_is); (case k8 => ktr_room); (case k9 => first | exact BindsTo.of_eq rfl | exact binds_K (by k_in) rfl (by k_is) rfl rfl rfl); (case kB => exact rfl); (case kD => decide +kernel); (case c2 => exact rfl); (case c3 => exact rfl); (case c4 => exact rfl); k_whole; intro g' L' h' tk' cells' FG' F' N' Y' B' X' T' l1; (try k_lt l1); k_cells Y'; (try simp only [List.cons_append, List.nil_append] at N'); (try dsimp only); (try k_lift B'); (try k_fold)
  have hA : AllLt L' tl := l1.2.2
  have hA1 : ∀ p ∈ tl, p.1 ≠ L' + 1 := allLt_up hA (Nat.le_succ _)
  have hA2 : ∀ p ∈ tl, p.1 ≠ L' + 1 + 1 := allLt_up hA (Nat.le_succ_of_le (Nat.le_succ _))
  repeat' ((fail_if_success (with_reducible show wpAny _ _ (eval (PySem.Expr.ListComp _ _ _ _) _) _ _ _)); (first | (k_unfold; (try dsimp only)) | (k_end; wrow_close) | ((with_reducible show wpAny _ _ (subscriptTail _ _ _ _) _ _ _); first | (k_here; (with_reducible show wpAny _ _ (subscriptTail _ (PySem.Expr.BinOp _ _ _ _) (Value.ref _) (Value.int _ _)) _ _ _); k_dflt (refine' sub_strs (ys := brks) ?k1 ?k2 ?k3 ?k4 ?k5 ?k6 ?_ ?k7 ?k8; (case k1 => k_asm); (case k2 => k_mem); (case k3 => exact .cons _ _ (.cons _ _ .nil)); (case k4 => exact (fmod_bd _ (k := 2) (by decide)).1); (case k5 => exact (fmod_bd _ (k := 2) (by decide)).2); (case k6 => exact (by decide)); (case k7 => with_unfolding_all rfl); (case k8 => (intro _; with_unfolding_all rfl)); k_whole; intro tk'q)) | (k_here; (with_reducible show wpAny _ _ (subscriptTail _ (PySem.Expr.BinOp _ _ _ _) (Value.ref _) (Value.int _ _)) _ _ _); k_dflt (refine' sub_strs (ys := aheads) ?k1 ?k2 ?k3 ?k4 ?k5 ?k6 ?_ ?k7 ?k8; (case k1 => k_asm); (case k2 => k_mem); (case k3 => exact .cons _ _ (.cons _ _ (.cons _ _ (.cons _ _ (.cons _ _ .nil))))); (case k4 => exact (fmod_bd _ (k := 5) (by decide)).1); (case k5 => exact (fmod_bd _ (k := 5) (by decide)).2); (case k6 => exact (by decide)); (case k7 => with_unfolding_all rfl); (case k8 => (intro _; with_unfolding_all rfl)); k_whole; intro tk'q))) | ((with_reducible show wpAny _ _ (call (Value.type _) _) _ _ _); first | (k_here; (with_reducible show wpAny _ _ (call (Value.type "enumerate") [Value.ref _]) _ _ _); k_dflt (refine' enum_K ?k1 ?k2 ?k3 ?_; (case k1 => k_asm); (case k2 => k_asm); (case k3 => k_mem); k_whole); intro h'q e'q it'q F'q N'q en'q) | (k_here; (with_reducible show wpAny _ _ (call (Value.type "range") [Value.int _ _, Value.int _ _]) _ _ _); k_dflt (refine' range2_rows ?F ?N ?_; (case F => k_asm); (case N => k_asm); k_whole; intro h'q tk'q t1'q u1'q v1'q R'q F'q N'q K'q))) | walk1 | (dsimp only; walk1) | (leave1; walk_say "STEP leave1"; try dsimp only) | fail "no step"))
  k_here
  rename Fr _ _ _ _ => Fa; rename News _ _ _ _ => Na
  refine' LE Fa ?k1 ?k2 ?k3 ?k4 ?k5 ?k6 ?k7 ?k8 ?_ ?k9
  case k1 => with_unfolding_all rfl
  case k2 => rfl
  case k3 => decide
  case k4 => rfl
  case k5 => rfl
  case k6 => decide
  case k7 => intro _; rfl
  case k8 => intro _; rfl
  case k9 => intro _; rfl
  repeat' (first | (k_unfold; (try dsimp only)) | (k_end; wrow_close) | ((with_reducible show wpAny _ _ (subscriptTail _ _ _ _) _ _ _); first | (k_here; (with_reducible show wpAny _ _ (subscriptTail _ (PySem.Expr.BinOp _ _ _ _) (Value.ref _) (Value.int _ _)) _ _ _); k_dflt (refine' sub_strs (ys := brks) ?k1 ?k2 ?k3 ?k4 ?k5 ?k6 ?_ ?k7 ?k8; (case k1 => k_asm); (case k2 => k_mem); (case k3 => exact .cons _ _ (.cons _ _ .nil)); (case k4 => exact (fmod_bd _ (k := 2) (by decide)).1); (case k5 => exact (fmod_bd _ (k := 2) (by decide)).2); (case k6 => exact (by decide)); (case k7 => with_unfolding_all rfl); (case k8 => (intro _; with_unfolding_all rfl)); k_whole; intro tk'q)) | (k_here; (with_reducible show wpAny _ _ (subscriptTail _ (PySem.Expr.BinOp _ _ _ _) (Value.ref _) (Value.int _ _)) _ _ _); k_dflt (refine' sub_strs (ys := aheads) ?k1 ?k2 ?k3 ?k4 ?k5 ?k6 ?_ ?k7 ?k8; (case k1 => k_asm); (case k2 => k_mem); (case k3 => exact .cons _ _ (.cons _ _ (.cons _ _ (.cons _ _ (.cons _ _ .nil))))); (case k4 => exact (fmod_bd _ (k := 5) (by decide)).1); (case k5 => exact (fmod_bd _ (k := 5) (by decide)).2); (case k6 => exact (by decide)); (case k7 => with_unfolding_all rfl); (case k8 => (intro _; with_unfolding_all rfl)); k_whole; intro tk'q))) | ((with_reducible show wpAny _ _ (call (Value.type _) _) _ _ _); first | (k_here; (with_reducible show wpAny _ _ (call (Value.type "enumerate") [Value.ref _]) _ _ _); k_dflt (refine' enum_K ?k1 ?k2 ?k3 ?_; (case k1 => k_asm); (case k2 => k_asm); (case k3 => k_mem); k_whole); intro h'q e'q it'q F'q N'q en'q) | (k_here; (with_reducible show wpAny _ _ (call (Value.type "range") [Value.int _ _, Value.int _ _]) _ _ _); k_dflt (refine' range2_rows ?F ?N ?_; (case F => k_asm); (case N => k_asm); k_whole; intro h'q tk'q t1'q u1'q v1'q R'q F'q N'q K'q))) | walk1 | (dsimp only; walk1) | (leave1; walk_say "STEP leave1"; try dsimp only) | fail "no step")
  rename Fr _ _ _ _ => Fb; rename News _ _ _ _ => Nb; rename EnumNew _ _ _ _ _ _ _ => enb
  have hvl : vs.length = ns.length := iv.length
  refine' ⟨_, _, D, vs, c, ns, _, fun i ys => StrsAre ys (piecesTo cx ns i), rfl, rfl, Fb, Nb, ?g1, iv, enb, ?g2, .nil, ?turn, ?fin⟩
  case g1 => k_mem
  case g2 => rw [sizeLine_eq]; omega
  case turn =>
    intro i n ys h tk E' oe oi C oC D' m₂ ta tb hi hJ hyl hC ea eb F' N' off ne hpt
    have hi32 : i < ns.length := (List.getElem?_eq_some_iff.mp hi).1
    try simp only [LCg.Off3, and_true] at off
    have q1 := ahead_len (((cx.getD ((i : Int).fmod 4).toNat 0).fdiv 4).fmod 5).toNat
    have q2 := brk_len (n.fmod 2).toNat
    repeat' ((first | (k_unfold; (try dsimp only)) | (k_end; wrow_close) | ((with_reducible show wpAny _ _ (subscriptTail _ _ _ _) _ _ _); first | (k_here; (with_reducible show wpAny _ _ (subscriptTail _ (PySem.Expr.BinOp _ _ _ _) (Value.ref _) (Value.int _ _)) _ _ _); k_dflt (refine' sub_strs (ys := brks) ?k1 ?k2 ?k3 ?k4 ?k5 ?k6 ?_ ?k7 ?k8; (case k1 => k_asm); (case k2 => k_mem); (case k3 => exact .cons _ _ (.cons _ _ .nil)); (case k4 => exact (fmod_bd _ (k := 2) (by decide)).1); (case k5 => exact (fmod_bd _ (k := 2) (by decide)).2); (case k6 => exact (by decide)); (case k7 => with_unfolding_all rfl); (case k8 => (intro _; with_unfolding_all rfl)); k_whole; intro tk'q)) | (k_here; (with_reducible show wpAny _ _ (subscriptTail _ (PySem.Expr.BinOp _ _ _ _) (Value.ref _) (Value.int _ _)) _ _ _); k_dflt (refine' sub_strs (ys := aheads) ?k1 ?k2 ?k3 ?k4 ?k5 ?k6 ?_ ?k7 ?k8; (case k1 => k_asm); (case k2 => k_mem); (case k3 => exact .cons _ _ (.cons _ _ (.cons _ _ (.cons _ _ (.cons _ _ .nil))))); (case k4 => exact (fmod_bd _ (k := 5) (by decide)).1); (case k5 => exact (fmod_bd _ (k := 5) (by decide)).2); (case k6 => exact (by decide)); (case k7 => with_unfolding_all rfl); (case k8 => (intro _; with_unfolding_all rfl)); k_whole; intro tk'q))) | ((with_reducible show wpAny _ _ (call (Value.type _) _) _ _ _); first | (k_here; (with_reducible show wpAny _ _ (call (Value.type "enumerate") [Value.ref _]) _ _ _); k_dflt (refine' enum_K ?k1 ?k2 ?k3 ?_; (case k1 => k_asm); (case k2 => k_asm); (case k3 => k_mem); k_whole); intro h'q e'q it'q F'q N'q en'q) | (k_here; (with_reducible show wpAny _ _ (call (Value.type "range") [Value.int _ _, Value.int _ _]) _ _ _); k_dflt (refine' range2_rows ?F ?N ?_; (case F => k_asm); (case N => k_asm); k_whole; intro h'q tk'q t1'q u1'q v1'q R'q F'q N'q K'q))) | walk1 | (dsimp only; walk1) | (leave1; walk_say "STEP leave1"; try dsimp only) | (walk_at "CompEnd") | fail "no step"))
    have ei : pieceAt cx ns i = aheads.getD (((cx.getD ((i : Int).fmod 4).toNat 0).fdiv 4).fmod 5).toNat Str.empty ++ brks.getD (n.fmod 2).toNat Str.empty := by
      unfold pieceAt
      rw [List.getD_eq_getElem?_getD (l := ns), hi]
      rfl
    rw [piecesTo_succ, ei]
    exact hJ.append' (.cons _ _ .nil)
  case fin =>
    intro D' h tk ys F' N' ap hJ
    rw [hvl] at hJ
    repeat' (first | (k_unfold; (try dsimp only)) | (k_end; wrow_close) | ((with_reducible show wpAny _ _ (subscriptTail _ _ _ _) _ _ _); first | (k_here; (with_reducible show wpAny _ _ (subscriptTail _ (PySem.Expr.BinOp _ _ _ _) (Value.ref _) (Value.int _ _)) _ _ _); k_dflt (refine' sub_strs (ys := brks) ?k1 ?k2 ?k3 ?k4 ?k5 ?k6 ?_ ?k7 ?k8; (case k1 => k_asm); (case k2 => k_mem); (case k3 => exact .cons _ _ (.cons _ _ .nil)); (case k4 => exact (fmod_bd _ (k := 2) (by decide)).1); (case k5 => exact (fmod_bd _ (k := 2) (by decide)).2); (case k6 => exact (by decide)); (case k7 => with_unfolding_all rfl); (case k8 => (intro _; with_unfolding_all rfl)); k_whole; intro tk'q)) | (k_here; (with_reducible show wpAny _ _ (subscriptTail _ (PySem.Expr.BinOp _ _ _ _) (Value.ref _) (Value.int _ _)) _ _ _); k_dflt (refine' sub_strs (ys := aheads) ?k1 ?k2 ?k3 ?k4 ?k5 ?k6 ?_ ?k7 ?k8; (case k1 => k_asm); (case k2 => k_mem); (case k3 => exact .cons _ _ (.cons _ _ (.cons _ _ (.cons _ _ (.cons _ _ .nil))))); (case k4 => exact (fmod_bd _ (k := 5) (by decide)).1); (case k5 => exact (fmod_bd _ (k := 5) (by decide)).2); (case k6 => exact (by decide)); (case k7 => with_unfolding_all rfl); (case k8 => (intro _; with_unfolding_all rfl)); k_whole; intro tk'q))) | ((with_reducible show wpAny _ _ (call (Value.type _) _) _ _ _); first | (k_here; (with_reducible show wpAny _ _ (call (Value.type "enumerate") [Value.ref _]) _ _ _); k_dflt (refine' enum_K ?k1 ?k2 ?k3 ?_; (case k1 => k_asm); (case k2 => k_asm); (case k3 => k_mem); k_whole); intro h'q e'q it'q F'q N'q en'q) | (k_here; (with_reducible show wpAny _ _ (call (Value.type "range") [Value.int _ _, Value.int _ _]) _ _ _); k_dflt (refine' range2_rows ?F ?N ?_; (case F => k_asm); (case N => k_asm); k_whole; intro h'q tk'q t1'q u1'q v1'q R'q F'q N'q K'q))) | walk1 | (dsimp only; walk1) | (leave1; walk_say "STEP leave1"; try dsimp only) | fail "no step")
    rename Fr _ _ _ _ => Fz; rename News _ _ _ _ => Nz
    exact hret D' ys _ _ _ Fz (pieces_news Nz) (pieces_ap ap) hJ
end
end
section
theorem calm66 {M : PySem.Model} {A : PySem.Around} {Q : Unit → PySem.Shared → Prop} {E : PySem.Value → PySem.Shared → Prop} {s : PySem.Shared} (h : Q () s) : PySem.wpAny M A (pure ()) Q E s := by
  w_top off
  first | (walk1; done) | exact PySem.wpAny_pure h
/-- the codes of a dressing; those that are left without what is quoted -/
noncomputable def ahC : Nat → List Nat
  | 1 => [97]
  | 2 => [92, 41]
  | 3 => [34, 40, 34]
  | 4 => [92, 92]
  | _ => []
noncomputable def ahN : Nat → List Nat
  | 1 => [97]
  | 2 => [92, 41]
  | 4 => [92, 92]
  | _ => []
noncomputable def pcC (q : Nat × Nat) : List Nat := ahC q.1 ++ [q.2]
noncomputable def pcN (q : Nat × Nat) : List Nat := ahN q.1 ++ [q.2]
noncomputable def txC (qs : List (Nat × Nat)) : List Nat := qs.flatMap pcC
noncomputable def txN (qs : List (Nat × Nat)) : List Nat := qs.flatMap pcN
noncomputable def Brs (qs : List (Nat × Nat)) : Prop := ∀ q ∈ qs, q.2 = 40 ∨ q.2 = 41
theorem escAt_app : ∀ (p r : List Nat) (e : Bool), escAt (p ++ r) e = escAt r (escAt p e)
  | [], r, e => rfl
  | c :: p, r, true => by
    show escAt (p ++ r) false = _
    rw [escAt_app p r]; rfl
  | c :: p, r, false => by
    show escAt (p ++ r) (decide (c = 92)) = _
    rw [escAt_app p r]; rfl
theorem esc_pc {q : Nat × Nat} (h : q.2 = 40 ∨ q.2 = 41) : escAt (pcC q) false = false ∧ escAt (pcN q) false = false := by
  obtain ⟨k, b⟩ := q
  dsimp only at h
  unfold pcC pcN ahC ahN
  dsimp only
  rcases h with rfl | rfl <;> (split <;> first | exact ⟨rfl, rfl⟩ | (split <;> exact ⟨rfl, rfl⟩))
theorem esc_tx : ∀ {qs : List (Nat × Nat)}, Brs qs → escAt (txC qs) false = false ∧ escAt (txN qs) false = false
  | [], _ => ⟨rfl, rfl⟩
  | q :: qs, h => by
    have h1 := esc_pc (h q List.mem_cons_self)
    have h2 := esc_tx (qs := qs) fun p hp => h p (List.mem_cons_of_mem _ hp)
    constructor
    · show escAt (pcC q ++ txC qs) false = false
      rw [escAt_app, h1.1]; exact h2.1
    · show escAt (pcN q ++ txN qs) false = false
      rw [escAt_app, h1.2]; exact h2.2
theorem units_app (r : List Nat) : ∀ (p : List Nat) (i : Nat) (e : Bool), escAt p e = false → units i (p ++ r) e = units i p e ++ units (i + p.length) r false
  | [], i, e, h => by
    have : e = false := h
    subst this
    simp [units]
  | c :: p, i, true, h => by
    show (i, _) :: units (i + 1) (p ++ r) false = (i, _) :: units (i + 1) p false ++ _
    rw [units_app r p (i + 1) false h, List.length_cons, Nat.add_right_comm i 1, ← Nat.add_assoc]
    rfl
  | c :: p, i, false, h => by
    have h' : escAt p (decide (c = 92)) = false := h
    show (if c = 92 then units (i + 1) (p ++ r) true else (i, ⟨#[c]⟩) :: units (i + 1) (p ++ r) false) = (if c = 92 then units (i + 1) p true else (i, ⟨#[c]⟩) :: units (i + 1) p false) ++ _
    by_cases hc : c = 92
    · rw [if_pos hc, if_pos hc]
      rw [decide_eq_true hc] at h'
      rw [units_app r p (i + 1) true h', List.length_cons, Nat.add_right_comm i 1, ← Nat.add_assoc]
    · rw [if_neg hc, if_neg hc]
      rw [decide_eq_false hc] at h'
      rw [units_app r p (i + 1) false h', List.length_cons, Nat.add_right_comm i 1, ← Nat.add_assoc]
      rfl
/-- the brackets alone -/
noncomputable def bStep (S : Option Int) (b : Nat) : Option Int := match S with
  | none => none
  | some o => if b = 40 then some (o + 1) else if b = 41 then (if o - 1 < 0 then none else some (o - 1)) else some o
theorem ck_neither {u : Str} (h1 : (u == opn) = false) (h2 : (u == cls) = false) (S : Option Int) (i : Nat) : ckStep S (i, u) = S := by
  cases S with
  | none => rfl
  | some o => simp [ckStep, h1, h2]
theorem ck_br {b : Nat} (h : b = 40 ∨ b = 41) (S : Option Int) (i : Nat) : ckStep S (i, ⟨#[b]⟩) = bStep S b := by
  cases S with
  | none => rfl
  | some o =>
    rcases h with rfl | rfl
    · rfl
    · rfl
theorem ck_pc {q : Nat × Nat} (h : q.2 = 40 ∨ q.2 = 41) (S : Option Int) (i : Nat) : (units i (pcN q) false).foldl ckStep S = bStep S q.2 := by
  obtain ⟨k, b⟩ := q
  dsimp only at h ⊢
  have e : ∀ j, units j [b] false = [(j, ⟨#[b]⟩)] := fun j => by rcases h with rfl | rfl <;> rfl
  unfold pcN ahN
  dsimp only
  split
  · show (units i ([97] ++ [b]) false).foldl ckStep S = _
    rw [units_app _ [97] i false rfl, e]
    show ckStep (ckStep S (i, ⟨#[97]⟩)) _ = _
    rw [ck_neither (u := ⟨#[97]⟩) rfl rfl, ck_br h]
  · rw [units_app _ [92, 41] i false rfl, e]
    show ckStep (ckStep S (i + 1, bsl ++ ⟨#[41]⟩)) _ = _
    rw [ck_neither (u := bsl ++ ⟨#[41]⟩) rfl rfl, ck_br h]
  · rw [units_app _ [92, 92] i false rfl, e]
    show ckStep (ckStep S (i + 1, bsl ++ ⟨#[92]⟩)) _ = _
    rw [ck_neither (u := bsl ++ ⟨#[92]⟩) rfl rfl, ck_br h]
  · show (units i [b] false).foldl ckStep S = _
    rw [e]
    exact ck_br h S i
theorem ck_tx : ∀ {qs : List (Nat × Nat)}, Brs qs → ∀ (S : Option Int) (i : Nat), (units i (txN qs) false).foldl ckStep S = (qs.map (·.2)).foldl bStep S
  | [], _, S, i => rfl
  | q :: qs, h, S, i => by
    show (units i (pcN q ++ txN qs) false).foldl ckStep S = _
    rw [units_app _ _ _ _ (esc_pc (h q List.mem_cons_self)).2, List.foldl_append, ck_pc (h q List.mem_cons_self), ck_tx fun p hp => h p (List.mem_cons_of_mem _ hp)]
    rfl
/-- the strip's turns -/
theorem qs_not {cut : Nat → Nat → Str} {u : Str} (h : (u == quo) = false) (S : Nat × Option Nat × List Str) (i : Nat) : qstep cut S (i, u) = S := by simp [qstep, h]
theorem qs_pc {cut : Nat → Nat → Str} {q : Nat × Nat} (h : q.2 = 40 ∨ q.2 = 41) (st : Nat) (res : List Str) (i : Nat) :
    (units i (pcC q) false).foldl (qstep cut) (st, none, res) = if q.1 = 3 then (i + 3, none, if st = i then res else res ++ [cut st i]) else (st, none, res) := by
  obtain ⟨k, b⟩ := q
  dsimp only at h ⊢
  have e : ∀ j, units j [b] false = [(j, ⟨#[b]⟩)] := fun j => by rcases h with rfl | rfl <;> rfl
  have hb : ((⟨#[b]⟩ : Str) == quo) = false := by rcases h with rfl | rfl <;> rfl
  unfold pcC ahC
  dsimp only
  split
  · show (units i ([97] ++ [b]) false).foldl _ _ = _
    rw [units_app _ [97] i false rfl, e, if_neg (by decide)]
    show qstep cut (qstep cut _ (i, ⟨#[97]⟩)) _ = _
    rw [qs_not (u := ⟨#[97]⟩) rfl, qs_not hb]
  · rw [units_app _ [92, 41] i false rfl, e, if_neg (by decide)]
    show qstep cut (qstep cut _ (i + 1, bsl ++ ⟨#[41]⟩)) _ = _
    rw [qs_not (u := bsl ++ ⟨#[41]⟩) rfl, qs_not hb]
  · rw [units_app _ [34, 40, 34] i false rfl, e, if_pos rfl]
    show qstep cut (qstep cut (qstep cut (qstep cut _ (i, ⟨#[34]⟩)) (i + 1, ⟨#[40]⟩)) (i + 1 + 1, ⟨#[34]⟩)) _ = _
    rw [qs_not hb, qs_not (u := ⟨#[40]⟩) rfl]
    rfl
  · rw [units_app _ [92, 92] i false rfl, e, if_neg (by decide)]
    show qstep cut (qstep cut _ (i + 1, bsl ++ ⟨#[92]⟩)) _ = _
    rw [qs_not (u := bsl ++ ⟨#[92]⟩) rfl, qs_not hb]
  · rename_i h1 h2 h3 h4
    rw [if_neg (fun e => h3 e)]
    show (units i [b] false).foldl _ _ = _
    rw [e]
    exact qs_not (cut := cut) hb _ i
noncomputable def flatC (l : List Str) : List Nat := l.flatMap fun x => x.cps.toList
theorem slice_nat (x : Str) {a b : Nat} (hab : a ≤ b) (hb : b ≤ x.length) : (Txt.slice x (some (a : Int)) (some (b : Int))).cps.toList = (x.cps.toList.drop a).take (b - a) := by
  have := StrLaws.sliceText_nat x hab hb
  have e : Txt.slice x (some (a : Int)) (some (b : Int)) = StrLaws.sliceText x (some (a : Int)) (some (b : Int)) := rfl
  rw [e, this]
theorem slice_tail (x : Str) {a : Nat} (ha : a ≤ x.length) : (Txt.slice x (some (a : Int)) none).cps.toList = x.cps.toList.drop a := by
  have e : Txt.slice x (some (a : Int)) none = Txt.slice x (some (a : Int)) (some (x.length : Int)) := by
    unfold Txt.slice
    rw [StrLaws.sliceIdx_none_hi]
  rw [e, slice_nat x ha (Nat.le_refl _)]
  have hl : x.length = x.cps.toList.length := by simp [Str.length]
  rw [List.take_of_length_le (by rw [List.length_drop]; omega)]
noncomputable def SInv (qs : List (Nat × Nat)) (S : Nat × Option Nat × List Str) : Prop := S.2.1 = none ∧ S.1 ≤ (txC qs).length ∧ flatC S.2.2 ++ (txC qs).drop S.1 = txN qs
theorem txC_snoc (qs : List (Nat × Nat)) (q : Nat × Nat) : txC (qs ++ [q]) = txC qs ++ pcC q := by simp [txC]
theorem txN_snoc (qs : List (Nat × Nat)) (q : Nat × Nat) : txN (qs ++ [q]) = txN qs ++ pcN q := by simp [txN]
theorem pc_same {q : Nat × Nat} (h : q.1 ≠ 3) : pcC q = pcN q := by
  obtain ⟨k, b⟩ := q
  dsimp only at h
  unfold pcC pcN ahC ahN
  dsimp only
  split <;> first | rfl | exact absurd rfl h | (split <;> first | rfl | contradiction)
theorem strip_go (x : Str) : ∀ (rest qs : List (Nat × Nat)) (S : Nat × Option Nat × List Str), Brs rest → x.cps.toList = txC (qs ++ rest) → SInv qs S → SInv (qs ++ rest) ((units (txC qs).length (txC rest) false).foldl (qstep (cutOf x)) S)
  | [], qs, S, _, _, hS => by simpa [txC, units] using hS
  | q :: rest, qs, (st, op, res), hb, hx, ⟨h1, h2, h3⟩ => by
    dsimp only at h1 h2 h3
    subst h1
    have hq := hb q List.mem_cons_self
    have e0 : qs ++ q :: rest = (qs ++ [q]) ++ rest := by simp
    rw [e0]
    have e1 : txC (q :: rest) = pcC q ++ txC rest := rfl
    rw [e1, units_app _ _ _ _ (esc_pc hq).1, List.foldl_append, qs_pc hq]
    have e2 : (txC qs).length + (pcC q).length = (txC (qs ++ [q])).length := by rw [txC_snoc, List.length_append]
    rw [e2]
    refine strip_go x rest (qs ++ [q]) _ (fun p hp => hb p (List.mem_cons_of_mem _ hp)) (by rw [hx, e0]) ?_
    have hxl : x.length = (txC (qs ++ q :: rest)).length := by
      rw [← hx]; simp [Str.length]
    by_cases hk : q.1 = 3
    · rw [if_pos hk]
      have eq3 : pcC q = [34, 40, 34, q.2] := by unfold pcC; rw [hk]; rfl
      have en3 : pcN q = [q.2] := by unfold pcN; rw [hk]; rfl
      refine ⟨rfl, ?_, ?_⟩
      · dsimp only
        rw [txC_snoc, eq3, List.length_append]
        simp
      · dsimp only
        rw [txC_snoc, txN_snoc, eq3, en3]
        have d1 : (txC qs ++ [34, 40, 34, q.2]).drop ((txC qs).length + 3) = [q.2] := by
          rw [List.drop_append]
          simp
        rw [d1]
        congr 1
        by_cases hst : st = (txC qs).length
        · rw [if_pos hst]
          rw [hst, List.drop_length, List.append_nil] at h3
          exact h3
        · rw [if_neg hst]
          unfold flatC at h3 ⊢
          rw [List.flatMap_append]
          have hle : (txC qs).length ≤ x.length := by
            rw [hxl]; simp [txC]
          have c1 : (cutOf x st (txC qs).length).cps.toList = (txC qs).drop st := by
            show (Txt.slice x (some (st : Int)) (some ((txC qs).length : Int))).cps.toList = _
            rw [slice_nat x h2 hle, hx]
            have : txC (qs ++ q :: rest) = txC qs ++ txC (q :: rest) := by simp [txC]
            rw [this, List.drop_append_of_le_length h2, List.take_append_of_le_length (by rw [List.length_drop]; exact Nat.le_refl _), List.take_of_length_le (by rw [List.length_drop]; exact Nat.le_refl _)]
          simp only [List.flatMap_cons, List.flatMap_nil, List.append_nil]
          rw [c1]
          exact h3
    · rw [if_neg hk]
      refine ⟨rfl, ?_, ?_⟩
      · dsimp only
        rw [txC_snoc, List.length_append]
        omega
      · dsimp only
        rw [txC_snoc, txN_snoc, List.drop_append_of_le_length h2, ← List.append_assoc, h3, pc_same hk]
theorem gl_foldl (rest : List Str) : ∀ acc : Array Nat, rest.foldl (fun acc p => acc ++ (Str.ofString "").cps ++ p.cps) acc = acc ++ (flatC rest).toArray := by
  induction rest with
  | nil => intro acc; simp [flatC]
  | cons x t ih => intro acc; rw [List.foldl_cons, ih]; apply Array.ext'; simp [flatC, show (Str.ofString "").cps = #[] from rfl]
theorem glued_flat (l : List Str) : (Txt.join (Str.ofString "") l).cps.toList = flatC l := by
  have : Txt.join (Str.ofString "") l = ⟨(flatC l).toArray⟩ := by
    show (⟨_⟩ : Str) = _
    congr 1
    refine (gl_foldl _ _).trans ?_
    cases l with
    | nil => rfl
    | cons x t => apply Array.ext'; simp [flatC]
  rw [this]
theorem no_quote : ∀ {qs : List (Nat × Nat)}, 34 ∉ txC qs → txC qs = txN qs
  | [], _ => rfl
  | q :: qs, h => by
    have e1 : txC (q :: qs) = pcC q ++ txC qs := rfl
    have e2 : txN (q :: qs) = pcN q ++ txN qs := rfl
    rw [e1] at h
    have h1 : q.1 ≠ 3 := fun e => h (List.mem_append_left _ (by unfold pcC; rw [e]; exact List.mem_append_left _ List.mem_cons_self))
    rw [e1, e2, pc_same h1, no_quote fun hm => h (List.mem_append_right _ hm)]
theorem stripQ_tx {qs : List (Nat × Nat)} (h : Brs qs) : stripQ ⟨(txC qs).toArray⟩ = ⟨(txN qs).toArray⟩ := by
  generalize ex : (⟨(txC qs).toArray⟩ : Str) = x
  have hx : x.cps.toList = txC qs := by rw [← ex]
  have ext : ∀ {y : Str} {l : List Nat}, y.cps.toList = l → y = ⟨l.toArray⟩ := fun {y l} e => by
    cases y; simp only at e; rw [← e]
  refine ext ?_
  unfold stripQ
  have hf := StrLaws.found_one x 34
  have eq : quo = ⟨#[34]⟩ := rfl
  rw [eq]
  split
  · rename_i he
    rw [he] at hf
    have hn : 34 ∉ x.cps.toList := by simpa using hf.symm
    rw [hx] at hn ⊢
    exact no_quote hn
  · have S0 := strip_go x qs [] (0, none, []) h (by rw [hx]; rfl) ⟨rfl, Nat.le_refl _, rfl⟩
    have e0 : (units (txC []).length (txC qs) false).foldl (qstep (cutOf x)) (0, none, []) = qfold (cutOf x) (units 0 x.cps.toList false) := by rw [hx]; rfl
    rw [e0] at S0
    generalize qfold (cutOf x) (units 0 x.cps.toList false) = S at S0
    obtain ⟨st, op, res⟩ := S
    obtain ⟨h1, h2, h3⟩ := S0
    dsimp only at h1 h2 h3 ⊢
    rw [List.nil_append] at h2 h3
    rw [glued_flat]
    have hl : x.length = (txC qs).length := by rw [← hx]; simp [Str.length]
    split
    · have : flatC (res ++ [Txt.slice x (some (st : Int)) none]) = flatC res ++ (txC qs).drop st := by
        unfold flatC
        rw [List.flatMap_append]
        simp only [List.flatMap_cons, List.flatMap_nil, List.append_nil]
        rw [slice_tail x (by omega), hx]
      rw [this, h3]
    · have : st = (txC qs).length := by omega
      rw [this, List.drop_length, List.append_nil] at h3
      exact h3
/-- what the check says of brackets alone -/
noncomputable def balB (bs : List Nat) : Bool := match bs.foldl bStep (some 0) with
  | none => false
  | some o => decide (o = 0)
theorem chkP_tx {qs : List (Nat × Nat)} (h : Brs qs) : chkP ⟨(txC qs).toArray⟩ = balB (qs.map (·.2)) := by
  unfold chkP balB ckFold
  rw [stripQ_tx h]
  show (match (units 0 (txN qs) false).foldl ckStep (some 0) with | none => false | some o => decide (o = 0)) = _
  rw [ck_tx h]
theorem tx_len (qs : List (Nat × Nat)) : (txC qs).length ≤ 4 * qs.length ∧ (txN qs).length ≤ 4 * qs.length := by
  induction qs with
  | nil => exact ⟨Nat.le_refl _, Nat.le_refl _⟩
  | cons q qs ih =>
    have e1 : txC (q :: qs) = pcC q ++ txC qs := rfl
    have e2 : txN (q :: qs) = pcN q ++ txN qs := rfl
    have h1 : (pcC q).length ≤ 4 ∧ (pcN q).length ≤ 4 := by
      unfold pcC pcN ahC ahN
      constructor
      · split <;> simp
      · split <;> simp
    rw [e1, e2, List.length_append, List.length_append, List.length_cons]
    omega
end
section
theorem calm67 {M : PySem.Model} {A : PySem.Around} {Q : Unit → PySem.Shared → Prop} {E : PySem.Value → PySem.Shared → Prop} {s : PySem.Shared} (h : Q () s) : PySem.wpAny M A (pure ()) Q E s := by
  w_top off
  first | (walk1; done) | exact PySem.wpAny_pure h
noncomputable def ins (a : Int) : List Int → List Int
  | [] => [a]
  | b :: r => if a ≤ b then a :: b :: r else b :: ins a r
noncomputable def isort : List Int → List Int
  | [] => []
  | a :: r => ins a (isort r)
theorem ins_perm (a : Int) : ∀ l : List Int, (ins a l).Perm (a :: l)
  | [] => .refl _
  | b :: r => by
    unfold ins
    split
    · exact .refl _
    · exact ((ins_perm a r).cons b).trans (.swap a b r)
theorem isort_perm : ∀ l : List Int, (isort l).Perm l
  | [] => .refl _
  | a :: r => (ins_perm a (isort r)).trans ((isort_perm r).cons a)
theorem ins_sorted (a : Int) : ∀ {l : List Int}, l.Pairwise (· ≤ ·) → (ins a l).Pairwise (· ≤ ·)
  | [], _ => List.pairwise_singleton _ _
  | b :: r, h => by
    obtain ⟨h1, h2⟩ := List.pairwise_cons.mp h
    unfold ins
    split
    · rename_i hab
      exact List.pairwise_cons.mpr ⟨fun x hx => by
        rcases List.mem_cons.mp hx with rfl | hx
        · exact hab
        · exact Int.le_trans hab (h1 x hx), h⟩
    · rename_i hab
      exact List.pairwise_cons.mpr ⟨fun x hx => by
        rcases List.mem_cons.mp ((ins_perm a r).mem_iff.mp hx) with rfl | hx
        · omega
        · exact h1 x hx, ins_sorted a h2⟩
theorem isort_sorted : ∀ l : List Int, (isort l).Pairwise (· ≤ ·)
  | [] => .nil
  | a :: r => ins_sorted a (isort_sorted r)
theorem sorted_eq : ∀ {l1 l2 : List Int}, l1.Perm l2 → l1.Pairwise (· ≤ ·) → l2.Pairwise (· ≤ ·) → l1 = l2
  | [], l2, hp, _, _ => (List.nil_perm.mp hp).symm
  | a :: r, [], hp, _, _ => absurd hp.symm (by intro h; exact absurd (List.nil_perm.mp h) (by simp))
  | a :: r, b :: t, hp, h1, h2 => by
    obtain ⟨a1, a2⟩ := List.pairwise_cons.mp h1
    obtain ⟨b1, b2⟩ := List.pairwise_cons.mp h2
    have e : a = b := by
      have ha := hp.mem_iff.mp (List.mem_cons_self (a := a) (l := r))
      have hb := hp.mem_iff.mpr (List.mem_cons_self (a := b) (l := t))
      rcases List.mem_cons.mp ha with e | ha
      · exact e
      · rcases List.mem_cons.mp hb with e | hb
        · exact e.symm
        · exact Int.le_antisymm (a1 b hb) (b1 a ha)
    subst e
    rw [sorted_eq (List.Perm.cons_inv hp) a2 b2]
/-- the marks of a size -/
noncomputable def marksOf (z : Nat) : List Int := isort (marksRaw z z)
theorem marks_are {z : Nat} {ns : List Int} (h1 : ns.Perm (marksRaw z z)) (h2 : ns.Pairwise (· ≤ ·)) : ns = marksOf z :=
  sorted_eq (h1.trans (isort_perm _).symm) h2 (isort_sorted _)
noncomputable def edgesOf (z : Nat) : List Int := [0] ++ marksOf z ++ [2 * (z : Int) + 2]
noncomputable def cntAt (z : Nat) (spot : Int) : Nat := ((stepsOf z).filter fun st => decide (st < spot) && decide (spot ≤ 2 * st)).length
noncomputable def brOf (n : Int) : Nat := if n.fmod 2 = 0 then 41 else 40
/-- how deep it is behind so many marks -/
noncomputable def deepAt (z p : Nat) : Nat := cntAt z ((edgesOf z).getD p 0 + 1)
noncomputable def wideAt (z p : Nat) : Nat := ((edgesOf z).getD (p + 1) 0 - (edgesOf z).getD p 0).toNat
noncomputable def tabPlace (z p : Nat) : Bool := decide (0 ≤ (edgesOf z).getD p 0) && decide ((edgesOf z).getD p 0 < (edgesOf z).getD (p + 1) 0) && decide ((edgesOf z).getD (p + 1) 0 ≤ 34) && decide (deepAt z p ≤ 34) &&
  ((List.range (wideAt z p)).all fun k => decide (cntAt z ((edgesOf z).getD p 0 + 1 + (k : Int)) = deepAt z p)) && balB (((marksOf z).take p).map brOf ++ List.replicate (deepAt z p) 41)
noncomputable def tabSize (z : Nat) : Bool := ((marksOf z).all fun n => decide (0 ≤ n) && decide (n < 1000)) && ((List.range ((marksOf z).length + 1)).all (tabPlace z)) && !(balB ((marksOf z).map brOf ++ [40])) && !(balB ((marksOf z).map brOf ++ [41, 40]))
theorem tab_all : ((List.range 16).all fun z => tabSize (z + 1)) = true := by decide +kernel
end
section
local macro_rules | `(tactic| omega) => `(tactic| first | tb_rel | lia)
section
theorem calm68 {M : PySem.Model} {A : PySem.Around} {Q : Unit → PySem.Shared → Prop} {E : PySem.Value → PySem.Shared → Prop} {s : PySem.Shared} (h : Q () s) : PySem.wpAny M A (pure ()) Q E s := by
  w_top off
  first | (walk1; done) | exact PySem.wpAny_pure h
noncomputable def fakeP : Program := { (default : Program) with main := { (default : Module) with body := [.ImportFrom (some (Str.ofString "sys")) [] none default] } }
theorem top_fake {p : Program} {loose : List Str} {mean : ExcName → Option Value} {mg mb : Str → Option Value} {h h' : Heap} (T : Top p loose mean mg mb h) (h1 : h.get? 161 = some tab0) (h2 : h.get? 168 = some tab0)
    (hk : ∀ b o, b ≠ 161 → b ≠ 168 → h.get? b = some o → h'.get? b = some o) :
    Top fakeP (loose ++ (recsOf p).map (·.name) ++ (litsOf p).map (·.1) ++ (clssOf p loose).map (·.name)) mean mg mb h' where
  g := T.g.at' fun o e => hk _ o (by decide) (by decide) e
  b := T.b.at' fun o e => hk _ o (by decide) (by decide) e
  nolimit := by
    obtain ⟨mc, hn, r⟩ := T.nolimit
    exact ⟨mc, hn.at' fun o e => hk _ o (by decide) (by decide) e, r⟩
  nodigits := by
    obtain ⟨mc, hn, r⟩ := T.nodigits
    exact ⟨mc, hn.at' fun o e => hk _ o (by decide) (by decide) e, r⟩
  fn := fun d hd => nomatch (show d ∈ ([] : List DefRec) from hd)
  own := fun d hd => nomatch (show d ∈ ([] : List OwnSpec) from hd)
  const := fun x d hd => nomatch (show (none : Option PyData) = some d from hd)
  free := fun x h1 h2 _ _ _ => by
    simp only [List.mem_append, not_or] at h2
    exact T.free x h1 h2.1.1.1 h2.1.1.2 h2.1.2 h2.2
  builtins := T.builtins
  tab := fun d hd => nomatch (show d ∈ ([] : List DefRec) from hd)
  bmain := by
    obtain ⟨bm, ob, e1, e2, e3, e4, e5, e6⟩ := T.bmain
    refine ⟨bm, ob, e1, e2, hk _ _ ?_ ?_ e3, e4, e5, e6⟩
    · rintro rfl; rw [h1] at e3; cases e3; cases e4
    · rintro rfl; rw [h2] at e3; cases e3; cases e4
  seer := fun h => nomatch (show false = true from h)
theorem look161 (P : Params) : (heap39 P).lookup 161 = none := by kernel_rfl
theorem look168 (P : Params) : (heap39 P).lookup 168 = none := by kernel_rfl
theorem law_start {p : Program} {loose : List Str} {mean : ExcName → Option Value} {mg mb : Str → Option Value} {w : World} {h h₁ : Heap} {L : Addr} {m : Str → Option Value} {cw : Obj} (KX : (heapX w.params).In h) (hL : L = h.objs.size) (F : Fr h L h₁ m) (N : News h L h₁ [(L + 1, cw)]) (T : Top p loose mean mg mb h) :
    ∃ h0 : Heap, Fr h0 L h₁ m ∧ News h0 L h₁ [(161, tab0), (168, tab0), (L + 1, cw)] ∧ (heap39 w.params).In h0 ∧ (∃ loose', Top fakeP loose' mean mg mb h0) ∧ Below callerA h0 [] h0 ∧ (∀ b o, b ≠ 161 → b ≠ 168 → h.get? b = some o → h0.get? b = some o) ∧ @LT.lt Nat _ 168 L := by
  have e1 : h.get? 161 = some tab0 := KX 161 tab0 rfl
  have e2 : h.get? 168 = some tab0 := KX 168 tab0 rfl
  have hlt : @LT.lt Nat _ 168 L := by rw [hL]; exact Heap.lt_size e2
  have hk : ∀ b o, b ≠ 161 → b ≠ 168 → h.get? b = some o → (hideAll h [161, 168]).get? b = some o := fun b o n1 n2 e => hideAll_get _ e (by simp [n1, n2])
  refine ⟨hideAll h [161, 168], ⟨F.ns, fun b o e => F.keep b o (of_hideAll _ e), by rw [hideAll_size]; exact F.above⟩, ?_, ?_, ⟨_, top_fake T e1 e2 hk⟩, below_caller _, hk, hlt⟩
  · intro q hq
    rcases List.mem_cons.mp hq with rfl | hq
    · exact ⟨F.keep _ _ e1, Nat.ne_of_lt (Nat.lt_trans (by decide : 161 < 168) hlt), hideAll_none _ (by simp)⟩
    rcases List.mem_cons.mp hq with rfl | hq
    · exact ⟨F.keep _ _ e2, Nat.ne_of_lt hlt, hideAll_none _ (by simp)⟩
    have z := N q hq
    refine ⟨z.1, z.2.1, ?_⟩
    cases e : (hideAll h [161, 168]).get? q.1 with
    | none => rfl
    | some o => have := of_hideAll _ e; rw [z.2.2] at this; cases this
  · intro a o e
    have n1 : a ≠ 161 := by rintro rfl; rw [look161] at e; cases e
    have n2 : a ≠ 168 := by rintro rfl; rw [look168] at e; cases e
    refine hk a o n1 n2 (KX a o ?_)
    unfold heapX
    rw [List.lookup_cons, List.lookup_cons]
    have b1 : (a == 161) = false := by simpa using n1
    have b2 : (a == 168) = false := by simpa using n2
    rw [b1, b2]
    exact e
/-- the end: what the law leaves -/
theorem law_old {w : World} {h h0 h' : Heap} {L : Addr} {m : Str → Option Value} {o1 o2 : Obj} {tl : List (Addr × Obj)} (KX : (heapX w.params).In h) (F : Fr h0 L h' m) (N : News h0 L h' ((161, o1) :: (168, o2) :: tl)) (t1 : Tab o1) (t2 : Tab o2)
    (hk : ∀ b o, b ≠ 161 → b ≠ 168 → h.get? b = some o → h0.get? b = some o) (c1 : isCodeTable h 161) (c2 : isCodeTable h 168) : OldK h h' := by
  have e1 : h.get? 161 = some tab0 := KX 161 tab0 rfl
  have e2 : h.get? 168 = some tab0 := KX 168 tab0 rfl
  have n1 := (N (161, o1) List.mem_cons_self).1
  have n2 := (N (168, o2) (List.mem_cons_of_mem _ List.mem_cons_self)).1
  obtain ⟨ps1, rfl, _⟩ := t1
  obtain ⟨ps2, rfl, _⟩ := t2
  refine ⟨fun b o e => ?_, fun b o e => ?_⟩
  · by_cases b1 : b = 161
    · subst b1; rw [e1] at e; cases e
      exact .inr (.inl ⟨c1, rfl, #[], ps1, rfl, by rw [Array.empty_append]; exact n1⟩)
    · by_cases b2 : b = 168
      · subst b2; rw [e2] at e; cases e
        exact .inr (.inl ⟨c2, rfl, #[], ps2, rfl, by rw [Array.empty_append]; exact n2⟩)
      · exact .inl (F.keep _ _ (hk b o b1 b2 e))
  · by_cases b1 : b = 161
    · subst b1; exact ⟨_, n1⟩
    · by_cases b2 : b = 168
      · subst b2; exact ⟨_, n2⟩
      · exact ⟨_, F.keep _ _ (hk b o b1 b2 e)⟩
noncomputable def codeTabIn (K : Frag) (c P : Addr) : Bool := match K.lookup c with
  | some ⟨cc, _, .fields vs, _⟩ => (match cc with | .type t => t == "code" | _ => false) && (match (vs[11]? : Option Value) with | some (Value.ref q) => q == P | _ => false)
  | _ => false
theorem codeTab_of {K : Frag} {h : Heap} {c P : Addr} (X : K.In h) (e : codeTabIn K c P = true) : isCodeTable h P := by
  unfold codeTabIn at e
  split at e
  · rename_i cc d vs sl hC
    simp only [Bool.and_eq_true] at e
    obtain ⟨e0, e1⟩ := e
    have ec : cc = .type "code" := by
      split at e0
      · exact congrArg _ (eq_of_beq e0)
      · cases e0
    refine ⟨c, _, vs, X _ _ hC, ec, rfl, ?_⟩
    split at e1
    · rename_i q hq
      have : q = P := by simpa using e1
      rw [hq, this]
    · cases e1
  · cases e
theorem tabs_of {w : World} {h : Heap} (KX : (heapX w.params).In h) : isCodeTable h 161 ∧ isCodeTable h 168 := ⟨codeTab_of (c := 165) KX (by kernel_rfl), codeTab_of (c := 172) KX (by kernel_rfl)⟩
theorem list_low {w : World} {h h0 : Heap} {a : Addr} {items : Array Value} (hl : h.IsList a items) (KX : (heapX w.params).In h) (hk : ∀ b o, b ≠ 161 → b ≠ 168 → h.get? b = some o → h0.get? b = some o) : h0.IsList a items := by
  have e1 : h.get? 161 = some tab0 := KX 161 tab0 rfl
  have e2 : h.get? 168 = some tab0 := KX 168 tab0 rfl
  obtain ⟨o, ho, hc, r⟩ := hl
  refine ⟨o, hk _ _ ?_ ?_ ho, hc, r⟩
  · rintro rfl; rw [e1] at ho; cases ho; cases hc
  · rintro rfl; rw [e2] at ho; cases ho; cases hc
theorem ints_name {vs : List Value} {xs : List Int} (_ : IntsAre vs xs) : ∃ xs', xs' = xs := ⟨xs, rfl⟩
theorem drawn_bd (xs : List Int) : ∀ x ∈ List.map (fun k' : Int => k'.fmod (10 ^ Int.toNat 6)) (List.take 4 xs), 0 ≤ x ∧ x < 1000000 := by
  intro x hx
  obtain ⟨y, _, rfl⟩ := List.mem_map.mp hx
  exact fmod_bd y (k := 10 ^ Int.toNat 6) (by decide)
theorem drawn_len (xs : List Int) : (List.map (fun k' : Int => k'.fmod (10 ^ Int.toNat 6)) (List.take 4 xs)).length ≤ 4 := by
  rw [List.length_map, List.length_take]; omega
theorem pick_from {vs : List Value} {ns : List Int} (h : IntsAre vs ns) {n : Nat} (hn : n ≤ vs.length) : IntsAre (slicePick vs.toArray (some (n : Int)) none none).toList (ns.drop n) := by
  rw [kmk_pick_nat vs.toArray (a := n) (b := vs.length) (by
    simp only [sliceBounds, Option.getD_none, show (1 : Int) > 0 by decide, if_true, List.size_toArray, show ¬ ((n : Int) < 0) by omega, if_false]
    congr 1
    omega)]
  show IntsAre ((vs.drop n).take (vs.length - n)) _
  rw [List.take_of_length_le (by rw [List.length_drop]; exact Nat.le_refl _)]
  exact h.drop n
theorem slice_named {h0 h' : Heap} {L D : Addr} {vs0 : List Value} {ns0 : List Int} {n : Nat} {tl : List (Addr × Obj)} (hv : IntsAre vs0 ns0) (hn : n ≤ vs0.length) (N : News h0 L h' ((D, listOf (slicePick (List.toArray vs0) (some (n : Int)) none none) 0) :: tl)) :
    ∃ us, IntsAre us (ns0.drop n) ∧ News h0 L h' ((D, listOf (List.toArray us) 0) :: tl) := ⟨_, pick_from hv hn, by rw [Array.toArray_toList]; exact N⟩
theorem four_ints {ws : List Value} {cx : List Int} (h : IntsAre ws cx) (hl : cx.length = 4) : ∃ a0 a1 a2 a3 u0 u1 u2 u3, ws = [.int a0 u0, .int a1 u1, .int a2 u2, .int a3 u3] ∧ cx = [a0, a1, a2, a3] := by
  match cx, hl with
  | [a0, a1, a2, a3], _ =>
    obtain ⟨u0, w1, rfl, h1⟩ := IntsAre.cons_inv h
    obtain ⟨u1, w2, rfl, h2⟩ := IntsAre.cons_inv h1
    obtain ⟨u2, w3, rfl, h3⟩ := IntsAre.cons_inv h2
    obtain ⟨u3, w4, rfl, h4⟩ := IntsAre.cons_inv h3
    rw [IntsAre.nil_inv h4]
    exact ⟨_, _, _, _, _, _, _, _, rfl, rfl⟩
theorem cells_len (xs : List Int) (h : xs.length ≤ 4) : (xs ++ List.drop xs.length [21, 13, 18, 7]).length = 4 := by
  rw [List.length_append, List.length_drop]
  show xs.length + (4 - xs.length) = 4
  omega
theorem cells_bd {xs : List Int} (h : ∀ x ∈ xs, 0 ≤ x ∧ x < 1000000) : ∀ x ∈ xs ++ List.drop xs.length [21, 13, 18, 7], 0 ≤ x ∧ x < 1000000 := by
  intro x hx
  rcases List.mem_append.mp hx with hx | hx
  · exact h x hx
  · have := List.mem_of_mem_drop hx
    simp only [List.mem_cons, List.not_mem_nil, or_false] at this
    omega
theorem cells_news {h0 h : Heap} {L : Addr} {a b c d e f g j : Addr × Obj} (N : News h0 L h [a, b, c, d, e, f, g, j]) : News h0 L h [a, f, g, j] := fun q hq => N q (by
  simp only [List.mem_cons, List.not_mem_nil, or_false] at hq ⊢
  rcases hq with h | h | h | h <;> simp [h])
theorem size_name (x : Int) : ∃ z : Nat, 1 + x.fmod 16 = (z : Int) ∧ 1 ≤ z ∧ z ≤ 16 := by
  have := fmod_bd x (k := 16) (by decide)
  exact ⟨(1 + x.fmod 16).toNat, by omega, by omega, by omega⟩
theorem Trips.toN {news : List (Addr × Obj)} : ∀ {vs : List Value} {ws : List (Int × Int × Int)}, Trips news vs ws → TripsN news vs ws
  | _, _, .nil => ⟨rfl, fun j v e => by simp at e⟩
  | _, _, .cons (t := t) (ta := ta) (tb := tb) (tc := tc) (a := a) (b := b) (c := c) h r => by
    obtain ⟨e1, e2⟩ := r.toN
    refine ⟨congrArg (· + 1) e1, fun j v e => ?_⟩
    match j with
    | 0 =>
      have e' : Value.ref t = v := by simpa using e
      subst e'
      exact ⟨t, (a, b, c), ta, tb, tc, rfl, rfl, h⟩
    | j + 1 => exact e2 j v (by simpa using e)
theorem TripsN.sub {n1 n2 : List (Addr × Obj)} {vs : List Value} {ws : List (Int × Int × Int)} (x : TripsN n1 vs ws) (h : ∀ t r, (t, ({ cls := .type "tuple", data := .seq r } : Obj)) ∈ n1 → (t, ({ cls := .type "tuple", data := .seq r } : Obj)) ∈ n2) : TripsN n2 vs ws :=
  ⟨x.1, fun j v e => by
    obtain ⟨t, y, ta, tb, tc, e1, e2, e3⟩ := x.2 j v e
    exact ⟨t, y, ta, tb, tc, e1, e2, h _ _ e3⟩⟩
theorem wit_rest {h0 h : Heap} {L wD cD Lc : Addr} {wo co cw : Obj} {wtl : List (Addr × Obj)} {vs : List Value} {ws : List (Int × Int × Int)} (N : News h0 L h ((wD, wo) :: wtl)) (hs : ∀ q ∈ [(cD, co), (161, tab0), (168, tab0), (Lc, cw)], q ∈ wtl)
    (hco : co.cls = .type "list") (hcw : ∃ x, cw.data = .cell x) (tr : Trips wtl vs ws) (ap : ∀ p ∈ wtl, @Ne Nat p.1 wD) :
    ∃ tl, News h0 L h ((wD, wo) :: (161, tab0) :: (168, tab0) :: (Lc, cw) :: (cD, co) :: tl) ∧ TripsN tl vs ws ∧ (∀ p ∈ tl, p.1 ≠ 161) ∧ (∀ p ∈ tl, p.1 ≠ 168) ∧ (∀ p ∈ tl, p.1 ≠ Lc) ∧ (∀ p ∈ tl, p.1 ≠ cD) ∧ (∀ p ∈ tl, p.1 ≠ wD) ∧ @Ne Nat 161 wD ∧ @Ne Nat 168 wD ∧ @Ne Nat Lc wD ∧ @Ne Nat cD wD := by
  have m1 := hs (161, tab0) (by simp)
  have m2 := hs (168, tab0) (by simp)
  have m3 := hs (Lc, cw) (by simp)
  have m4 := hs (cD, co) (by simp)
  have uniq : ∀ {a : Addr} {o1 o2 : Obj}, (a, o1) ∈ wtl → (a, o2) ∈ wtl → o1 = o2 := fun {a o1 o2} x y => by
    have z1 := (N (a, o1) (List.mem_cons_of_mem _ x)).1
    have z2 := (N (a, o2) (List.mem_cons_of_mem _ y)).1
    exact Option.some.inj (z1.symm.trans z2)
  refine ⟨wtl.filter fun q => decide (q.1 ≠ 161) && decide (q.1 ≠ 168) && decide (q.1 ≠ Lc) && decide (q.1 ≠ cD), ?_, ?_, ?_, ?_, ?_, ?_, ?_, ap _ m1, ap _ m2, ap _ m3, ap _ m4⟩
  · intro q hq
    rcases List.mem_cons.mp hq with rfl | hq
    · exact N _ List.mem_cons_self
    rcases List.mem_cons.mp hq with rfl | hq
    · exact N _ (List.mem_cons_of_mem _ m1)
    rcases List.mem_cons.mp hq with rfl | hq
    · exact N _ (List.mem_cons_of_mem _ m2)
    rcases List.mem_cons.mp hq with rfl | hq
    · exact N _ (List.mem_cons_of_mem _ m3)
    rcases List.mem_cons.mp hq with rfl | hq
    · exact N _ (List.mem_cons_of_mem _ m4)
    exact N _ (List.mem_cons_of_mem _ (List.mem_filter.mp hq).1)
  · refine tr.toN.sub fun t r hm => List.mem_filter.mpr ⟨hm, ?_⟩
    have n1 : t ≠ 161 := by
      rintro rfl
      have e := congrArg Obj.cls (uniq hm m1)
      cases e
    have n2 : t ≠ 168 := by
      rintro rfl
      have e := congrArg Obj.cls (uniq hm m2)
      cases e
    have n3 : t ≠ Lc := by
      rintro rfl
      obtain ⟨x, hx⟩ := hcw
      have e := congrArg Obj.data (uniq hm m3)
      rw [hx] at e
      cases e
    have n4 : t ≠ cD := by
      rintro rfl
      have e := congrArg Obj.cls (uniq hm m4)
      rw [hco] at e
      injection e with e
      exact absurd e (by decide)
    simp [n1, n2, n3, n4]
  all_goals intro p hp
  all_goals have hf := List.mem_filter.mp hp
  all_goals simp only [Bool.and_eq_true, decide_eq_true_eq] at hf
  · exact hf.2.1.1.1
  · exact hf.2.1.1.2
  · exact hf.2.1.2
  · exact hf.2.2
  · exact ap p hf.1
theorem wits_fact {r0 r1 z : Nat} (h0 : r0 < 4) (h1 : r1 < 4) (hz1 : 1 ≤ z) (hz : z ≤ 16) : (witsOf r0 r1 z).map (fun t => t.1) = stepsOf z ∧ ∀ t ∈ witsOf r0 r1 z, t.2.1 - t.2.2 = t.1 := by
  have := List.all_eq_true.mp (List.all_eq_true.mp (List.all_eq_true.mp wits_all r0 (List.mem_range.mpr h0)) r1 (List.mem_range.mpr h1)) (z - 1) (List.mem_range.mpr (by omega))
  rw [show z - 1 + 1 = z by omega] at this
  obtain ⟨e1, e2⟩ := Bool.and_eq_true_iff.mp this
  exact ⟨eq_of_beq e1, fun t ht => of_decide_eq_true (List.all_eq_true.mp e2 t ht)⟩
theorem TripsN.up5 {a b c d e : Addr × Obj} {tl : List (Addr × Obj)} {vs : List Value} {ws : List (Int × Int × Int)} (x : TripsN tl vs ws) : TripsN (a :: b :: c :: d :: e :: tl) vs ws :=
  x.sub fun _ _ h => List.mem_cons_of_mem _ (List.mem_cons_of_mem _ (List.mem_cons_of_mem _ (List.mem_cons_of_mem _ (List.mem_cons_of_mem _ h))))
theorem wsTop_le {r0 r1 z : Nat} (h0 : r0 < 4) (h1 : r1 < 4) (hz : z ≤ 16) : wsTop [r0, r1, z] [z - 1, r0, r1] ≤ 62 := by
  have f1 := fine_facts (fine_of h0 h1 (z := z) (by omega)).1
  have f2 := fine_facts (fine_of h0 h1 (z := z - 1) (by omega)).2
  unfold wsTop
  split <;> omega
theorem law_n1 {h0 h : Heap} {L : Addr} {a b c t1 t2 d e : Addr × Obj} {tl : List (Addr × Obj)} (N : News h0 L h (a :: b :: c :: t1 :: t2 :: d :: e :: tl)) : News h0 L h (t1 :: t2 :: c :: d :: e :: tl) := fun q hq => N q (by
  first | (revert q; (repeat (refine sub_cons (by repeat (first | exact List.mem_cons_self | apply List.mem_cons_of_mem)) ?_)); (first | exact (fun _ h => absurd h List.not_mem_nil) | (intro x9 hx9; repeat (first | exact hx9 | exact hs x9 hx9 | apply List.mem_cons_of_mem)))) | (simp only [List.mem_cons] at hq ⊢; rcases hq with h | h | h | h | h | h <;> simp [h]))
theorem law_n2 {h0 h : Heap} {L : Addr} {m t1 t2 c d e : Addr × Obj} {tl : List (Addr × Obj)} (N : News h0 L h (m :: t1 :: t2 :: c :: d :: e :: tl)) : News h0 L h (m :: e :: t1 :: t2 :: c :: d :: tl) := fun q hq => N q (by
  first | (revert q; (repeat (refine sub_cons (by repeat (first | exact List.mem_cons_self | apply List.mem_cons_of_mem)) ?_)); (first | exact (fun _ h => absurd h List.not_mem_nil) | (intro x9 hx9; repeat (first | exact hx9 | exact hs x9 hx9 | apply List.mem_cons_of_mem)))) | (simp only [List.mem_cons] at hq ⊢; rcases hq with h | h | h | h | h | h | h <;> simp [h]))
theorem tab_size {z : Nat} (h1 : 1 ≤ z) (h2 : z ≤ 16) : tabSize z = true := by
  have := List.all_eq_true.mp tab_all (z - 1) (List.mem_range.mpr (by omega))
  rw [show z - 1 + 1 = z by omega] at this
  exact this
theorem tab_marks {z : Nat} (h1 : 1 ≤ z) (h2 : z ≤ 16) : (∀ x ∈ marksOf z, 0 ≤ x ∧ x < 1000) ∧ (marksOf z).length ≤ 32 ∧ (∀ p, p ≤ (marksOf z).length → tabPlace z p = true) ∧ balB ((marksOf z).map brOf ++ [40]) = false ∧ balB ((marksOf z).map brOf ++ [41, 40]) = false := by
  have := tab_size h1 h2
  simp only [tabSize, Bool.and_eq_true, Bool.not_eq_true', List.all_eq_true, decide_eq_true_eq] at this
  obtain ⟨⟨⟨e1, e2⟩, e3⟩, e4⟩ := this
  refine ⟨e1, ?_, fun p hp => e2 p (List.mem_range.mpr (by omega)), e3, e4⟩
  have := marksRaw_len z z
  have hp := (isort_perm (marksRaw z z)).length_eq
  show (isort (marksRaw z z)).length ≤ 32
  omega
noncomputable abbrev rangeObj (a b : Int) (t u v : Tok) : Obj := { cls := .type "range", dict := none, data := .fields #[.int a t, .int b u, .int 1 v], slots := #[] }
theorem range2_led {prog : Program} {w : World} {A : Around} {E : Value → Shared → Prop} {s : Shared} {h₀ : Heap} {L : Addr} {m : Str → Option Value} {news : List (Addr × Obj)} {Q : Value → Shared → Prop} {a b : Int} {t u : Tok} (F : Fr h₀ L s.heap m) (N : News h₀ L s.heap news)
    (h : ∀ h' r tk t₁ u₁ v₁, Fr h₀ L h' m → News h₀ L h' ((r, rangeObj a b t₁ u₁ v₁) :: news) → (∀ p ∈ news, p.1 < r) → Q (.ref r) { s with heap := h', toks := tk }) :
    wpAny (model prog w) A (call (.type "range") [.int a t, .int b u]) Q E s := by
  refine range2_rows F N fun h' tk t₁ u₁ v₁ R F' N' _ => h h' _ tk t₁ u₁ v₁ F' (fun q hq => ?_) fun p hp => Heap.lt_size (N p hp).1
  rcases List.mem_cons.mp hq with rfl | hq
  · exact ⟨R, Ne.symm (Nat.ne_of_lt F.ns.lt), next_is_new F⟩
  · exact N' q hq
theorem law_n3 {h0 h : Heap} {L : Addr} {a b c d p m c2 t1 t2 w x : Addr × Obj} {tl : List (Addr × Obj)} (N : News h0 L h (a :: b :: c :: d :: p :: m :: c2 :: t1 :: t2 :: w :: x :: tl)) : News h0 L h (a :: p :: m :: w :: t1 :: t2 :: x :: tl) := fun q hq => N q (by
  first | (revert q; (repeat (refine sub_cons (by repeat (first | exact List.mem_cons_self | apply List.mem_cons_of_mem)) ?_)); (first | exact (fun _ h => absurd h List.not_mem_nil) | (intro x9 hx9; repeat (first | exact hx9 | exact hs x9 hx9 | apply List.mem_cons_of_mem)))) | (simp only [List.mem_cons] at hq ⊢; rcases hq with h | h | h | h | h | h | h | h <;> simp [h]))
noncomputable def LI (N0 : List (Addr × Obj)) (pD eD : Addr) (_i : Nat) (m : Str → Option Value) (news : List (Addr × Obj)) : Prop :=
  news = N0 ∧ m (Str.ofString "pieces") = some (.ref pD) ∧ m (Str.ofString "edges") = some (.ref eD)
theorem edges_len (z : Nat) : (edgesOf z).length = (marksOf z).length + 2 := by
  unfold edgesOf
  rw [List.length_append, List.length_append]
  show 1 + (marksOf z).length + 1 = _
  omega
theorem tab_place {z p : Nat} (h : tabPlace z p = true) : 0 ≤ (edgesOf z).getD p 0 ∧ (edgesOf z).getD p 0 < (edgesOf z).getD (p + 1) 0 ∧ (edgesOf z).getD (p + 1) 0 ≤ 34 ∧ deepAt z p ≤ 34 ∧
    (∀ k, k < wideAt z p → cntAt z ((edgesOf z).getD p 0 + 1 + (k : Int)) = deepAt z p) ∧ balB (((marksOf z).take p).map brOf ++ List.replicate (deepAt z p) 41) = true := by
  simp only [tabPlace, Bool.and_eq_true, decide_eq_true_eq, List.all_eq_true] at h
  obtain ⟨⟨⟨⟨⟨e1, e2⟩, e3⟩, e4⟩, e5⟩, e6⟩ := h
  exact ⟨e1, e2, e3, e4, fun k hk => e5 k (List.mem_range.mpr hk), e6⟩
theorem strs_take : ∀ {vs : List Value} {ys : List Str}, StrsAre vs ys → ∀ n, StrsAre (vs.take n) (ys.take n)
  | _, _, _, 0 => .nil
  | _, _, .nil, _ + 1 => .nil
  | _, _, .cons x t r, n + 1 => .cons x t (strs_take r n)
theorem pick_to {vs : List Value} {ys : List Str} (h : StrsAre vs ys) {n : Nat} (hn : n ≤ vs.length) : StrsAre (slicePick vs.toArray none (some (n : Int)) none).toList (ys.take n) := by
  rw [kmk_pick_nat vs.toArray (a := 0) (b := n) (by
    simp only [sliceBounds, Option.getD_none, show (1 : Int) > 0 by decide, if_true, List.size_toArray, show ¬ ((n : Int) < 0) by omega, if_false]
    congr 1
    congr 1
    omega)]
  show StrsAre ((vs.drop 0).take (n - 0)) _
  rw [List.drop_zero, Nat.sub_zero]
  exact strs_take h n
theorem slice_strs {h0 h' : Heap} {L D : Addr} {vs0 : List Value} {ys : List Str} {n : Nat} {tl : List (Addr × Obj)} (hv : StrsAre vs0 ys) (hn : n ≤ vs0.length) (N : News h0 L h' ((D, listOf (slicePick (List.toArray vs0) none (some (n : Int)) none) 0) :: tl)) :
    ∃ us, StrsAre us (ys.take n) ∧ News h0 L h' ((D, listOf (List.toArray us) 0) :: tl) := ⟨_, pick_to hv hn, by rw [Array.toArray_toList]; exact N⟩
theorem pieces_len2 (cx ns : List Int) (n : Nat) : (piecesTo cx ns n).length = n := by simp [piecesTo]
theorem piece_short (cx ns : List Int) (j : Nat) : (pieceAt cx ns j).length ≤ 5 := by
  unfold pieceAt
  have h1 := ahead_len (((cx.getD ((j : Int).fmod 4).toNat 0).fdiv 4).fmod 5).toNat
  have h2 := brk_len ((ns.getD j 0).fmod 2).toNat
  have e : ∀ a b : Str, (a ++ b).length = a.length + b.length := fun a b => by
    show (a.cps ++ b.cps).size = _
    rw [Array.size_append]; rfl
  rw [e]; omega
theorem take_short (cx ns : List Int) (n p : Nat) : (((piecesTo cx ns n).take p).map (·.length)).sum + ((piecesTo cx ns n).take p).length ≤ 6 * n := by
  have key : ∀ l : List Str, (∀ y ∈ l, y.length ≤ 5) → (l.map (·.length)).sum + l.length ≤ 6 * l.length := by
    intro l
    induction l with
    | nil => intro _; exact Nat.le_refl _
    | cons a r ih =>
      intro h
      have h1 := h a List.mem_cons_self
      have h2 := ih fun y hy => h y (List.mem_cons_of_mem _ hy)
      rw [List.map_cons, List.sum_cons, List.length_cons]; omega
  have h1 := key ((piecesTo cx ns n).take p) (fun y hy => by
    have := List.mem_of_mem_take hy
    simp only [piecesTo, List.mem_map] at this
    obtain ⟨j, _, rfl⟩ := this
    exact piece_short cx ns j)
  have h2 : ((piecesTo cx ns n).take p).length ≤ n := by rw [List.length_take, pieces_len2]; omega
  omega
theorem vals_name {vs : List Value} {xs : List Int} (_ : IntsAre vs xs) : ∃ vs', vs' = vs := ⟨vs, rfl⟩
theorem cell_name {o : Obj} {v : Option Value} (_ : o.data = .cell v) : ∃ o', o' = o := ⟨o, rfl⟩
theorem range_int {a b : Int} (h0 : 0 ≤ a) (h1 : a ≤ 900) (h2 : 0 ≤ b) (h3 : b ≤ 900) : Builtin.Range.small a b 1 = true ∧ Builtin.Range.rangeSize a b 1 = ((b - a).toNat : Int) := by
  obtain ⟨A, rfl⟩ := Int.eq_ofNat_of_zero_le h0
  obtain ⟨B, rfl⟩ := Int.eq_ofNat_of_zero_le h2
  have := range_gen (a := A) (b := B) (by omega) (by omega)
  refine ⟨this.1, this.2.trans ?_⟩
  omega
theorem join_short (cx ns : List Int) (n p : Nat) : (Txt.join (Str.ofString "") ((piecesTo cx ns n).take p)).length ≤ 6 * n := by
  have h := take_short cx ns n p
  generalize (piecesTo cx ns n).take p = l at h
  have e : (Txt.join (Str.ofString "") l).length = (l.map (·.length)).sum := by
    have : (Txt.join (Str.ofString "") l).length = (Txt.join (Str.ofString "") l).cps.toList.length := rfl
    rw [this, glued_flat]
    unfold flatC
    clear h this
    induction l with
    | nil => rfl
    | cons x t ih =>
      rw [List.flatMap_cons, List.length_append, List.map_cons, List.sum_cons, ih]
      rfl
  omega
/-- the steps of the first few witnesses that a spot counts -/
noncomputable def cntList (ss : List Int) (sp : Int) (j : Nat) : List Int := (ss.take j).filter fun st => decide (st < sp) && decide (sp ≤ 2 * st)
theorem cnt_in {ss : List Int} {sp st : Int} {j : Nat} (h : ss[j]? = some st) (h1 : st < sp) (h2 : sp ≤ 2 * st) : cntList ss sp (j + 1) = cntList ss sp j ++ [st] := by
  unfold cntList
  rw [List.take_add_one, h, List.filter_append]
  simp [h1, h2]
theorem cnt_out {ss : List Int} {sp st : Int} {j : Nat} (h : ss[j]? = some st) (h1 : ¬ (st < sp ∧ sp ≤ 2 * st)) : cntList ss sp (j + 1) = cntList ss sp j := by
  unfold cntList
  rw [List.take_add_one, h, List.filter_append]
  have : (decide (st < sp) && decide (sp ≤ 2 * st)) = false := by
    rw [Bool.and_eq_false_iff]
    by_cases q : st < sp
    · exact .inr (decide_eq_false fun r => h1 ⟨q, r⟩)
    · exact .inl (decide_eq_false q)
  simp [this]
theorem wit_step {r0 r1 z j : Nat} {x : Int × Int × Int} (e : (witsOf r0 r1 z).map (fun t => t.1) = stepsOf z) (h : (witsOf r0 r1 z)[j]? = some x) : (stepsOf z)[j]? = some x.1 := by
  rw [← e, List.getElem?_map, h]; rfl
theorem ints_snoc {vs : List Value} {xs : List Int} (h : IntsAre vs xs) (x : Int) (t : Tok) : IntsAre (vs ++ [.int x t]) (xs ++ [x]) := ksk_snoc h
theorem TripsN.up {a : Addr × Obj} {tl : List (Addr × Obj)} {vs : List Value} {ws : List (Int × Int × Int)} (x : TripsN tl vs ws) : TripsN (a :: tl) vs ws := x.sub fun _ _ h => List.mem_cons_of_mem _ h
noncomputable def depthsTo (z : Nat) (a : Int) (k : Nat) : List Int := (List.range k).map fun j : Nat => ((cntAt z (a + (j : Int)) : Nat) : Int)
theorem depths_succ (z : Nat) (a : Int) (k : Nat) : depthsTo z a (k + 1) = depthsTo z a k ++ [((cntAt z (a + (k : Int)) : Nat) : Int)] := by
  unfold depthsTo
  rw [List.range_succ, List.map_append]
  rfl
theorem steps_len_le {r0 r1 z : Nat} (e : (witsOf r0 r1 z).map (fun t => t.1) = stepsOf z) {n : Nat} (h : (witsOf r0 r1 z).length = n) : (stepsOf z).length = n := by rw [← e, List.length_map, h]
theorem cnt_len (ss : List Int) (sp : Int) (j : Nat) : (cntList ss sp j).length ≤ j := by
  unfold cntList
  have h1 := List.length_filter_le (fun st => decide (st < sp) && decide (sp ≤ 2 * st)) (ss.take j)
  rw [List.length_take] at h1
  omega
theorem cnt_all {z : Nat} {sp : Int} {n : Nat} (h : (stepsOf z).length = n) : (cntList (stepsOf z) sp n).length = cntAt z sp := by
  unfold cntList cntAt
  rw [← h, List.take_length]
theorem depths_more {z : Nat} {a sp : Int} {k n : Nat} {ys : List Value} {t : Tok} (hJ : IntsAre ys (depthsTo z a k)) (hsp : a + (k : Int) = sp) (h : (stepsOf z).length = n) : IntsAre (ys ++ [.int ((cntList (stepsOf z) sp n).length : Int) t]) (depthsTo z a (k + 1)) := by
  rw [depths_succ, hsp, ← cnt_all h]
  exact ints_snoc hJ _ _
theorem cnt_more {ss : List Int} {sp st : Int} {j : Nat} {ys : List Value} {t : Tok} (h : ss[j]? = some st) (h1 : st < sp) (h2 : sp ≤ 2 * st) (hJ : IntsAre ys (cntList ss sp j)) : IntsAre (ys ++ [.int st t]) (cntList ss sp (j + 1)) := by
  rw [cnt_in h h1 h2]; exact ints_snoc hJ _ _
theorem cnt_less {ss : List Int} {sp st : Int} {j : Nat} {ys : List Value} (h : ss[j]? = some st) (h1 : ¬ (st < sp ∧ sp ≤ 2 * st)) (hJ : IntsAre ys (cntList ss sp j)) : IntsAre ys (cntList ss sp (j + 1)) := by
  rw [cnt_out h h1]; exact hJ
theorem depths_const {z : Nat} {a : Int} {n d : Nat} (h : ∀ k, k < n → cntAt z (a + (k : Int)) = d) : depthsTo z a n = List.replicate n (d : Int) := by
  unfold depthsTo
  refine List.ext_getElem (by simp) fun i h1 h2 => ?_
  simp only [List.getElem_map, List.getElem_range, List.getElem_replicate]
  rw [h i (by simpa using h1)]
theorem rep_eq {W : Nat} {d : Int} (h : (List.replicate W d).getD (Int.toNat 0) 0 = d) : List.replicate W d = (List.replicate ((List.replicate W d).length : Int).toNat [(List.replicate W d).getD (Int.toNat 0) 0]).flatten := by
  rw [h, List.length_replicate, Int.toNat_natCast, List.flatten_replicate_singleton]
theorem mul_all : ((List.range 35).all fun d => (Txt.mul (Str.ofString ")") (d : Int)).cps.toList == List.replicate d 41) = true := by decide +kernel
theorem mul_codes {d : Nat} (h : d ≤ 34) : (Txt.mul (Str.ofString ")") (d : Int)).cps.toList = List.replicate d 41 := eq_of_beq (List.all_eq_true.mp mul_all d (List.mem_range.mpr (by omega)))
noncomputable def kOf (cx : List Int) (j : Nat) : Nat := (((cx.getD ((j : Int).fmod 4).toNat 0).fdiv 4).fmod 5).toNat
noncomputable def qsTo (cx ns : List Int) (n : Nat) : List (Nat × Nat) := (List.range n).map fun j => (kOf cx j, brOf (ns.getD j 0))
theorem br_or (n : Int) : brOf n = 40 ∨ brOf n = 41 := by unfold brOf; split <;> simp
theorem qs_brs (cx ns : List Int) (n p : Nat) : Brs ((qsTo cx ns n).take p) := fun q hq => by
  have := List.mem_of_mem_take hq
  simp only [qsTo, List.mem_map] at this
  obtain ⟨j, _, rfl⟩ := this
  exact br_or _
theorem ah_codes : ∀ k : Nat, (aheads.getD k Str.empty).cps.toList = ahC k
  | 0 => rfl
  | 1 => rfl
  | 2 => rfl
  | 3 => rfl
  | 4 => rfl
  | _ + 5 => rfl
theorem br_codes (n : Int) : (brks.getD (n.fmod 2).toNat Str.empty).cps.toList = [brOf n] := by
  have h := fmod_bd n (k := 2) (by decide)
  unfold brOf
  have : n.fmod 2 = 0 ∨ n.fmod 2 = 1 := by omega
  rcases this with e | e <;> rw [e] <;> rfl
theorem app_codes (a b : Str) : (a ++ b).cps.toList = a.cps.toList ++ b.cps.toList := by
  show (a.cps ++ b.cps).toList = _
  simp
theorem piece_codes (cx ns : List Int) (j : Nat) : (pieceAt cx ns j).cps.toList = pcC (kOf cx j, brOf (ns.getD j 0)) := by
  unfold pieceAt
  rw [app_codes, ah_codes, br_codes]
  rfl
theorem flat_take (cx ns : List Int) (n p : Nat) : flatC ((piecesTo cx ns n).take p) = txC ((qsTo cx ns n).take p) := by
  have key : ∀ l : List Nat, flatC (l.map (pieceAt cx ns)) = txC (l.map fun j => (kOf cx j, brOf (ns.getD j 0))) := by
    intro l
    unfold flatC txC
    induction l with
    | nil => rfl
    | cons a r ih =>
      rw [List.map_cons, List.map_cons, List.flatMap_cons, List.flatMap_cons, ih, piece_codes]
  unfold piecesTo qsTo
  rw [← List.map_take, ← List.map_take]
  exact key _
theorem str_of {y : Str} {l : List Nat} (e : y.cps.toList = l) : y = ⟨l.toArray⟩ := by
  cases y; simp only at e; rw [← e]
theorem tail_codes (bs : List Nat) : txC (bs.map fun b => (0, b)) = bs := by
  unfold txC
  induction bs with
  | nil => rfl
  | cons b r ih => rw [List.map_cons, List.flatMap_cons, ih]; rfl
theorem front_tx (cx ns : List Int) (n p : Nat) {y : Str} {bs : List Nat} (hy : y.cps.toList = bs) :
    Txt.join (Str.ofString "") ((piecesTo cx ns n).take p) ++ y = ⟨(txC ((qsTo cx ns n).take p ++ bs.map fun b => (0, b))).toArray⟩ := by
  refine str_of ?_
  rw [app_codes, glued_flat, flat_take, hy]
  have : txC ((qsTo cx ns n).take p ++ bs.map fun b => (0, b)) = txC ((qsTo cx ns n).take p) ++ txC (bs.map fun b => (0, b)) := by unfold txC; rw [List.flatMap_append]
  rw [this, tail_codes]
theorem qs_map (cx ns : List Int) (p : Nat) (bs : List Nat) : (((qsTo cx ns ns.length).take p ++ bs.map fun b => (0, b)).map (fun q : Nat × Nat => q.2)) = (ns.take p).map brOf ++ bs := by
  rw [List.map_append]
  congr 1
  · unfold qsTo
    rw [← List.map_take, List.map_map, List.map_take (f := brOf)]
    have : (ns.map brOf) = (List.range ns.length).map fun j => brOf (ns.getD j 0) := by
      refine List.ext_getElem (by simp) fun i h1 h2 => ?_
      have hi : i < ns.length := by simpa using h1
      simp [List.getD_eq_getElem?_getD, List.getElem?_eq_getElem hi]
    rw [this, ← List.map_take]
    rfl
  · rw [List.map_map]
    have : ((fun q : Nat × Nat => q.2) ∘ fun b : Nat => ((0 : Nat), b)) = id := rfl
    rw [this, List.map_id]
theorem bs_brs {cx ns : List Int} {n p : Nat} {bs : List Nat} (h : ∀ b ∈ bs, b = 40 ∨ b = 41) : Brs ((qsTo cx ns n).take p ++ bs.map fun b => (0, b)) := fun q hq => by
  rcases List.mem_append.mp hq with hq | hq
  · exact qs_brs _ _ _ _ q hq
  · obtain ⟨b, hb, rfl⟩ := List.mem_map.mp hq
    exact h b hb
/-- all that a call of the check asks and answers -/
theorem check_facts (cx ns : List Int) (p : Nat) {y : Str} {bs : List Nat} (hy : y.cps.toList = bs) (h : ∀ b ∈ bs, b = 40 ∨ b = 41) (hn : ns.length ≤ 60) (hb : bs.length ≤ 60) :
    let x := Txt.join (Str.ofString "") ((piecesTo cx ns ns.length).take p) ++ y
    x.length < 1000 ∧ escAt x.cps.toList false = false ∧ (stripQ x).length < 1000 ∧ escAt (stripQ x).cps.toList false = false ∧ chkP x = balB ((ns.take p).map brOf ++ bs) := by
  intro x
  have hbr := bs_brs (cx := cx) (ns := ns) (n := ns.length) (p := p) h
  have ex : x = ⟨(txC ((qsTo cx ns ns.length).take p ++ bs.map fun b => (0, b))).toArray⟩ := front_tx cx ns ns.length p hy
  have hl := tx_len ((qsTo cx ns ns.length).take p ++ bs.map fun b => (0, b))
  have hq : ((qsTo cx ns ns.length).take p ++ bs.map fun b => (0, b)).length ≤ 120 := by
    have h1 : (qsTo cx ns ns.length).length = ns.length := by simp [qsTo]
    rw [List.length_append, List.length_take, List.length_map, h1]
    omega
  have he := esc_tx hbr
  rw [ex, stripQ_tx hbr, chkP_tx hbr, qs_map]
  refine ⟨?_, by simpa using he.1, ?_, by simpa using he.2, rfl⟩
  · show (txC _).toArray.size < 1000
    rw [List.size_toArray]; omega
  · show (txN _).toArray.size < 1000
    rw [List.size_toArray]; omega
theorem turn_news {h0 h : Heap} {L : Addr} {a b c d e : Addr × Obj} {r : List (Addr × Obj)} (N : News h0 L h (a :: b :: c :: d :: e :: r)) : News h0 L h r := fun q hq => N q (List.mem_cons_of_mem _ (List.mem_cons_of_mem _ (List.mem_cons_of_mem _ (List.mem_cons_of_mem _ (List.mem_cons_of_mem _ hq)))))
theorem whole_facts (cx ns : List Int) {y : Str} {bs : List Nat} (hy : y.cps.toList = bs) (h : ∀ b ∈ bs, b = 40 ∨ b = 41) (hn : ns.length ≤ 60) (hb : bs.length ≤ 60) :
    let x := Txt.join (Str.ofString "") (piecesTo cx ns ns.length) ++ y
    x.length < 1000 ∧ escAt x.cps.toList false = false ∧ (stripQ x).length < 1000 ∧ escAt (stripQ x).cps.toList false = false ∧ chkP x = balB (ns.map brOf ++ bs) := by
  have := check_facts cx ns ns.length hy h hn hb
  rw [List.take_of_length_le (by rw [pieces_len2]; exact Nat.le_refl _), List.take_length] at this
  exact this
theorem whole_short (cx ns : List Int) : (Txt.join (Str.ofString "") (piecesTo cx ns ns.length)).length ≤ 6 * ns.length ∧ ((piecesTo cx ns ns.length).map (·.length)).sum + (piecesTo cx ns ns.length).length ≤ 6 * ns.length := by
  have h1 := join_short cx ns ns.length ns.length
  have h2 := take_short cx ns ns.length ns.length
  rw [List.take_of_length_le (by rw [pieces_len2]; exact Nat.le_refl _)] at h1 h2
  exact ⟨h1, h2⟩
theorem end_news {h0 h : Heap} {L : Addr} {a b c d : Addr × Obj} {r : List (Addr × Obj)} (N : News h0 L h (a :: b :: c :: d :: r)) : News h0 L h r := fun q hq => N q (List.mem_cons_of_mem _ (List.mem_cons_of_mem _ (List.mem_cons_of_mem _ (List.mem_cons_of_mem _ hq))))
end
end
section
theorem calm69 {M : PySem.Model} {A : PySem.Around} {Q : Unit → PySem.Shared → Prop} {E : PySem.Value → PySem.Shared → Prop} {s : PySem.Shared} (h : Q () s) : PySem.wpAny M A (pure ()) Q E s := by
  w_top off
  first | (walk1; done) | exact PySem.wpAny_pure h
theorem final02 : PySem.Challenge.rw_tc0068_02.Holds := by
  w_on
  refine holds_law ok02 fun said => ?_
  refine holds_open (q := q02) (loose := loose02) (Xt := fun s => xlAt q02 [] s && recOk (RowW.records (OpenRow.toRowW (OpenLaw.row PySem.Challenge.rw_tc0068_02))) s) (XP := XL q02 []) (Yf := Hook.obs (kHook heapX asX hk02)) (Ya := Hook.val (kHook heapX asX hk02)) (YP := Hook.says (kHook heapX asX hk02)) (N := 3756) left02 (Hook.of (kHook heapX asX hk02)) (Hook.keeps (kHook heapX asX hk02)) (fun s e => xl_of s (Bool.and_eq_true_iff.mp e).1) XL.keeps (by rfl) (by rfl) (by rfl) (fun s e => recFacts_of (Bool.and_eq_true_iff.mp e).2) (by rfl) said chains02 ⟨rfl, rfl, rfl, rfl, rfl, whole02⟩ ?hw ?hc
  (case hw => w_witness2)
  clear said
  k_fill
  intro w s₀ s₁ mg mb G Y fa o pm cd doc dV kV ho hd hcd hD hmg hg args vals as hpre hlay hrd hwl hlo
  have KX := kIn_of Y
  have X := (Ground.X G).1
  have V := (Ground.X G).2
  have GL := glob_more (Ground.glob G names02 imps02) V
  refine Ground.open G ?_
  intro T B D TE TW
  try (refine guard_noD D (by decide +kernel) ?_; clear D)
  obtain ⟨_, _, M⟩ := bmod_of_top T
  have TA := at_of_top T
  try (obtain ⟨_, _, he, B0⟩ := based_of_top T rfl hmg ho hd; have he' : cd = _ := he; subst he'; clear he)
  clear hmg
  wrow_args hpre hlay hrd hwl hlo
  all_goals (first | refine callC_kw (enter_call ?_) | refine enter_call ?_ | refine callC_kw (enter_callW ?_) | refine enter_callW ?_ | w_how)
  w_top on
  have K0 := below_caller (Top.heap T)
  w_call any ho hd hcd hD T F
  clear hd TA
  k_drop
  skip
  all_goals try k_fold
  rename Fr _ _ _ _ => F
  rename News _ _ _ _ => N0
  rename Heap.IsList _ _ _ => hLs
  rename IntsAre _ _ => hIs
  rename CellsAre _ _ _ => hCells
  obtain ⟨XS, eXS⟩ := ints_name hIs
  subst eXS
  obtain ⟨h0, F0, N1, X1, ⟨loose', T1⟩, B1, hk0, hlt⟩ := law_start KX rfl F N0 T
  have hLs0 := list_low hLs KX hk0
  have hold := fun (LL : Addr) (h' : Heap) (m' : Str → Option Value) (o1 o2 : Obj) (tl : List (Addr × Obj)) (F' : Fr h0 LL h' m') (N' : News h0 LL h' ((161, o1) :: (168, o2) :: tl)) (t1 : Tab o1) (t2 : Tab o2) => law_old KX F' N' t1 t2 hk0 (tabs_of KX).1 (tabs_of KX).2
  clear F N0 T K0 B G Y X V GL TE TW M hcd hLs KX hk0
  have _k : (fun (_ : OpenLaw) => True) PySem.Challenge.rw_tc0068_02 ∧ heap39 = heap39 := by
    k_fill
    exact ⟨trivial, rfl⟩
  clear _k
  repeat' ((fail_if_success (with_reducible show wpAny _ _ (call (Value.builtin "len") _) _ _ _)); (first | (k_unfold; (try dsimp only)) | (k_end; wrow_close) | ((with_reducible show wpAny _ _ (binaryOp Operator.Mult (Value.str _ _) (Value.int _ _)) _ _ _); (k_here; k_dflt (refine' KXi.mul (n := 1) ?a ?b ?c ?d ?_; (case a => rfl); (case b => decide); (case c => omega); (case d => omega); k_whole; intro t'q k'q _ _))) | ((with_reducible show wpAny _ _ (call (Value.type _) _) _ _ _); first | (k_here; (with_reducible show wpAny _ _ (call (Value.type "range") [Value.int _ _, Value.int _ _]) _ _ _); k_dflt (refine' range2_led ?F ?N ?_; (case F => k_asm); (case N => k_asm); k_whole; intro h'q r'q tk'q t1'q u1'q v1'q F'q N'q l1q; (try k_lt l1q))) | (k_here; (with_reducible show wpAny _ _ (call (Value.type "range") [Value.int _ _]) _ _ _); k_dflt (refine' range1_rows ?F ?N ?_; (case F => k_asm); (case N => k_asm); k_whole; intro h'q tk'q t1'q u1'q v1'q R'q F'q N'q K'q))) | walk1 | (dsimp only; walk1) | (leave1; walk_say "STEP leave1"; try dsimp only) | (walk_at "CompEnd") | fail "no step"))
  rename IntsAre _ (List.map _ _) => hIy
  have hbd4 := drawn_bd XS
  have hl4 := drawn_len XS
  generalize List.map (fun k' : Int => k'.fmod (10 ^ Int.toNat 6)) (List.take 4 XS) = xs4 at *
  have hly := hIy.length
  iterate 3 (first | (k_unfold; (try dsimp only)) | (k_end; wrow_close) | ((with_reducible show wpAny _ _ (binaryOp Operator.Mult (Value.str _ _) (Value.int _ _)) _ _ _); (k_here; k_dflt (refine' KXi.mul (n := 1) ?a ?b ?c ?d ?_; (case a => rfl); (case b => decide); (case c => omega); (case d => omega); k_whole; intro t'q k'q _ _))) | ((with_reducible show wpAny _ _ (call (Value.type _) _) _ _ _); first | (k_here; (with_reducible show wpAny _ _ (call (Value.type "range") [Value.int _ _, Value.int _ _]) _ _ _); k_dflt (refine' range2_led ?F ?N ?_; (case F => k_asm); (case N => k_asm); k_whole; intro h'q r'q tk'q t1'q u1'q v1'q F'q N'q l1q; (try k_lt l1q))) | (k_here; (with_reducible show wpAny _ _ (call (Value.type "range") [Value.int _ _]) _ _ _); k_dflt (refine' range1_rows ?F ?N ?_; (case F => k_asm); (case N => k_asm); k_whole; intro h'q tk'q t1'q u1'q v1'q R'q F'q N'q K'q))) | walk1 | (dsimp only; walk1))
  walk_at "last subscriptTail"
  k_here
  refine' kmk_slice ?sF ?sN ?sl ?sp ?sq ?_ ?ss ?st ?sz
  case sF => k_asm
  case sN => k_asm
  case sl => exact News.isList (n := _) (by k_asm) (by k_mem)
  case sp => exact IsPart.int _ _
  case sq => exact IsPart.none
  case ss => with_unfolding_all rfl
  case st => (intro _; with_unfolding_all rfl)
  case sz => exact Nat.le_of_ble_eq_true rfl
  intro Ds hs Fs Ns ls
  obtain ⟨us, hus, Nu⟩ := slice_named (.cons _ _ (.cons _ _ (.cons _ _ (.cons _ _ .nil)))) (by show xs4.length ≤ 4; omega) Ns
  clear Ns
  k_lt ls
  repeat' ((fail_if_success (with_reducible show wpAny _ _ (call (Value.builtin "sum") _) _ _ _)); (first | (k_unfold; (try dsimp only)) | (k_end; wrow_close) | ((with_reducible show wpAny _ _ (binaryOp Operator.Mult (Value.str _ _) (Value.int _ _)) _ _ _); (k_here; k_dflt (refine' KXi.mul (n := 1) ?a ?b ?c ?d ?_; (case a => rfl); (case b => decide); (case c => omega); (case d => omega); k_whole; intro t'q k'q _ _))) | ((with_reducible show wpAny _ _ (call (Value.type _) _) _ _ _); first | (k_here; (with_reducible show wpAny _ _ (call (Value.type "range") [Value.int _ _, Value.int _ _]) _ _ _); k_dflt (refine' range2_led ?F ?N ?_; (case F => k_asm); (case N => k_asm); k_whole; intro h'q r'q tk'q t1'q u1'q v1'q F'q N'q l1q; (try k_lt l1q))) | (k_here; (with_reducible show wpAny _ _ (call (Value.type "range") [Value.int _ _]) _ _ _); k_dflt (refine' range1_rows ?F ?N ?_; (case F => k_asm); (case N => k_asm); k_whole; intro h'q tk'q t1'q u1'q v1'q R'q F'q N'q K'q))) | walk1 | (dsimp only; walk1) | (leave1; walk_say "STEP leave1"; try dsimp only) | (walk_at "CompEnd") | fail "no step"))
  rename IntsAre _ (xs4 ++ _) => hcI
  rename News _ _ _ _ => Ns
  have hcl := cells_len xs4 hl4
  have hcb := cells_bd hbd4
  generalize xs4 ++ List.drop xs4.length [21, 13, 18, 7] = cx at *
  obtain ⟨a0, a1, a2, a3, u0, u1, u2, u3, e1, e2⟩ := four_ints hcI hcl
  subst e1 e2
  obtain ⟨cD, e0⟩ := nm_head Ns; subst e0
  have Nc := cells_news Ns
  clear Ns; (try clear Nu); (try clear hus); (try clear hIy); (try clear N1); (try clear F0)
  have hm16 : ∀ z : Int, 0 ≤ z.fmod 16 ∧ z.fmod 16 < 16 := fun z => fmod_bd z (by decide)
  repeat' ((fail_if_success (k_dflt (show wpAny _ _ (call (Value.ref 293) _) _ _ _))); (first | (k_unfold; (try dsimp only)) | (k_end; wrow_close) | ((with_reducible show wpAny _ _ (binaryOp Operator.Mult (Value.str _ _) (Value.int _ _)) _ _ _); (k_here; k_dflt (refine' KXi.mul (n := 1) ?a ?b ?c ?d ?_; (case a => rfl); (case b => decide); (case c => omega); (case d => omega); k_whole; intro t'q k'q _ _))) | ((with_reducible show wpAny _ _ (call (Value.type _) _) _ _ _); first | (k_here; (with_reducible show wpAny _ _ (call (Value.type "range") [Value.int _ _, Value.int _ _]) _ _ _); k_dflt (refine' range2_led ?F ?N ?_; (case F => k_asm); (case N => k_asm); k_whole; intro h'q r'q tk'q t1'q u1'q v1'q F'q N'q l1q; (try k_lt l1q))) | (k_here; (with_reducible show wpAny _ _ (call (Value.type "range") [Value.int _ _]) _ _ _); k_dflt (refine' range1_rows ?F ?N ?_; (case F => k_asm); (case N => k_asm); k_whole; intro h'q tk'q t1'q u1'q v1'q R'q F'q N'q K'q))) | walk1 | (dsimp only; walk1) | (leave1; walk_say "STEP leave1"; try dsimp only) | (walk_at "CompEnd") | fail "no step"))
  obtain ⟨z, hz, hz1, hz16⟩ := size_name (a0 + (a1 + (a2 + (a3 + 0))))
  rename Fr _ _ _ _ => Fz
  rw [hz] at Fz
  rw [hz]
  clear hz
  rename News _ _ _ _ => Nz
  k_here
  refine' lw_call ?wB ?wF ?wX ?wN ?wT ?wk ?wd ?wu ?w1 ?w2 ?_
  case wB => k_asm
  case wF => k_asm
  case wX => k_asm
  case wN => exact Nz
  case wT => k_asm
  case wk => exact rfl
  case wd => ktr_room
  case wu => ktr_units
  case w1 => exact hz1
  case w2 => exact hz16
  intro wD wvs wkk wtl wh wgg wtk gmw Fw Nw hsw hapw r0 r1 hr0 hr1 trw
  dsimp only
  obtain ⟨tl, Nv, trn, q1, q2, q3, q4, q5, q6, q7, q8, q9⟩ := wit_rest Nw hsw rfl ⟨_, by assumption⟩ trw hapw
  clear Nw hsw trw hapw Nz Fz
  have q10 : @Ne Nat 161 (s₁.heap.objs.size + 1) := by have := hlt; omega
  have q11 : @Ne Nat 168 (s₁.heap.objs.size + 1) := by have := hlt; omega
  have q12 : @Ne Nat 161 168 := by decide
  have q13 : s₁.heap.objs.size + 1 < cD := by rename _ ∧ _ ∧ _ ∧ _ ∧ _ ∧ _ ∧ s₁.heap.objs.size + 1 < cD => hh; exact hh.2.2.2.2.2.2
  have q14 : @Ne Nat cD (s₁.heap.objs.size + 1) := Nat.ne_of_gt q13
  have q15 : @Ne Nat wD (s₁.heap.objs.size + 1) := Ne.symm q8
  repeat' ((fail_if_success (with_reducible show wpAny _ _ (eval (PySem.Expr.ListComp _ _ _ _) _) _ _ _)); (first | (k_unfold; (try dsimp only)) | (k_end; wrow_close) | ((with_reducible show wpAny _ _ (binaryOp Operator.Mult (Value.str _ _) (Value.int _ _)) _ _ _); (k_here; k_dflt (refine' KXi.mul (n := 1) ?a ?b ?c ?d ?_; (case a => rfl); (case b => decide); (case c => omega); (case d => omega); k_whole; intro t'q k'q _ _))) | ((with_reducible show wpAny _ _ (call (Value.type _) _) _ _ _); first | (k_here; (with_reducible show wpAny _ _ (call (Value.type "range") [Value.int _ _, Value.int _ _]) _ _ _); k_dflt (refine' range2_led ?F ?N ?_; (case F => k_asm); (case N => k_asm); k_whole; intro h'q r'q tk'q t1'q u1'q v1'q F'q N'q l1q; (try k_lt l1q))) | (k_here; (with_reducible show wpAny _ _ (call (Value.type "range") [Value.int _ _]) _ _ _); k_dflt (refine' range1_rows ?F ?N ?_; (case F => k_asm); (case N => k_asm); k_whole; intro h'q tk'q t1'q u1'q v1'q R'q F'q N'q K'q))) | walk1 | (dsimp only; walk1) | (leave1; walk_say "STEP leave1"; try dsimp only) | (walk_at "CompEnd") | fail "no step"))
  k_here
  rename Fr _ _ _ _ => Fa
  rename News _ _ _ _ => Na
  have wfact := wits_fact hr0 hr1 hz1 hz16
  have hwl : wvs.length ≤ 62 := by
    have h1 := trn.1
    have h2 := wits_len (wsLvl [r0, r1, z]) (wsLvl [z - 1, r0, r1]) (wsTop [r0, r1, z] [z - 1, r0, r1])
    have h3 := wsTop_le hr0 hr1 hz16
    have h4 : (witsOf r0 r1 z).length ≤ 62 := Nat.le_trans h2 h3
    omega
  refine' LC3 Fa ?e1 ?e2 ?e3 ?e4 ?e5 ?e6 ?e7 ?e8 ?e9 ?f1 ?f2 ?_ ?f3
  case e1 => with_unfolding_all rfl
  case e2 => rfl
  case e3 => decide
  case e4 => rfl
  case e5 => rfl
  case e6 => rfl
  case e7 => decide
  case e8 => decide
  case e9 => decide
  case f1 => intro _; rfl
  case f2 => intro _; rfl
  case f3 => intro _; rfl
  repeat' (first | (k_unfold; (try dsimp only)) | (k_end; wrow_close) | ((with_reducible show wpAny _ _ (binaryOp Operator.Mult (Value.str _ _) (Value.int _ _)) _ _ _); (k_here; k_dflt (refine' KXi.mul (n := 1) ?a ?b ?c ?d ?_; (case a => rfl); (case b => decide); (case c => omega); (case d => omega); k_whole; intro t'q k'q _ _))) | ((with_reducible show wpAny _ _ (call (Value.type _) _) _ _ _); first | (k_here; (with_reducible show wpAny _ _ (call (Value.type "range") [Value.int _ _, Value.int _ _]) _ _ _); k_dflt (refine' range2_led ?F ?N ?_; (case F => k_asm); (case N => k_asm); k_whole; intro h'q r'q tk'q t1'q u1'q v1'q F'q N'q l1q; (try k_lt l1q))) | (k_here; (with_reducible show wpAny _ _ (call (Value.type "range") [Value.int _ _]) _ _ _); k_dflt (refine' range1_rows ?F ?N ?_; (case F => k_asm); (case N => k_asm); k_whole; intro h'q tk'q t1'q u1'q v1'q R'q F'q N'q K'q))) | walk1 | (dsimp only; walk1) | (leave1; walk_say "STEP leave1"; try dsimp only) | fail "no step")
  rename Fr _ _ _ _ => Fb
  rename News _ _ _ _ => Nb
  refine' ⟨wD, wvs, wkk, witsOf r0 r1 z, _, fun i ys => ys = [], rfl, rfl, Fb, Nb, ?gm, trn.up5, ?gz, rfl, ?turn, ?fin⟩
  case gm => exact List.mem_cons_self
  case gz => rw [sizeLine_eq]; omega
  case turn =>
    intro i x ys h tk E' I oI C oC D m₂ ta tb tc hi hJ hyl hC ea eb ec F' N' off ne
    subst hJ
    have hx := wfact.2 x (List.mem_of_getElem? hi)
    try simp only [LCg.Off3, and_true] at off
    repeat' (first | (k_unfold; (try dsimp only)) | (k_end; wrow_close) | ((with_reducible show wpAny _ _ (binaryOp Operator.Mult (Value.str _ _) (Value.int _ _)) _ _ _); (k_here; k_dflt (refine' KXi.mul (n := 1) ?a ?b ?c ?d ?_; (case a => rfl); (case b => decide); (case c => omega); (case d => omega); k_whole; intro t'q k'q _ _))) | ((with_reducible show wpAny _ _ (call (Value.type _) _) _ _ _); first | (k_here; (with_reducible show wpAny _ _ (call (Value.type "range") [Value.int _ _, Value.int _ _]) _ _ _); k_dflt (refine' range2_led ?F ?N ?_; (case F => k_asm); (case N => k_asm); k_whole; intro h'q r'q tk'q t1'q u1'q v1'q F'q N'q l1q; (try k_lt l1q))) | (k_here; (with_reducible show wpAny _ _ (call (Value.type "range") [Value.int _ _]) _ _ _); k_dflt (refine' range1_rows ?F ?N ?_; (case F => k_asm); (case N => k_asm); k_whole; intro h'q tk'q t1'q u1'q v1'q R'q F'q N'q K'q))) | walk1 | (dsimp only; walk1) | (leave1; walk_say "STEP leave1"; try dsimp only) | fail "no step")
    · exact absurd hx (by assumption)
    · exact comp_end F' N' off (fun _ h => h) rfl
  case fin =>
    intro lD lh ltk ys F' N' ap hJ
    subst hJ
    have p1 : @Ne Nat wD lD := ap (wD, _) List.mem_cons_self
    have p2 : @Ne Nat 161 lD := ap (161, _) (List.mem_cons_of_mem _ List.mem_cons_self)
    have p3 : @Ne Nat 168 lD := ap (168, _) (List.mem_cons_of_mem _ (List.mem_cons_of_mem _ List.mem_cons_self))
    (try clear Fb); (try clear Nb); (try clear Fa); (try clear Na)
    repeat' ((fail_if_success (k_dflt (show wpAny _ _ (call (Value.ref 283) _) _ _ _))); (first | (k_unfold; (try dsimp only)) | (k_end; wrow_close) | ((with_reducible show wpAny _ _ (binaryOp Operator.Mult (Value.str _ _) (Value.int _ _)) _ _ _); (k_here; k_dflt (refine' KXi.mul (n := 1) ?a ?b ?c ?d ?_; (case a => rfl); (case b => decide); (case c => omega); (case d => omega); k_whole; intro t'q k'q _ _))) | ((with_reducible show wpAny _ _ (call (Value.type _) _) _ _ _); first | (k_here; (with_reducible show wpAny _ _ (call (Value.type "range") [Value.int _ _, Value.int _ _]) _ _ _); k_dflt (refine' range2_led ?F ?N ?_; (case F => k_asm); (case N => k_asm); k_whole; intro h'q r'q tk'q t1'q u1'q v1'q F'q N'q l1q; (try k_lt l1q))) | (k_here; (with_reducible show wpAny _ _ (call (Value.type "range") [Value.int _ _]) _ _ _); k_dflt (refine' range1_rows ?F ?N ?_; (case F => k_asm); (case N => k_asm); k_whole; intro h'q tk'q t1'q u1'q v1'q R'q F'q N'q K'q))) | walk1 | (dsimp only; walk1) | (leave1; walk_say "STEP leave1"; try dsimp only) | (walk_at "CompEnd") | fail "no step"))
    k_here
    rename Fr _ _ _ _ => Fa
    rename News _ _ _ _ => Na
    have N2 := law_n1 Na
    clear Na
    refine' marks_call ?mB ?mF ?mX ?mN ?m1 ?m2 ?mT ?mk ?md ?mu ?mt1 ?mt2 ?mz1 ?mz2 ?_
    case mB => k_asm
    case mF => k_asm
    case mX => k_asm
    case mN => exact N2
    case m1 => exact List.forall_mem_cons.mpr ⟨Ne.symm q6, List.forall_mem_cons.mpr ⟨Ne.symm q10, List.forall_mem_cons.mpr ⟨by have := hlt; have := q13; show @Ne Nat cD 161; omega, q1⟩⟩⟩
    case m2 => exact List.forall_mem_cons.mpr ⟨Ne.symm q7, List.forall_mem_cons.mpr ⟨Ne.symm q11, List.forall_mem_cons.mpr ⟨by have := hlt; have := q13; show @Ne Nat cD 168; omega, q2⟩⟩⟩
    case mT => k_asm
    case mk => exact rfl
    case md => ktr_room
    case mu => ktr_units
    case mt1 => exact ⟨#[], rfl, trivial⟩
    case mt2 => exact ⟨#[], rfl, trivial⟩
    case mz1 => exact hz1
    case mz2 => exact hz16
    intro mD mvs mns mc mh mgg mtk o1' o2' tb1 tb2 gmm Fm Nm mlt miv mperm msort
    dsimp only
    have em := marks_are mperm msort
    subst em
    obtain ⟨tm1, tm2, tm3, tm4, tm5⟩ := tab_marks hz1 hz16
    have N3 := law_n2 Nm
    have mlen : mvs.length = (marksOf z).length := miv.length
    (try clear Nm); (try clear N2); (try clear Fa)
    repeat' ((fail_if_success (k_dflt (show wpAny _ _ (call (Value.ref 288) _) _ _ _))); (first | (k_unfold; (try dsimp only)) | (k_end; wrow_close) | ((with_reducible show wpAny _ _ (binaryOp Operator.Mult (Value.str _ _) (Value.int _ _)) _ _ _); (k_here; k_dflt (refine' KXi.mul (n := 1) ?a ?b ?c ?d ?_; (case a => rfl); (case b => decide); (case c => omega); (case d => omega); k_whole; intro t'q k'q _ _))) | ((with_reducible show wpAny _ _ (call (Value.type _) _) _ _ _); first | (k_here; (with_reducible show wpAny _ _ (call (Value.type "range") [Value.int _ _, Value.int _ _]) _ _ _); k_dflt (refine' range2_led ?F ?N ?_; (case F => k_asm); (case N => k_asm); k_whole; intro h'q r'q tk'q t1'q u1'q v1'q F'q N'q l1q; (try k_lt l1q))) | (k_here; (with_reducible show wpAny _ _ (call (Value.type "range") [Value.int _ _]) _ _ _); k_dflt (refine' range1_rows ?F ?N ?_; (case F => k_asm); (case N => k_asm); k_whole; intro h'q tk'q t1'q u1'q v1'q R'q F'q N'q K'q))) | walk1 | (dsimp only; walk1) | (leave1; walk_say "STEP leave1"; try dsimp only) | (walk_at "CompEnd") | fail "no step"))
    k_here
    rename Fr _ _ _ _ => Fa
    rename News _ _ _ _ => Na
    refine' lp_call ?pB ?pF ?pX ?pN ?pT ?pk ?pd ?pu ?p1 ?p2 ?p3 ?p4 ?p5 ?p6 ?_
    case pB => k_asm
    case pF => k_asm
    case pX => k_asm
    case pN => exact Na
    case pT => k_asm
    case pk => exact rfl
    case pd => ktr_room
    case pu => ktr_units
    case p1 => exact miv
    case p2 => exact hcI
    case p3 => exact tm2
    case p4 => exact hcl
    case p5 => exact hcb
    case p6 => exact tm1
    intro pD pps pkk ph ptk Fp Np pap pst
    dsimp only
    (try clear Fa); (try clear Na); (try clear N3)
    repeat' ((fail_if_success (with_reducible show wpAny _ _ (exec (Stmt.For _ _ _ _ _) _) _ _ _)); (first | (k_unfold; (try dsimp only)) | (k_end; wrow_close) | ((with_reducible show wpAny _ _ (binaryOp Operator.Mult (Value.str _ _) (Value.int _ _)) _ _ _); (k_here; k_dflt (refine' KXi.mul (n := 1) ?a ?b ?c ?d ?_; (case a => rfl); (case b => decide); (case c => omega); (case d => omega); k_whole; intro t'q k'q _ _))) | ((with_reducible show wpAny _ _ (call (Value.type _) _) _ _ _); first | (k_here; (with_reducible show wpAny _ _ (call (Value.type "range") [Value.int _ _, Value.int _ _]) _ _ _); k_dflt (refine' range2_led ?F ?N ?_; (case F => k_asm); (case N => k_asm); k_whole; intro h'q r'q tk'q t1'q u1'q v1'q F'q N'q l1q; (try k_lt l1q))) | (k_here; (with_reducible show wpAny _ _ (call (Value.type "range") [Value.int _ _]) _ _ _); k_dflt (refine' range1_rows ?F ?N ?_; (case F => k_asm); (case N => k_asm); k_whole; intro h'q tk'q t1'q u1'q v1'q R'q F'q N'q K'q))) | walk1 | (dsimp only; walk1) | (leave1; walk_say "STEP leave1"; try dsimp only) | (walk_at "CompEnd") | fail "no step"))
    k_here
    rename Fr _ _ _ _ => Fa
    rename News _ _ _ _ => Na
    rename IntsAre _ ([0] ++ marksOf z ++ _) => heI
    have heE : IntsAre _ (edgesOf z) := heI
    clear heI
    have hel := edges_len z
    obtain ⟨ews, f1⟩ := vals_name heE; subst f1
    rename _ = Data.cell (some (Value.ref wD)) => hcd
    obtain ⟨cw, f2⟩ := cell_name hcd; subst f2
    obtain ⟨eD, f0⟩ := nm_head Na; subst f0
    have N3 := law_n3 Na
    clear Na
    refine' For_range Fa ?hx ?hp ?hh ?_ ?hs ?hE
    case hx => exact rfl
    case hp => exact rfl
    case hh => exact rfl
    case hs => intro _; exact rfl
    case hE => passes_own
    repeat' (first | (k_unfold; (try dsimp only)) | (k_end; wrow_close) | ((with_reducible show wpAny _ _ (binaryOp Operator.Mult (Value.str _ _) (Value.int _ _)) _ _ _); (k_here; k_dflt (refine' KXi.mul (n := 1) ?a ?b ?c ?d ?_; (case a => rfl); (case b => decide); (case c => omega); (case d => omega); k_whole; intro t'q k'q _ _))) | ((with_reducible show wpAny _ _ (call (Value.type _) _) _ _ _); first | (k_here; (with_reducible show wpAny _ _ (call (Value.type "range") [Value.int _ _, Value.int _ _]) _ _ _); k_dflt (refine' range2_led ?F ?N ?_; (case F => k_asm); (case N => k_asm); k_whole; intro h'q r'q tk'q t1'q u1'q v1'q F'q N'q l1q; (try k_lt l1q))) | (k_here; (with_reducible show wpAny _ _ (call (Value.type "range") [Value.int _ _]) _ _ _); k_dflt (refine' range1_rows ?F ?N ?_; (case F => k_asm); (case N => k_asm); k_whole; intro h'q tk'q t1'q u1'q v1'q R'q F'q N'q K'q))) | walk1 | (dsimp only; walk1) | (leave1; walk_say "STEP leave1"; try dsimp only) | fail "no step")
    rename IsRange _ _ _ _ _ _ _ _ => hr
    rename Fr _ _ _ _ => Fc
    rename News _ _ _ _ => Nd
    have hrg := range_gen (a := 0) (b := (marksOf z).length + 1) (by omega) (by omega)
    refine' ⟨_, _, _, _, _, _, _, _, (marksOf z).length + 1, LI ((eD, listOf ews.toArray 0) :: (pD, listOf pps.toArray pkk) :: (mD, listOf mvs.toArray mc) :: (wD, listOf wvs.toArray wkk) :: (161, o1') :: (168, o2') :: (s₁.heap.objs.size + 1, cw) :: tl) pD eD, rfl, hr, hrg.1, hrg.2, Fc, Nd, ?h0, ?step, ?hR⟩
    case h0 => exact ⟨rfl, rfl, rfl⟩
    case step =>
      intro i m₁ news₁ it oit s₂ ti hi hJ hs hne hltn hoc F₂ N₂
      obtain ⟨e0, e1, e2⟩ := hJ
      subst e0
      obtain ⟨hh, gg, tk, rfl, hgm⟩ := hs
      have F₃ := Fr_map F₂ (m' := fun y => if y = Str.ofString "place" then some (.int (i : Int) ti) else if y = Str.ofString "pieces" then some (.ref pD) else if y = Str.ofString "edges" then some (.ref eD) else m₁ y) (fun y => by
        by_cases q0 : y = Str.ofString "place"
        · simp only [q0, if_true]; exact congrArg (fun z => some (Value.int z ti)) (by omega)
        · by_cases p1 : y = Str.ofString "pieces"
          · subst p1; simp only [q0, if_true, if_false]; exact e1.symm
          · by_cases p2 : y = Str.ofString "edges"
            · subst p2; simp only [q0, p1, if_true, if_false]; exact e2.symm
            · simp only [q0, p1, p2, if_false])
      clear F₂
      have hil : i ≤ (marksOf z).length := by omega
      obtain ⟨g1, g2, g3, g4, g5, g6⟩ := tab_place (tm3 i hil)
      repeat' ((fail_if_success (with_reducible show wpAny _ _ (subscriptTail _ _ (Value.ref _) (Value.ref _)) _ _ _)); (first | (k_unfold; (try dsimp only)) | (k_end; wrow_close) | ((with_reducible show wpAny _ _ (binaryOp Operator.Mult (Value.str _ _) (Value.int _ _)) _ _ _); (k_here; k_dflt (refine' KXi.mul (n := 1) ?a ?b ?c ?d ?_; (case a => rfl); (case b => decide); (case c => omega); (case d => omega); k_whole; intro t'q k'q _ _))) | ((with_reducible show wpAny _ _ (call (Value.type _) _) _ _ _); first | (k_here; (with_reducible show wpAny _ _ (call (Value.type "range") [Value.int _ _, Value.int _ _]) _ _ _); k_dflt (refine' range2_led ?F ?N ?_; (case F => k_asm); (case N => k_asm); k_whole; intro h'q r'q tk'q t1'q u1'q v1'q F'q N'q l1q; (try k_lt l1q))) | (k_here; (with_reducible show wpAny _ _ (call (Value.type "range") [Value.int _ _]) _ _ _); k_dflt (refine' range1_rows ?F ?N ?_; (case F => k_asm); (case N => k_asm); k_whole; intro h'q tk'q t1'q u1'q v1'q R'q F'q N'q K'q))) | walk1 | (dsimp only; walk1) | (leave1; walk_say "STEP leave1"; try dsimp only) | (walk_at "CompEnd") | fail "no step"))
      k_here
      refine' kmk_slice ?aF ?aN ?al ?ap ?aq ?_ ?as ?au ?az
      case aF => k_asm
      case aN => k_asm
      case al => exact News.isList (n := _) (by k_asm) (by k_mem)
      case ap => exact IsPart.none
      case aq => exact IsPart.int _ _
      case as => with_unfolding_all rfl
      case au => (intro _; with_unfolding_all rfl)
      case az =>
        have := pst.length
        rw [pieces_len2] at this
        rw [List.size_toArray, sizeLine_eq]; omega
      intro fD fh Ff Nf lf
      have hpl : pps.length = (marksOf z).length := by
        have := pst.length
        rw [pieces_len2] at this
        exact this
      obtain ⟨fus, hfus, Ng⟩ := slice_strs pst (by omega) Nf
      clear Nf
      k_lt lf
      repeat' ((fail_if_success (with_reducible show wpAny _ _ (call (Value.builtin "str.join") _) _ _ _)); (first | (k_unfold; (try dsimp only)) | (k_end; wrow_close) | ((with_reducible show wpAny _ _ (binaryOp Operator.Mult (Value.str _ _) (Value.int _ _)) _ _ _); (k_here; k_dflt (refine' KXi.mul (n := 1) ?a ?b ?c ?d ?_; (case a => rfl); (case b => decide); (case c => omega); (case d => omega); k_whole; intro t'q k'q _ _))) | ((with_reducible show wpAny _ _ (call (Value.type _) _) _ _ _); first | (k_here; (with_reducible show wpAny _ _ (call (Value.type "range") [Value.int _ _, Value.int _ _]) _ _ _); k_dflt (refine' range2_led ?F ?N ?_; (case F => k_asm); (case N => k_asm); k_whole; intro h'q r'q tk'q t1'q u1'q v1'q F'q N'q l1q; (try k_lt l1q))) | (k_here; (with_reducible show wpAny _ _ (call (Value.type "range") [Value.int _ _]) _ _ _); k_dflt (refine' range1_rows ?F ?N ?_; (case F => k_asm); (case N => k_asm); k_whole; intro h'q tk'q t1'q u1'q v1'q R'q F'q N'q K'q))) | walk1 | (dsimp only; walk1) | (leave1; walk_say "STEP leave1"; try dsimp only) | (walk_at "CompEnd") | fail "no step"))
      refine join_listW (News.isList Ng (n := _) List.mem_cons_self) hfus (by decide +kernel) (Nat.le_trans (take_short _ _ _ _) (by omega)) ?_
      intro tj kj
      have hfl := join_short [a0, a1, a2, a3] (marksOf z) (marksOf z).length i
      obtain ⟨fr, hfr⟩ : ∃ fr, fr = Txt.join (Str.ofString "") (List.take i (piecesTo [a0, a1, a2, a3] (marksOf z) (marksOf z).length)) := ⟨_, rfl⟩
      rw [← hfr] at hfl ⊢
      repeat' ((fail_if_success (with_reducible show wpAny _ _ (exec (Stmt.Assign _ (PySem.Expr.ListComp _ _ _ _) _) _) _ _ _)); (first | (k_unfold; (try dsimp only)) | (k_end; wrow_close) | ((with_reducible show wpAny _ _ (binaryOp Operator.Mult (Value.str _ _) (Value.int _ _)) _ _ _); (k_here; k_dflt (refine' KXi.mul (n := 1) ?a ?b ?c ?d ?_; (case a => rfl); (case b => decide); (case c => omega); (case d => omega); k_whole; intro t'q k'q _ _))) | ((with_reducible show wpAny _ _ (call (Value.type _) _) _ _ _); first | (k_here; (with_reducible show wpAny _ _ (call (Value.type "range") [Value.int _ _, Value.int _ _]) _ _ _); k_dflt (refine' range2_led ?F ?N ?_; (case F => k_asm); (case N => k_asm); k_whole; intro h'q r'q tk'q t1'q u1'q v1'q F'q N'q l1q; (try k_lt l1q))) | (k_here; (with_reducible show wpAny _ _ (call (Value.type "range") [Value.int _ _]) _ _ _); k_dflt (refine' range1_rows ?F ?N ?_; (case F => k_asm); (case N => k_asm); k_whole; intro h'q tk'q t1'q u1'q v1'q R'q F'q N'q K'q))) | walk1 | (dsimp only; walk1) | (leave1; walk_say "STEP leave1"; try dsimp only) | (walk_at "CompEnd") | fail "no step"))
      k_here
      rename Fr _ _ _ _ => Fe
      rename News _ _ _ _ => Ne
      obtain ⟨rA, f3⟩ := nm_head Ne; subst f3
      have hii : (i : Int).toNat = i := Int.toNat_natCast i
      have hii1 : ((i : Int) + 1).toNat = i + 1 := by omega
      rw [hii, hii1] at Ne
      have hrg2 := range_int (a := (edgesOf z).getD i 0 + 1) (b := (edgesOf z).getD (i + 1) 0 + 1) (by omega) (by omega) (by omega) (by omega)
      have hwd : ((edgesOf z).getD (i + 1) 0 + 1 - ((edgesOf z).getD i 0 + 1)).toNat = wideAt z i := by unfold wideAt; omega
      have hw34 : wideAt z i ≤ 34 := by unfold wideAt; omega
      have hw1 : 1 ≤ wideAt z i := by unfold wideAt; omega
      rw [hwd] at hrg2
      refine' ALCc Fe ?c1 ?c2 ?c3 ?c4 ?c5 ?c6 ?c7 ?c8 ?c9 ?d1 ?_ ?d2
      case c1 => rfl
      case c2 => rfl
      case c3 => rfl
      case c4 => rfl
      case c5 => with_unfolding_all rfl
      case c6 => rfl
      case c7 => decide
      case c8 => intro _ _; rfl
      case c9 => intro _; rfl
      case d1 => intro _; rfl
      case d2 => intro _; rfl
      repeat' (first | (k_unfold; (try dsimp only)) | (k_end; wrow_close) | ((with_reducible show wpAny _ _ (binaryOp Operator.Mult (Value.str _ _) (Value.int _ _)) _ _ _); (k_here; k_dflt (refine' KXi.mul (n := 1) ?a ?b ?c ?d ?_; (case a => rfl); (case b => decide); (case c => omega); (case d => omega); k_whole; intro t'q k'q _ _))) | ((with_reducible show wpAny _ _ (call (Value.type _) _) _ _ _); first | (k_here; (with_reducible show wpAny _ _ (call (Value.type "range") [Value.int _ _, Value.int _ _]) _ _ _); k_dflt (refine' range2_led ?F ?N ?_; (case F => k_asm); (case N => k_asm); k_whole; intro h'q r'q tk'q t1'q u1'q v1'q F'q N'q l1q; (try k_lt l1q))) | (k_here; (with_reducible show wpAny _ _ (call (Value.type "range") [Value.int _ _]) _ _ _); k_dflt (refine' range1_rows ?F ?N ?_; (case F => k_asm); (case N => k_asm); k_whole; intro h'q tk'q t1'q u1'q v1'q R'q F'q N'q K'q))) | walk1 | (dsimp only; walk1) | (leave1; walk_say "STEP leave1"; try dsimp only) | fail "no step")
      rename Fr _ _ _ _ => Fg
      rename News _ _ _ _ => Nh
      refine' ⟨rA, _, _, _, _, _, wideAt z i, _, fun k ys => IntsAre ys (depthsTo z ((edgesOf z).getD i 0 + 1) k), rfl, rfl, Fg, Nh, (Nh _ List.mem_cons_self).1, hrg2.1, hrg2.2, ?gz2, .nil, ?turn2, ?fin2⟩
      case gz2 => rw [sizeLine_eq]; omega
      case turn2 =>
        intro k ys h tk' E' I oI C oC D c oc m₂ tsp hk hJ hyl hC hocd F' N' off ne apc
        try simp only [LCg.Off3, and_true] at off
        repeat' ((fail_if_success (with_reducible show wpAny _ _ (eval (PySem.Expr.ListComp _ _ _ _) _) _ _ _)); (first | (k_unfold; (try dsimp only)) | (k_end; wrow_close) | ((with_reducible show wpAny _ _ (binaryOp Operator.Mult (Value.str _ _) (Value.int _ _)) _ _ _); (k_here; k_dflt (refine' KXi.mul (n := 1) ?a ?b ?c ?d ?_; (case a => rfl); (case b => decide); (case c => omega); (case d => omega); k_whole; intro t'q k'q _ _))) | ((with_reducible show wpAny _ _ (call (Value.type _) _) _ _ _); first | (k_here; (with_reducible show wpAny _ _ (call (Value.type "range") [Value.int _ _, Value.int _ _]) _ _ _); k_dflt (refine' range2_led ?F ?N ?_; (case F => k_asm); (case N => k_asm); k_whole; intro h'q r'q tk'q t1'q u1'q v1'q F'q N'q l1q; (try k_lt l1q))) | (k_here; (with_reducible show wpAny _ _ (call (Value.type "range") [Value.int _ _]) _ _ _); k_dflt (refine' range1_rows ?F ?N ?_; (case F => k_asm); (case N => k_asm); k_whole; intro h'q tk'q t1'q u1'q v1'q R'q F'q N'q K'q))) | walk1 | (dsimp only; walk1) | (leave1; walk_say "STEP leave1"; try dsimp only) | (walk_at "CompEnd") | fail "no step"))
        k_here
        refine' LC3 F' ?h1 ?h2 ?h3 ?h4 ?h5 ?h6 ?h7 ?h8 ?h9 ?j1 ?j2 ?_ ?j3
        case h1 => with_unfolding_all rfl
        case h2 => rfl
        case h3 => decide
        case h4 => rfl
        case h5 => rfl
        case h6 => rfl
        case h7 => decide
        case h8 => decide
        case h9 => decide
        case j1 => intro _; rfl
        case j2 => intro _; rfl
        case j3 => intro _; rfl
        repeat' (first | (k_unfold; (try dsimp only)) | (k_end; wrow_close) | ((with_reducible show wpAny _ _ (binaryOp Operator.Mult (Value.str _ _) (Value.int _ _)) _ _ _); (k_here; k_dflt (refine' KXi.mul (n := 1) ?a ?b ?c ?d ?_; (case a => rfl); (case b => decide); (case c => omega); (case d => omega); k_whole; intro t'q k'q _ _))) | ((with_reducible show wpAny _ _ (call (Value.type _) _) _ _ _); first | (k_here; (with_reducible show wpAny _ _ (call (Value.type "range") [Value.int _ _, Value.int _ _]) _ _ _); k_dflt (refine' range2_led ?F ?N ?_; (case F => k_asm); (case N => k_asm); k_whole; intro h'q r'q tk'q t1'q u1'q v1'q F'q N'q l1q; (try k_lt l1q))) | (k_here; (with_reducible show wpAny _ _ (call (Value.type "range") [Value.int _ _]) _ _ _); k_dflt (refine' range1_rows ?F ?N ?_; (case F => k_asm); (case N => k_asm); k_whole; intro h'q tk'q t1'q u1'q v1'q R'q F'q N'q K'q))) | walk1 | (dsimp only; walk1) | (leave1; walk_say "STEP leave1"; try dsimp only) | fail "no step")
        rename Fr _ _ _ _ => Fi
        rename News _ _ _ _ => Ni
        generalize hsp : (edgesOf z).getD i 0 + 1 + (k : Int) = sp at *
        refine' ⟨wD, wvs, wkk, witsOf r0 r1 z, _, fun j ys2 => IntsAre ys2 (cntList (stepsOf z) sp j), rfl, rfl, Fi, Ni, ?gm3, trn.up5.up5.up.up.up.up, ?gz3, .nil, ?turn3, ?fin3⟩
        case gm3 => k_mem
        case gz3 => rw [sizeLine_eq]; omega
        case turn3 =>
          intro j x ys2 h2 tk2 E2 I2 oI2 C2 oC2 D2 m3 ta3 tb3 tc3 hj hJ2 hyl2 hC2 ea eb ec F2 N2 off2 ne2
          have hst := wit_step wfact.1 hj
          try simp only [LCg.Off3, and_true] at off2
          repeat' ((first | (k_unfold; (try dsimp only)) | (k_end; wrow_close) | ((with_reducible show wpAny _ _ (binaryOp Operator.Mult (Value.str _ _) (Value.int _ _)) _ _ _); (k_here; k_dflt (refine' KXi.mul (n := 1) ?a ?b ?c ?d ?_; (case a => rfl); (case b => decide); (case c => omega); (case d => omega); k_whole; intro t'q k'q _ _))) | ((with_reducible show wpAny _ _ (call (Value.type _) _) _ _ _); first | (k_here; (with_reducible show wpAny _ _ (call (Value.type "range") [Value.int _ _, Value.int _ _]) _ _ _); k_dflt (refine' range2_led ?F ?N ?_; (case F => k_asm); (case N => k_asm); k_whole; intro h'q r'q tk'q t1'q u1'q v1'q F'q N'q l1q; (try k_lt l1q))) | (k_here; (with_reducible show wpAny _ _ (call (Value.type "range") [Value.int _ _]) _ _ _); k_dflt (refine' range1_rows ?F ?N ?_; (case F => k_asm); (case N => k_asm); k_whole; intro h'q tk'q t1'q u1'q v1'q R'q F'q N'q K'q))) | walk1 | (dsimp only; walk1) | (leave1; walk_say "STEP leave1"; try dsimp only) | fail "no step"))
          · exact comp_end (by assumption) N2 off2 (fun _ h => h) (cnt_more hst (by assumption) (by assumption) hJ2)
          · exact comp_end (by assumption) N2 off2 (fun _ h => h) (cnt_less hst (fun q => absurd q.2 (by assumption)) hJ2)
          · exact comp_end (by assumption) N2 off2 (fun _ h => h) (cnt_less hst (fun q => absurd q.1 (by assumption)) hJ2)
        case fin3 =>
          intro D2 h2 tk2 ys2 F2 N2 ap2 hJ2
          have hcn := cnt_len (stepsOf z) sp wvs.length
          have hcn2 : (cntList (stepsOf z) sp wvs.length).length ≤ 62 := by omega
          repeat' ((first | (k_unfold; (try dsimp only)) | (k_end; wrow_close) | ((with_reducible show wpAny _ _ (binaryOp Operator.Mult (Value.str _ _) (Value.int _ _)) _ _ _); (k_here; k_dflt (refine' KXi.mul (n := 1) ?a ?b ?c ?d ?_; (case a => rfl); (case b => decide); (case c => omega); (case d => omega); k_whole; intro t'q k'q _ _))) | ((with_reducible show wpAny _ _ (call (Value.type _) _) _ _ _); first | (k_here; (with_reducible show wpAny _ _ (call (Value.type "range") [Value.int _ _, Value.int _ _]) _ _ _); k_dflt (refine' range2_led ?F ?N ?_; (case F => k_asm); (case N => k_asm); k_whole; intro h'q r'q tk'q t1'q u1'q v1'q F'q N'q l1q; (try k_lt l1q))) | (k_here; (with_reducible show wpAny _ _ (call (Value.type "range") [Value.int _ _]) _ _ _); k_dflt (refine' range1_rows ?F ?N ?_; (case F => k_asm); (case N => k_asm); k_whole; intro h'q tk'q t1'q u1'q v1'q R'q F'q N'q K'q))) | walk1 | (dsimp only; walk1) | (leave1; walk_say "STEP leave1"; try dsimp only) | fail "no step"))
          rename Fr _ _ _ _ => Fj
          rename News _ _ _ _ => Nj
          exact comp_end1 Fj Nj off (fun _ h => h) (depths_more hJ hsp (steps_len_le wfact.1 trn.1.symm))
      case fin2 =>
        intro dD dh dtk ds Fd Nd2 apd hJd
        rw [depths_const g5] at hJd
        have hdl : ds.length = wideAt z i := by rw [hJd.length, List.length_replicate]
        have hlr : (List.replicate (wideAt z i) (deepAt z i : Int)).length = wideAt z i := List.length_replicate
        have hg0 : (List.replicate (wideAt z i) (deepAt z i : Int)).getD 0 0 = (deepAt z i : Int) := by
          rw [List.getD_eq_getElem?_getD, List.getElem?_replicate, if_pos (by omega)]; rfl
        have hg0' : (List.replicate (wideAt z i) (deepAt z i : Int)).getD (Int.toNat 0) 0 = (deepAt z i : Int) := hg0
        have hrep := rep_eq hg0'
        repeat' ((fail_if_success (with_reducible show wpAny _ _ (binaryOp Operator.Mult (Value.str _ _) (Value.int _ _)) _ _ _)); (first | (k_unfold; (try dsimp only)) | (k_end; wrow_close) | ((with_reducible show wpAny _ _ (binaryOp Operator.Mult (Value.str _ _) (Value.int _ _)) _ _ _); (k_here; k_dflt (refine' KXi.mul (n := 1) ?a ?b ?c ?d ?_; (case a => rfl); (case b => decide); (case c => omega); (case d => omega); k_whole; intro t'q k'q _ _))) | ((with_reducible show wpAny _ _ (call (Value.type _) _) _ _ _); first | (k_here; (with_reducible show wpAny _ _ (call (Value.type "range") [Value.int _ _, Value.int _ _]) _ _ _); k_dflt (refine' range2_led ?F ?N ?_; (case F => k_asm); (case N => k_asm); k_whole; intro h'q r'q tk'q t1'q u1'q v1'q F'q N'q l1q; (try k_lt l1q))) | (k_here; (with_reducible show wpAny _ _ (call (Value.type "range") [Value.int _ _]) _ _ _); k_dflt (refine' range1_rows ?F ?N ?_; (case F => k_asm); (case N => k_asm); k_whole; intro h'q tk'q t1'q u1'q v1'q R'q F'q N'q K'q))) | walk1 | (dsimp only; walk1) | (leave1; walk_say "STEP leave1"; try dsimp only) | fail "no step"))
        · rw [hg0']
          repeat' ((fail_if_success (k_dflt (show wpAny _ _ (call (Value.ref 42) _) _ _ _))); (first | (k_unfold; (try dsimp only)) | (k_end; wrow_close) | ((with_reducible show wpAny _ _ (binaryOp Operator.Mult (Value.str _ _) (Value.int _ _)) _ _ _); (k_here; k_dflt (refine' KXi.mul (n := 1) ?a ?b ?c ?d ?_; (case a => rfl); (case b => decide); (case c => omega); (case d => omega); k_whole; intro t'q k'q _ _))) | ((with_reducible show wpAny _ _ (call (Value.type _) _) _ _ _); first | (k_here; (with_reducible show wpAny _ _ (call (Value.type "range") [Value.int _ _, Value.int _ _]) _ _ _); k_dflt (refine' range2_led ?F ?N ?_; (case F => k_asm); (case N => k_asm); k_whole; intro h'q r'q tk'q t1'q u1'q v1'q F'q N'q l1q; (try k_lt l1q))) | (k_here; (with_reducible show wpAny _ _ (call (Value.type "range") [Value.int _ _]) _ _ _); k_dflt (refine' range1_rows ?F ?N ?_; (case F => k_asm); (case N => k_asm); k_whole; intro h'q tk'q t1'q u1'q v1'q R'q F'q N'q K'q))) | walk1 | (dsimp only; walk1) | (leave1; walk_say "STEP leave1"; try dsimp only) | fail "no step"))
          k_here
          rename Fr _ _ _ _ => Fk
          rename News _ _ _ _ => Nk
          have cf := check_facts [a0, a1, a2, a3] (marksOf z) i (mul_codes g4) (fun b hb => .inr (List.mem_replicate.mp hb).2) (by omega) (by rw [List.length_replicate]; omega)
          dsimp only at cf
          rw [← hfr, g6] at cf
          obtain ⟨cf1, cf2, cf3, cf4, cf5⟩ := cf
          refine' check_call _ _ _ _ _ _ _ _ _ _ _ _ _ _ _ _ _ _ _ _ _ _ _ _ ?kB ?kF ?kX ?kN ?kT ?kk ?kd ?ku _ _ ?x1 ?x2 ?x3 ?x4 ?_
          case kB => k_asm
          case kF => exact Fk
          case kX => k_asm
          case kN => exact Nk
          case kT => k_asm
          case kk => exact rfl
          case kd => ktr_room
          case ku => ktr_units
          case x1 => exact cf1
          case x2 => exact cf2
          case x3 => exact cf3
          case x4 => exact cf4
          intro kh kgg ktk Fl Nl gml
          rw [cf5]
          repeat' ((first | (k_unfold; (try dsimp only)) | (k_end; wrow_close) | ((with_reducible show wpAny _ _ (binaryOp Operator.Mult (Value.str _ _) (Value.int _ _)) _ _ _); (k_here; k_dflt (refine' KXi.mul (n := 1) ?a ?b ?c ?d ?_; (case a => rfl); (case b => decide); (case c => omega); (case d => omega); k_whole; intro t'q k'q _ _))) | ((with_reducible show wpAny _ _ (call (Value.type _) _) _ _ _); first | (k_here; (with_reducible show wpAny _ _ (call (Value.type "range") [Value.int _ _, Value.int _ _]) _ _ _); k_dflt (refine' range2_led ?F ?N ?_; (case F => k_asm); (case N => k_asm); k_whole; intro h'q r'q tk'q t1'q u1'q v1'q F'q N'q l1q; (try k_lt l1q))) | (k_here; (with_reducible show wpAny _ _ (call (Value.type "range") [Value.int _ _]) _ _ _); k_dflt (refine' range1_rows ?F ?N ?_; (case F => k_asm); (case N => k_asm); k_whole; intro h'q tk'q t1'q u1'q v1'q R'q F'q N'q K'q))) | walk1 | (dsimp only; walk1) | (leave1; walk_say "STEP leave1"; try dsimp only) | fail "no step"))
          exact ⟨_, _, _, _, _, rfl, gml, Fl, turn_news Nl, hne, rfl, rfl, rfl⟩
    case hR =>
      intro h' gg tk m' news' F' N' hJ hgm
      obtain ⟨e0, e1, e2⟩ := hJ
      subst e0
      have F₃ := Fr_map F' (m' := fun y => if y = Str.ofString "pieces" then some (.ref pD) else m' y) (fun y => by
        by_cases p1 : y = Str.ofString "pieces"
        · subst p1; simp only [if_true]; exact e1.symm
        · simp only [p1, if_false])
      clear F'
      repeat' ((fail_if_success (with_reducible show wpAny _ _ (call (Value.builtin "str.join") _) _ _ _)); (first | (k_unfold; (try dsimp only)) | (k_end; wrow_close) | ((with_reducible show wpAny _ _ (binaryOp Operator.Mult (Value.str _ _) (Value.int _ _)) _ _ _); (k_here; k_dflt (refine' KXi.mul (n := 1) ?a ?b ?c ?d ?_; (case a => rfl); (case b => decide); (case c => omega); (case d => omega); k_whole; intro t'q k'q _ _))) | ((with_reducible show wpAny _ _ (call (Value.type _) _) _ _ _); first | (k_here; (with_reducible show wpAny _ _ (call (Value.type "range") [Value.int _ _, Value.int _ _]) _ _ _); k_dflt (refine' range2_led ?F ?N ?_; (case F => k_asm); (case N => k_asm); k_whole; intro h'q r'q tk'q t1'q u1'q v1'q F'q N'q l1q; (try k_lt l1q))) | (k_here; (with_reducible show wpAny _ _ (call (Value.type "range") [Value.int _ _]) _ _ _); k_dflt (refine' range1_rows ?F ?N ?_; (case F => k_asm); (case N => k_asm); k_whole; intro h'q tk'q t1'q u1'q v1'q R'q F'q N'q K'q))) | walk1 | (dsimp only; walk1) | (leave1; walk_say "STEP leave1"; try dsimp only) | fail "no step"))
      have hws := whole_short [a0, a1, a2, a3] (marksOf z)
      refine join_listW (News.isList N' (n := _) (List.mem_cons_of_mem _ List.mem_cons_self)) pst (by decide +kernel) (Nat.le_trans hws.2 (by omega)) ?_
      intro tj kj
      obtain ⟨wh0, hwh⟩ : ∃ wh0, wh0 = Txt.join (Str.ofString "") (piecesTo [a0, a1, a2, a3] (marksOf z) (marksOf z).length) := ⟨_, rfl⟩
      have hwl0 := hws.1
      rw [← hwh] at hwl0 ⊢
      repeat' ((fail_if_success (k_dflt (show wpAny _ _ (call (Value.ref 42) _) _ _ _))); (first | (k_unfold; (try dsimp only)) | (k_end; wrow_close) | ((with_reducible show wpAny _ _ (binaryOp Operator.Mult (Value.str _ _) (Value.int _ _)) _ _ _); (k_here; k_dflt (refine' KXi.mul (n := 1) ?a ?b ?c ?d ?_; (case a => rfl); (case b => decide); (case c => omega); (case d => omega); k_whole; intro t'q k'q _ _))) | ((with_reducible show wpAny _ _ (call (Value.type _) _) _ _ _); first | (k_here; (with_reducible show wpAny _ _ (call (Value.type "range") [Value.int _ _, Value.int _ _]) _ _ _); k_dflt (refine' range2_led ?F ?N ?_; (case F => k_asm); (case N => k_asm); k_whole; intro h'q r'q tk'q t1'q u1'q v1'q F'q N'q l1q; (try k_lt l1q))) | (k_here; (with_reducible show wpAny _ _ (call (Value.type "range") [Value.int _ _]) _ _ _); k_dflt (refine' range1_rows ?F ?N ?_; (case F => k_asm); (case N => k_asm); k_whole; intro h'q tk'q t1'q u1'q v1'q R'q F'q N'q K'q))) | walk1 | (dsimp only; walk1) | (leave1; walk_say "STEP leave1"; try dsimp only) | fail "no step"))
      k_here
      rename Fr _ _ _ _ => Fu
      rename News _ _ _ _ => Nu
      have cfu := whole_facts [a0, a1, a2, a3] (marksOf z) (y := Str.ofString "(") (bs := [40]) rfl (by decide) (by omega) (by decide)
      dsimp only at cfu
      rw [tm4, ← hwh] at cfu
      obtain ⟨cu1, cu2, cu3, cu4, cu5⟩ := cfu
      refine' check_call _ _ _ _ _ _ _ _ _ _ _ _ _ _ _ _ _ _ _ _ _ _ _ _ ?uB ?uF ?uX ?uN ?uT ?uk ?ud ?uu _ _ ?u1 ?u2 ?u3 ?u4 ?_
      case uB => k_asm
      case uF => exact Fu
      case uX => k_asm
      case uN => exact Nu
      case uT => k_asm
      case uk => exact rfl
      case ud => ktr_room
      case uu => ktr_units
      case u1 => exact cu1
      case u2 => exact cu2
      case u3 => exact cu3
      case u4 => exact cu4
      intro hu ggu tku Fru Nru gmu
      rw [cu5]
      repeat' ((fail_if_success (k_dflt (show wpAny _ _ (call (Value.ref 42) _) _ _ _))); (first | (k_unfold; (try dsimp only)) | (k_end; wrow_close) | ((with_reducible show wpAny _ _ (binaryOp Operator.Mult (Value.str _ _) (Value.int _ _)) _ _ _); (k_here; k_dflt (refine' KXi.mul (n := 1) ?a ?b ?c ?d ?_; (case a => rfl); (case b => decide); (case c => omega); (case d => omega); k_whole; intro t'q k'q _ _))) | ((with_reducible show wpAny _ _ (call (Value.type _) _) _ _ _); first | (k_here; (with_reducible show wpAny _ _ (call (Value.type "range") [Value.int _ _, Value.int _ _]) _ _ _); k_dflt (refine' range2_led ?F ?N ?_; (case F => k_asm); (case N => k_asm); k_whole; intro h'q r'q tk'q t1'q u1'q v1'q F'q N'q l1q; (try k_lt l1q))) | (k_here; (with_reducible show wpAny _ _ (call (Value.type "range") [Value.int _ _]) _ _ _); k_dflt (refine' range1_rows ?F ?N ?_; (case F => k_asm); (case N => k_asm); k_whole; intro h'q tk'q t1'q u1'q v1'q R'q F'q N'q K'q))) | walk1 | (dsimp only; walk1) | (leave1; walk_say "STEP leave1"; try dsimp only) | fail "no step"))
      k_here
      rename Fr _ _ _ _ => Fv
      rename News _ _ _ _ => Nv
      have cfv := whole_facts [a0, a1, a2, a3] (marksOf z) (y := Str.ofString ")(") (bs := [41, 40]) rfl (by decide) (by omega) (by decide)
      dsimp only at cfv
      rw [tm5, ← hwh] at cfv
      obtain ⟨cv1, cv2, cv3, cv4, cv5⟩ := cfv
      refine' check_call _ _ _ _ _ _ _ _ _ _ _ _ _ _ _ _ _ _ _ _ _ _ _ _ ?vB ?vF ?vX ?vN ?vT ?vk ?vd ?vu _ _ ?v1 ?v2 ?v3 ?v4 ?_
      case vB => k_asm
      case vF => exact Fv
      case vX => k_asm
      case vN => exact Nv
      case vT => k_asm
      case vk => exact rfl
      case vd => ktr_room
      case vu => ktr_units
      case v1 => exact cv1
      case v2 => exact cv2
      case v3 => exact cv3
      case v4 => exact cv4
      intro hv ggv tkv Frv Nrv gmv
      rw [cv5]
      repeat' ((first | (k_unfold; (try dsimp only)) | (k_end; wrow_close) | ((with_reducible show wpAny _ _ (binaryOp Operator.Mult (Value.str _ _) (Value.int _ _)) _ _ _); (k_here; k_dflt (refine' KXi.mul (n := 1) ?a ?b ?c ?d ?_; (case a => rfl); (case b => decide); (case c => omega); (case d => omega); k_whole; intro t'q k'q _ _))) | ((with_reducible show wpAny _ _ (call (Value.type _) _) _ _ _); first | (k_here; (with_reducible show wpAny _ _ (call (Value.type "range") [Value.int _ _, Value.int _ _]) _ _ _); k_dflt (refine' range2_led ?F ?N ?_; (case F => k_asm); (case N => k_asm); k_whole; intro h'q r'q tk'q t1'q u1'q v1'q F'q N'q l1q; (try k_lt l1q))) | (k_here; (with_reducible show wpAny _ _ (call (Value.type "range") [Value.int _ _]) _ _ _); k_dflt (refine' range1_rows ?F ?N ?_; (case F => k_asm); (case N => k_asm); k_whole; intro h'q tk'q t1'q u1'q v1'q R'q F'q N'q K'q))) | walk1 | (dsimp only; walk1) | (leave1; walk_say "STEP leave1"; try dsimp only) | fail "no step"))
      refine ⟨.inl ⟨_, .bool true, [], rfl, fun _ => rfl, .bool true, ?post, fun _ => ⟨List.nodup_nil, fun a h => nomatch h⟩⟩, hold _ _ _ _ _ _ Frv (end_news Nrv) tb1 tb2, rfl, gmv (gmu (hgm (gmm (gmw (AllBare.of_eq hg)))))⟩
      case post => kernel_rfl
end
end
end Mine
end
set_option maxRecDepth 100000 in
set_option maxHeartbeats 8000000 in
theorem PySem.Challenge.cw_tc0068_02_holds : PySem.Challenge.rw_tc0068_02.Holds := by
  exact Mine.final02
