import PyProof.Rows.All
import Wide.All
import OpenK.AllK
import Wide.FinOn
import PySem.Challenge.RW_il0013_01
open PySem PySem.W PyProof.Rows
set_option Elab.async false
set_option linter.all false
set_option compiler.extract_closed false
namespace Mine
set_option maxRecDepth 100000
abbrev PP : Program := PySem.Challenge.rw_il0013_01.row.prog
noncomputable def stBody : Stmt → List Stmt
  | .FunctionDef _ _ b _ _ _ _ _ _ _ => b
  | .ClassDef _ _ _ b _ _ _ _ _ _ _ => b
  | .For _ _ b _ _ => b
  | .While _ b _ _ => b
  | .If _ b _ _ => b
  | .Try b _ _ _ _ => b
  | _ => []
noncomputable def stScope : Stmt → Scope
  | .FunctionDef _ _ _ _ _ _ s _ _ _ => s
  | _ => default
noncomputable def stAt (l : List Stmt) (i : Nat) : Stmt := (l[i]?).getD (.Pass ⟨0, 0, 0, 0⟩)
noncomputable def fnD (st : Stmt) (q : Str) (g : Addr) (cl : List (Str × Addr)) (dv kv doc pm : Value) (an : Option Addr) (cd ct : Value) (bi : Addr) : Data :=
  match st with
  | .FunctionDef n ps b _ _ _ sc _ _ _ => .func { name := n, qualname := q, params := ps, body := .stmts b, scope := sc, globals := g, closure := cl, defaults := dv, kwdefaults := kv, doc := doc, pyModule := pm, annotations := an, code := cd, closureTuple := ct, builtins := bi }
  | _ => .plain
set_option maxHeartbeats 4000000 in
noncomputable def hd.heap_39 : Params → Frag := fun P =>
  (nat_lit 2, ⟨.none, none, (.dict #[] 0), #[]⟩) ::
  (nat_lit 3, ⟨(.type "dict"), none, (.dict #[⟨(PyData.keyHash P (Str.ofString "__name__")), (.str (Str.ofString "__name__") 165), (.str (Str.ofString "law_il0013_01") 412)⟩, ⟨(PyData.keyHash P (Str.ofString "__doc__")), (.str (Str.ofString "__doc__") 166), .none⟩, ⟨(PyData.keyHash P (Str.ofString "__package__")), (.str (Str.ofString "__package__") 167), .none⟩, ⟨(PyData.keyHash P (Str.ofString "__loader__")), (.str (Str.ofString "__loader__") 168), (.builtin "__main__.__loader__#\x6fpaque")⟩, ⟨(PyData.keyHash P (Str.ofString "__spec__")), (.str (Str.ofString "__spec__") 169), .none⟩, ⟨(PyData.keyHash P (Str.ofString "__annotations__")), (.str (Str.ofString "__annotations__") 170), (.ref 6)⟩, ⟨(PyData.keyHash P (Str.ofString "__builtins__")), (.str (Str.ofString "__builtins__") 171), (.ref 4)⟩, ⟨(PyData.keyHash P (Str.ofString "__file__")), (.str (Str.ofString "__file__") 173), (.str (Str.ofString "/claim/cut.py") 172)⟩, ⟨(PyData.keyHash P (Str.ofString "__cached__")), (.str (Str.ofString "__cached__") 174), .none⟩, ⟨(PyData.keyHash P (Str.ofString "_wall")), (.str (Str.ofString "_wall") 193), (.ref 21)⟩, ⟨(PyData.keyHash P (Str.ofString "dict_replace_saxutils")), (.str (Str.ofString "dict_replace_saxutils") 205), (.ref 28)⟩, ⟨(PyData.keyHash P (Str.ofString "escape")), (.str (Str.ofString "escape") 213), (.ref 37)⟩, ⟨(PyData.keyHash P (Str.ofString "unescape")), (.str (Str.ofString "unescape") 221), (.ref 46)⟩, ⟨(PyData.keyHash P (Str.ofString "quoteattr")), (.str (Str.ofString "quoteattr") 229), (.ref 55)⟩, ⟨(PyData.keyHash P (Str.ofString "_NODE_OUT")), (.str (Str.ofString "_NODE_OUT") 234), (.int (-1) 233)⟩, ⟨(PyData.keyHash P (Str.ofString "_NODE_DONE")), (.str (Str.ofString "_NODE_DONE") 237), (.int (-2) 236)⟩, ⟨(PyData.keyHash P (Str.ofString "_NodeInfo")), (.str (Str.ofString "_NodeInfo") 274), (.ref 74)⟩, ⟨(PyData.keyHash P (Str.ofString "CycleError")), (.str (Str.ofString "CycleError") 292), (.ref 89)⟩, ⟨(PyData.keyHash P (Str.ofString "TopologicalSorter")), (.str (Str.ofString "TopologicalSorter") 411), (.ref 171)⟩, ⟨(PyData.keyHash P (Str.ofString "_law_needs")), (.str (Str.ofString "_law_needs") 419), (.ref 180)⟩, ⟨(PyData.keyHash P (Str.ofString "_law_text")), (.str (Str.ofString "_law_text") 428), (.ref 187)⟩, ⟨(PyData.keyHash P (Str.ofString "_law_names")), (.str (Str.ofString "_law_names") 434), (.ref 192)⟩, ⟨(PyData.keyHash P (Str.ofString "_law_told")), (.str (Str.ofString "_law_told") 446), (.ref 199)⟩, ⟨(PyData.keyHash P (Str.ofString "_law_due")), (.str (Str.ofString "_law_due") 452), (.ref 204)⟩, ⟨(PyData.keyHash P (Str.ofString "law")), (.str (Str.ofString "law") 460), (.ref 211)⟩] 25), #[]⟩) ::
  (nat_lit 15, ⟨(.type "tuple"), none, (.seq #[] 0), #[]⟩) ::
  (nat_lit 17, ⟨(.type "tuple"), none, (.seq #[(.str (Str.ofString "k") 190)] 0), #[]⟩) ::
  (nat_lit 18, ⟨(.type "tuple"), none, (.seq #[] 0), #[]⟩) ::
  (nat_lit 20, ⟨(.type "code"), none, (.fields #[(.str (Str.ofString "_wall") 187), (.str (Str.ofString "_wall") 188), (.str (Str.ofString "/claim/cut.py") 189), (.int 1 0), (.int 1 0), (.int 0 0), (.int 0 0), (.int 3 0), (.ref 15), (.bool true), (.int 181 0), (.ref 16), .none, (.ref 17), (.ref 18), (.ref 19), (.int 191 0), (.int 1 0), (.str (Str.ofString "/claim/cut.py") 192)]), #[]⟩) ::
  (nat_lit 21, ⟨(.type "function"), none, (fnD (stAt PP.main.body 0) (Str.ofString "_wall") 3 [] .none .none .none (.str (Str.ofString "__main__") 164) none (.ref 20) .none 0), #[]⟩) ::
  (nat_lit 22, ⟨(.type "tuple"), none, (.seq #[] 0), #[]⟩) ::
  (nat_lit 24, ⟨(.type "tuple"), none, (.seq #[(.str (Str.ofString "s") 199), (.str (Str.ofString "d") 200), (.str (Str.ofString "key") 201), (.str (Str.ofString "value") 202)] 0), #[]⟩) ::
  (nat_lit 25, ⟨(.type "tuple"), none, (.seq #[] 0), #[]⟩) ::
  (nat_lit 27, ⟨(.type "code"), none, (.fields #[(.str (Str.ofString "dict_replace_saxutils") 196), (.str (Str.ofString "dict_replace_saxutils") 197), (.str (Str.ofString "/claim/cut.py") 198), (.int 5 0), (.int 2 0), (.int 0 0), (.int 0 0), (.int 3 0), (.ref 22), (.bool true), (.int 181 0), (.ref 23), .none, (.ref 24), (.ref 25), (.ref 26), (.int 203 0), (.int 5 0), (.str (Str.ofString "/claim/cut.py") 204)]), #[]⟩) ::
  (nat_lit 28, ⟨(.type "function"), none, (fnD (stAt PP.main.body 2) (Str.ofString "dict_replace_saxutils") 3 [] .none .none .none (.str (Str.ofString "cpy313.xml.sax.saxutils") 194) none (.ref 27) .none 0), #[]⟩) ::
  (nat_lit 29, ⟨(.type "dict"), none, (.dict #[] 0), #[]⟩) ::
  (nat_lit 30, ⟨(.type "tuple"), none, (.seq #[(.ref 29)] 0), #[]⟩) ::
  (nat_lit 31, ⟨(.type "tuple"), none, (.seq #[] 0), #[]⟩) ::
  (nat_lit 33, ⟨(.type "tuple"), none, (.seq #[(.str (Str.ofString "data") 209), (.str (Str.ofString "entities") 210)] 0), #[]⟩) ::
  (nat_lit 34, ⟨(.type "tuple"), none, (.seq #[] 0), #[]⟩) ::
  (nat_lit 36, ⟨(.type "code"), none, (.fields #[(.str (Str.ofString "escape") 206), (.str (Str.ofString "escape") 207), (.str (Str.ofString "/claim/cut.py") 208), (.int 9 0), (.int 2 0), (.int 0 0), (.int 0 0), (.int 3 0), (.ref 31), (.bool true), (.int 181 0), (.ref 32), .none, (.ref 33), (.ref 34), (.ref 35), (.int 211 0), (.int 9 0), (.str (Str.ofString "/claim/cut.py") 212)]), #[]⟩) ::
  (nat_lit 37, ⟨(.type "function"), none, (fnD (stAt PP.main.body 3) (Str.ofString "escape") 3 [] (.ref 30) .none .none (.str (Str.ofString "cpy313.xml.sax.saxutils") 194) none (.ref 36) .none 0), #[]⟩) ::
  (nat_lit 38, ⟨(.type "dict"), none, (.dict #[] 0), #[]⟩) ::
  (nat_lit 39, ⟨(.type "tuple"), none, (.seq #[(.ref 38)] 0), #[]⟩) ::
  (nat_lit 40, ⟨(.type "tuple"), none, (.seq #[] 0), #[]⟩) ::
  (nat_lit 42, ⟨(.type "tuple"), none, (.seq #[(.str (Str.ofString "data") 217), (.str (Str.ofString "entities") 218)] 0), #[]⟩) ::
  (nat_lit 43, ⟨(.type "tuple"), none, (.seq #[] 0), #[]⟩) ::
  (nat_lit 45, ⟨(.type "code"), none, (.fields #[(.str (Str.ofString "unescape") 214), (.str (Str.ofString "unescape") 215), (.str (Str.ofString "/claim/cut.py") 216), (.int 16 0), (.int 2 0), (.int 0 0), (.int 0 0), (.int 3 0), (.ref 40), (.bool true), (.int 181 0), (.ref 41), .none, (.ref 42), (.ref 43), (.ref 44), (.int 219 0), (.int 16 0), (.str (Str.ofString "/claim/cut.py") 220)]), #[]⟩) ::
  (nat_lit 46, ⟨(.type "function"), none, (fnD (stAt PP.main.body 4) (Str.ofString "unescape") 3 [] (.ref 39) .none .none (.str (Str.ofString "cpy313.xml.sax.saxutils") 194) none (.ref 45) .none 0), #[]⟩) ::
  (nat_lit 47, ⟨(.type "dict"), none, (.dict #[] 0), #[]⟩) ::
  (nat_lit 48, ⟨(.type "tuple"), none, (.seq #[(.ref 47)] 0), #[]⟩) ::
  (nat_lit 49, ⟨(.type "tuple"), none, (.seq #[] 0), #[]⟩) ::
  (nat_lit 51, ⟨(.type "tuple"), none, (.seq #[(.str (Str.ofString "data") 225), (.str (Str.ofString "entities") 226)] 0), #[]⟩) ::
  (nat_lit 52, ⟨(.type "tuple"), none, (.seq #[] 0), #[]⟩) ::
  (nat_lit 54, ⟨(.type "code"), none, (.fields #[(.str (Str.ofString "quoteattr") 222), (.str (Str.ofString "quoteattr") 223), (.str (Str.ofString "/claim/cut.py") 224), (.int 22 0), (.int 2 0), (.int 0 0), (.int 0 0), (.int 3 0), (.ref 49), (.bool true), (.int 181 0), (.ref 50), .none, (.ref 51), (.ref 52), (.ref 53), (.int 227 0), (.int 22 0), (.str (Str.ofString "/claim/cut.py") 228)]), #[]⟩) ::
  (nat_lit 55, ⟨(.type "function"), none, (fnD (stAt PP.main.body 5) (Str.ofString "quoteattr") 3 [] (.ref 48) .none .none (.str (Str.ofString "cpy313.xml.sax.saxutils") 194) none (.ref 54) .none 0), #[]⟩) ::
  (nat_lit 63, ⟨(.type "tuple"), none, (.seq #[(.str (Str.ofString "node") 250), (.str (Str.ofString "npredecessors") 251), (.str (Str.ofString "successors") 252)] 0), #[]⟩) ::
  (nat_lit 64, ⟨(.type "tuple"), none, (.seq #[] 0), #[]⟩) ::
  (nat_lit 66, ⟨(.type "tuple"), none, (.seq #[(.str (Str.ofString "self") 257), (.str (Str.ofString "node") 258)] 0), #[]⟩) ::
  (nat_lit 67, ⟨(.type "tuple"), none, (.seq #[] 0), #[]⟩) ::
  (nat_lit 69, ⟨(.type "code"), none, (.fields #[(.str (Str.ofString "__init__") 254), (.str (Str.ofString "_NodeInfo.__init__") 255), (.str (Str.ofString "/claim/cut.py") 256), (.int 39 0), (.int 2 0), (.int 0 0), (.int 0 0), (.int 3 0), (.ref 64), (.bool true), (.int 181 0), (.ref 65), .none, (.ref 66), (.ref 67), (.ref 68), (.int 259 0), (.int 39 0), (.str (Str.ofString "/claim/cut.py") 260)]), #[]⟩) ::
  (nat_lit 70, ⟨(.type "function"), none, (fnD (stAt (stBody (stAt PP.main.body 9)) 1) (Str.ofString "_NodeInfo.__init__") 3 [] .none .none .none (.str (Str.ofString "cpy313.graphlib") 230) none (.ref 69) .none 0), #[]⟩) ::
  (nat_lit 71, ⟨(.type "tuple"), none, (.seq #[(.str (Str.ofString "node") 262), (.str (Str.ofString "npredecessors") 263), (.str (Str.ofString "successors") 264)] 0), #[]⟩) ::
  (nat_lit 73, ⟨(.type "dict"), none, (.dict #[⟨(PyData.keyHash P (Str.ofString "__module__")), (.str (Str.ofString "__module__") 245), (.str (Str.ofString "cpy313.graphlib") 230)⟩, ⟨(PyData.keyHash P (Str.ofString "__firstlineno__")), (.str (Str.ofString "__firstlineno__") 249), (.int 36 248)⟩, ⟨(PyData.keyHash P (Str.ofString "__slots__")), (.str (Str.ofString "__slots__") 253), (.ref 63)⟩, ⟨(PyData.keyHash P (Str.ofString "__init__")), (.str (Str.ofString "__init__") 261), (.ref 70)⟩, ⟨(PyData.keyHash P (Str.ofString "__static_attributes__")), (.str (Str.ofString "__static_attributes__") 265), (.ref 71)⟩, ⟨(PyData.keyHash P (Str.ofString "node")), (.str (Str.ofString "node") 267), (.ref 75)⟩, ⟨(PyData.keyHash P (Str.ofString "npredecessors")), (.str (Str.ofString "npredecessors") 269), (.ref 76)⟩, ⟨(PyData.keyHash P (Str.ofString "successors")), (.str (Str.ofString "successors") 271), (.ref 77)⟩, ⟨(PyData.keyHash P (Str.ofString "__doc__")), (.str (Str.ofString "__doc__") 272), .none⟩] 5), #[]⟩) ::
  (nat_lit 74, ⟨(.type "type"), none, (.cls ⟨(Str.ofString "_NodeInfo"), [(.type "object")], [(.ref 74), (.type "object")], 73, (Str.ofString "_NodeInfo"), false, [(Str.ofString "node"), (Str.ofString "npredecessors"), (Str.ofString "successors")], [], false, none, false⟩), #[none, none, (some (.str (Str.ofString "_NodeInfo") 238)), (some (.str (Str.ofString "_NodeInfo") 246)), (some (.builtin "object.__new__")), (some (.bool false))]⟩) ::
  (nat_lit 75, ⟨(.type "member_descriptor"), none, (.fields #[(.str (Str.ofString "node") 266), (.ref 74), (.builtin "proto.slot"), (.builtin "proto.slot#set"), (.int 2 0)]), #[]⟩) ::
  (nat_lit 76, ⟨(.type "member_descriptor"), none, (.fields #[(.str (Str.ofString "npredecessors") 268), (.ref 74), (.builtin "proto.slot"), (.builtin "proto.slot#set"), (.int 1 0)]), #[]⟩) ::
  (nat_lit 77, ⟨(.type "member_descriptor"), none, (.fields #[(.str (Str.ofString "successors") 270), (.ref 74), (.builtin "proto.slot"), (.builtin "proto.slot#set"), (.int 0 0)]), #[]⟩) ::
  (nat_lit 80, ⟨(.type "tuple"), none, (.seq #[(.type "ValueError")] 0), #[]⟩) ::
  (nat_lit 87, ⟨(.type "tuple"), none, (.seq #[] 0), #[]⟩) ::
  (nat_lit 88, ⟨(.type "dict"), none, (.dict #[⟨(PyData.keyHash P (Str.ofString "__module__")), (.str (Str.ofString "__module__") 282), (.str (Str.ofString "cpy313.graphlib") 230)⟩, ⟨(PyData.keyHash P (Str.ofString "__firstlineno__")), (.str (Str.ofString "__firstlineno__") 286), (.int 43 285)⟩, ⟨(PyData.keyHash P (Str.ofString "__static_attributes__")), (.str (Str.ofString "__static_attributes__") 287), (.ref 87)⟩, ⟨(PyData.keyHash P (Str.ofString "__weakref__")), (.str (Str.ofString "__weakref__") 289), (.ref 90)⟩, ⟨(PyData.keyHash P (Str.ofString "__doc__")), (.str (Str.ofString "__doc__") 290), .none⟩] 3), #[]⟩) ::
  (nat_lit 89, ⟨(.type "type"), none, (.cls ⟨(Str.ofString "CycleError"), [(.type "ValueError")], [(.ref 89), (.type "ValueError"), (.type "Exception"), (.type "BaseException"), (.type "object")], 88, (Str.ofString "CycleError"), true, [], [], false, none, false⟩), #[(some (.ref 80)), none, (some (.str (Str.ofString "CycleError") 275)), (some (.str (Str.ofString "CycleError") 283)), (some (.builtin "ValueError.__new__")), (some (.bool true))]⟩) ::
  (nat_lit 90, ⟨(.type "getset_descriptor"), none, (.fields #[(.str (Str.ofString "__weakref__") 288), (.ref 89), (.builtin "ExceptionGroup.__weakref__"), .none]), #[]⟩) ::
  (nat_lit 100, ⟨(.type "tuple"), none, (.seq #[.none] 0), #[]⟩) ::
  (nat_lit 101, ⟨(.type "tuple"), none, (.seq #[] 0), #[]⟩) ::
  (nat_lit 103, ⟨(.type "tuple"), none, (.seq #[(.str (Str.ofString "self") 308), (.str (Str.ofString "graph") 309), (.str (Str.ofString "node") 310), (.str (Str.ofString "predecessors") 311)] 0), #[]⟩) ::
  (nat_lit 104, ⟨(.type "tuple"), none, (.seq #[] 0), #[]⟩) ::
  (nat_lit 106, ⟨(.type "code"), none, (.fields #[(.str (Str.ofString "__init__") 305), (.str (Str.ofString "TopologicalSorter.__init__") 306), (.str (Str.ofString "/claim/cut.py") 307), (.int 47 0), (.int 2 0), (.int 0 0), (.int 0 0), (.int 3 0), (.ref 101), (.bool true), (.int 181 0), (.ref 102), .none, (.ref 103), (.ref 104), (.ref 105), (.int 312 0), (.int 47 0), (.str (Str.ofString "/claim/cut.py") 313)]), #[]⟩) ::
  (nat_lit 107, ⟨(.type "function"), none, (fnD (stAt (stBody (stAt PP.main.body 11)) 0) (Str.ofString "TopologicalSorter.__init__") 3 [] (.ref 100) .none .none (.str (Str.ofString "cpy313.graphlib") 230) none (.ref 106) .none 0), #[]⟩) ::
  (nat_lit 108, ⟨(.type "tuple"), none, (.seq #[] 0), #[]⟩) ::
  (nat_lit 110, ⟨(.type "tuple"), none, (.seq #[(.str (Str.ofString "self") 318), (.str (Str.ofString "node") 319), (.str (Str.ofString "result") 320)] 0), #[]⟩) ::
  (nat_lit 111, ⟨(.type "tuple"), none, (.seq #[] 0), #[]⟩) ::
  (nat_lit 113, ⟨(.type "code"), none, (.fields #[(.str (Str.ofString "_get_nodeinfo") 315), (.str (Str.ofString "TopologicalSorter._get_nodeinfo") 316), (.str (Str.ofString "/claim/cut.py") 317), (.int 56 0), (.int 2 0), (.int 0 0), (.int 0 0), (.int 3 0), (.ref 108), (.bool true), (.int 181 0), (.ref 109), .none, (.ref 110), (.ref 111), (.ref 112), (.int 321 0), (.int 56 0), (.str (Str.ofString "/claim/cut.py") 322)]), #[]⟩) ::
  (nat_lit 114, ⟨(.type "function"), none, (fnD (stAt (stBody (stAt PP.main.body 11)) 1) (Str.ofString "TopologicalSorter._get_nodeinfo") 3 [] .none .none .none (.str (Str.ofString "cpy313.graphlib") 230) none (.ref 113) .none 0), #[]⟩) ::
  (nat_lit 115, ⟨(.type "tuple"), none, (.seq #[] 0), #[]⟩) ::
  (nat_lit 117, ⟨(.type "tuple"), none, (.seq #[(.str (Str.ofString "self") 327), (.str (Str.ofString "node") 328), (.str (Str.ofString "predecessors") 329), (.str (Str.ofString "nodeinfo") 330), (.str (Str.ofString "pred") 331), (.str (Str.ofString "pred_info") 332)] 0), #[]⟩) ::
  (nat_lit 118, ⟨(.type "tuple"), none, (.seq #[] 0), #[]⟩) ::
  (nat_lit 120, ⟨(.type "code"), none, (.fields #[(.str (Str.ofString "add") 324), (.str (Str.ofString "TopologicalSorter.add") 325), (.str (Str.ofString "/claim/cut.py") 326), (.int 61 0), (.int 2 0), (.int 0 0), (.int 0 0), (.int 7 0), (.ref 115), (.bool true), (.int 181 0), (.ref 116), .none, (.ref 117), (.ref 118), (.ref 119), (.int 333 0), (.int 61 0), (.str (Str.ofString "/claim/cut.py") 334)]), #[]⟩) ::
  (nat_lit 121, ⟨(.type "function"), none, (fnD (stAt (stBody (stAt PP.main.body 11)) 2) (Str.ofString "TopologicalSorter.add") 3 [] .none .none .none (.str (Str.ofString "cpy313.graphlib") 230) none (.ref 120) .none 0), #[]⟩) ::
  (nat_lit 122, ⟨(.type "tuple"), none, (.seq #[] 0), #[]⟩) ::
  (nat_lit 125, ⟨(.type "code"), none, (.fields #[(.str (Str.ofString "prepare") 336), (.str (Str.ofString "TopologicalSorter.prepare") 337), (.str (Str.ofString "/claim/cut.py") 338), (.int 70 0), (.int 1 0), (.int 0 0), (.int 0 0), (.int 3 0), (.ref 122), (.bool true), (.int 181 0), (.ref 123), .none, .none, .none, (.ref 124), (.int 339 0), (.int 70 0), (.str (Str.ofString "/claim/cut.py") 340)]), #[]⟩) ::
  (nat_lit 126, ⟨(.type "function"), none, (fnD (stAt (stBody (stAt PP.main.body 11)) 3) (Str.ofString "TopologicalSorter.prepare") 3 [] .none .none .none (.str (Str.ofString "cpy313.graphlib") 230) none (.ref 125) .none 0), #[]⟩) ::
  (nat_lit 127, ⟨(.type "tuple"), none, (.seq #[] 0), #[]⟩) ::
  (nat_lit 129, ⟨(.type "tuple"), none, (.seq #[(.str (Str.ofString "self") 345), (.str (Str.ofString "result") 346), (.str (Str.ofString "n2i") 347), (.str (Str.ofString "node") 348)] 0), #[]⟩) ::
  (nat_lit 130, ⟨(.type "tuple"), none, (.seq #[] 0), #[]⟩) ::
  (nat_lit 132, ⟨(.type "code"), none, (.fields #[(.str (Str.ofString "get_ready") 342), (.str (Str.ofString "TopologicalSorter.get_ready") 343), (.str (Str.ofString "/claim/cut.py") 344), (.int 78 0), (.int 1 0), (.int 0 0), (.int 0 0), (.int 3 0), (.ref 127), (.bool true), (.int 181 0), (.ref 128), .none, (.ref 129), (.ref 130), (.ref 131), (.int 349 0), (.int 78 0), (.str (Str.ofString "/claim/cut.py") 350)]), #[]⟩) ::
  (nat_lit 133, ⟨(.type "function"), none, (fnD (stAt (stBody (stAt PP.main.body 11)) 4) (Str.ofString "TopologicalSorter.get_ready") 3 [] .none .none .none (.str (Str.ofString "cpy313.graphlib") 230) none (.ref 132) .none 0), #[]⟩) ::
  (nat_lit 134, ⟨(.type "tuple"), none, (.seq #[] 0), #[]⟩) ::
  (nat_lit 136, ⟨(.type "tuple"), none, (.seq #[(.str (Str.ofString "self") 355)] 0), #[]⟩) ::
  (nat_lit 137, ⟨(.type "tuple"), none, (.seq #[] 0), #[]⟩) ::
  (nat_lit 139, ⟨(.type "code"), none, (.fields #[(.str (Str.ofString "is_active") 352), (.str (Str.ofString "TopologicalSorter.is_active") 353), (.str (Str.ofString "/claim/cut.py") 354), (.int 89 0), (.int 1 0), (.int 0 0), (.int 0 0), (.int 3 0), (.ref 134), (.bool true), (.int 181 0), (.ref 135), .none, (.ref 136), (.ref 137), (.ref 138), (.int 356 0), (.int 89 0), (.str (Str.ofString "/claim/cut.py") 357)]), #[]⟩) ::
  (nat_lit 140, ⟨(.type "function"), none, (fnD (stAt (stBody (stAt PP.main.body 11)) 5) (Str.ofString "TopologicalSorter.is_active") 3 [] .none .none .none (.str (Str.ofString "cpy313.graphlib") 230) none (.ref 139) .none 0), #[]⟩) ::
  (nat_lit 141, ⟨(.type "tuple"), none, (.seq #[] 0), #[]⟩) ::
  (nat_lit 143, ⟨(.type "tuple"), none, (.seq #[(.str (Str.ofString "self") 362)] 0), #[]⟩) ::
  (nat_lit 144, ⟨(.type "tuple"), none, (.seq #[] 0), #[]⟩) ::
  (nat_lit 146, ⟨(.type "code"), none, (.fields #[(.str (Str.ofString "__bool__") 359), (.str (Str.ofString "TopologicalSorter.__bool__") 360), (.str (Str.ofString "/claim/cut.py") 361), (.int 94 0), (.int 1 0), (.int 0 0), (.int 0 0), (.int 3 0), (.ref 141), (.bool true), (.int 181 0), (.ref 142), .none, (.ref 143), (.ref 144), (.ref 145), (.int 363 0), (.int 94 0), (.str (Str.ofString "/claim/cut.py") 364)]), #[]⟩) ::
  (nat_lit 147, ⟨(.type "function"), none, (fnD (stAt (stBody (stAt PP.main.body 11)) 6) (Str.ofString "TopologicalSorter.__bool__") 3 [] .none .none .none (.str (Str.ofString "cpy313.graphlib") 230) none (.ref 146) .none 0), #[]⟩) ::
  (nat_lit 148, ⟨(.type "tuple"), none, (.seq #[] 0), #[]⟩) ::
  (nat_lit 150, ⟨(.type "tuple"), none, (.seq #[(.str (Str.ofString "self") 369), (.str (Str.ofString "nodes") 370), (.str (Str.ofString "n2i") 371), (.str (Str.ofString "node") 372), (.str (Str.ofString "nodeinfo") 373), (.str (Str.ofString "stat") 374), (.str (Str.ofString "successor") 375), (.str (Str.ofString "successor_info") 376)] 0), #[]⟩) ::
  (nat_lit 151, ⟨(.type "tuple"), none, (.seq #[] 0), #[]⟩) ::
  (nat_lit 153, ⟨(.type "code"), none, (.fields #[(.str (Str.ofString "done") 366), (.str (Str.ofString "TopologicalSorter.done") 367), (.str (Str.ofString "/claim/cut.py") 368), (.int 97 0), (.int 1 0), (.int 0 0), (.int 0 0), (.int 7 0), (.ref 148), (.bool true), (.int 181 0), (.ref 149), .none, (.ref 150), (.ref 151), (.ref 152), (.int 377 0), (.int 97 0), (.str (Str.ofString "/claim/cut.py") 378)]), #[]⟩) ::
  (nat_lit 154, ⟨(.type "function"), none, (fnD (stAt (stBody (stAt PP.main.body 11)) 7) (Str.ofString "TopologicalSorter.done") 3 [] .none .none .none (.str (Str.ofString "cpy313.graphlib") 230) none (.ref 153) .none 0), #[]⟩) ::
  (nat_lit 155, ⟨(.type "tuple"), none, (.seq #[] 0), #[]⟩) ::
  (nat_lit 157, ⟨(.type "tuple"), none, (.seq #[(.str (Str.ofString "self") 383), (.str (Str.ofString "n2i") 384), (.str (Str.ofString "stack") 385), (.str (Str.ofString "itstack") 386), (.str (Str.ofString "seen") 387), (.str (Str.ofString "node2stacki") 388), (.str (Str.ofString "node") 389)] 0), #[]⟩) ::
  (nat_lit 158, ⟨(.type "tuple"), none, (.seq #[] 0), #[]⟩) ::
  (nat_lit 160, ⟨(.type "code"), none, (.fields #[(.str (Str.ofString "_find_cycle") 380), (.str (Str.ofString "TopologicalSorter._find_cycle") 381), (.str (Str.ofString "/claim/cut.py") 382), (.int 120 0), (.int 1 0), (.int 0 0), (.int 0 0), (.int 3 0), (.ref 155), (.bool true), (.int 181 0), (.ref 156), .none, (.ref 157), (.ref 158), (.ref 159), (.int 390 0), (.int 120 0), (.str (Str.ofString "/claim/cut.py") 391)]), #[]⟩) ::
  (nat_lit 161, ⟨(.type "function"), none, (fnD (stAt (stBody (stAt PP.main.body 11)) 8) (Str.ofString "TopologicalSorter._find_cycle") 3 [] .none .none .none (.str (Str.ofString "cpy313.graphlib") 230) none (.ref 160) .none 0), #[]⟩) ::
  (nat_lit 162, ⟨(.type "tuple"), none, (.seq #[] 0), #[]⟩) ::
  (nat_lit 164, ⟨(.type "tuple"), none, (.seq #[(.str (Str.ofString "self") 396)] 0), #[]⟩) ::
  (nat_lit 165, ⟨(.type "tuple"), none, (.seq #[] 0), #[]⟩) ::
  (nat_lit 167, ⟨(.type "code"), none, (.fields #[(.str (Str.ofString "static_order") 393), (.str (Str.ofString "TopologicalSorter.static_order") 394), (.str (Str.ofString "/claim/cut.py") 395), (.int 149 0), (.int 1 0), (.int 0 0), (.int 0 0), (.int 3 0), (.ref 162), (.bool true), (.int 181 0), (.ref 163), .none, (.ref 164), (.ref 165), (.ref 166), (.int 397 0), (.int 149 0), (.str (Str.ofString "/claim/cut.py") 398)]), #[]⟩) ::
  (nat_lit 168, ⟨(.type "function"), none, (fnD (stAt (stBody (stAt PP.main.body 11)) 9) (Str.ofString "TopologicalSorter.static_order") 3 [] .none .none .none (.str (Str.ofString "cpy313.graphlib") 230) none (.ref 167) .none 0), #[]⟩) ::
  (nat_lit 169, ⟨(.type "tuple"), none, (.seq #[(.str (Str.ofString "_nfinished") 400), (.str (Str.ofString "_node2info") 401), (.str (Str.ofString "_npassedout") 402), (.str (Str.ofString "_ready_nodes") 403)] 0), #[]⟩) ::
  (nat_lit 170, ⟨(.type "dict"), none, (.dict #[⟨(PyData.keyHash P (Str.ofString "__module__")), (.str (Str.ofString "__module__") 300), (.str (Str.ofString "cpy313.graphlib") 230)⟩, ⟨(PyData.keyHash P (Str.ofString "__firstlineno__")), (.str (Str.ofString "__firstlineno__") 304), (.int 45 303)⟩, ⟨(PyData.keyHash P (Str.ofString "__init__")), (.str (Str.ofString "__init__") 314), (.ref 107)⟩, ⟨(PyData.keyHash P (Str.ofString "_get_nodeinfo")), (.str (Str.ofString "_get_nodeinfo") 323), (.ref 114)⟩, ⟨(PyData.keyHash P (Str.ofString "add")), (.str (Str.ofString "add") 335), (.ref 121)⟩, ⟨(PyData.keyHash P (Str.ofString "prepare")), (.str (Str.ofString "prepare") 341), (.ref 126)⟩, ⟨(PyData.keyHash P (Str.ofString "get_ready")), (.str (Str.ofString "get_ready") 351), (.ref 133)⟩, ⟨(PyData.keyHash P (Str.ofString "is_active")), (.str (Str.ofString "is_active") 358), (.ref 140)⟩, ⟨(PyData.keyHash P (Str.ofString "__bool__")), (.str (Str.ofString "__bool__") 365), (.ref 147)⟩, ⟨(PyData.keyHash P (Str.ofString "done")), (.str (Str.ofString "done") 379), (.ref 154)⟩, ⟨(PyData.keyHash P (Str.ofString "_find_cycle")), (.str (Str.ofString "_find_cycle") 392), (.ref 161)⟩, ⟨(PyData.keyHash P (Str.ofString "static_order")), (.str (Str.ofString "static_order") 399), (.ref 168)⟩, ⟨(PyData.keyHash P (Str.ofString "__static_attributes__")), (.str (Str.ofString "__static_attributes__") 404), (.ref 169)⟩, ⟨(PyData.keyHash P (Str.ofString "__dict__")), (.str (Str.ofString "__dict__") 406), (.ref 172)⟩, ⟨(PyData.keyHash P (Str.ofString "__weakref__")), (.str (Str.ofString "__weakref__") 408), (.ref 173)⟩, ⟨(PyData.keyHash P (Str.ofString "__doc__")), (.str (Str.ofString "__doc__") 409), .none⟩] 4), #[]⟩) ::
  (nat_lit 171, ⟨(.type "type"), none, (.cls ⟨(Str.ofString "TopologicalSorter"), [(.type "object")], [(.ref 171), (.type "object")], 170, (Str.ofString "TopologicalSorter"), true, [], [], false, none, false⟩), #[none, none, (some (.str (Str.ofString "TopologicalSorter") 293)), (some (.str (Str.ofString "TopologicalSorter") 301)), (some (.builtin "object.__new__")), (some (.bool true))]⟩) ::
  (nat_lit 172, ⟨(.type "getset_descriptor"), none, (.fields #[(.str (Str.ofString "__dict__") 405), (.ref 171), (.builtin "function.__dict__"), (.builtin "function.__dict__#set")]), #[]⟩) ::
  (nat_lit 173, ⟨(.type "getset_descriptor"), none, (.fields #[(.str (Str.ofString "__weakref__") 407), (.ref 171), (.builtin "ExceptionGroup.__weakref__"), .none]), #[]⟩) ::
  (nat_lit 176, ⟨(.type "tuple"), none, (.seq #[] 0), #[]⟩) ::
  (nat_lit 179, ⟨(.type "code"), none, (.fields #[(.str (Str.ofString "_law_needs") 414), (.str (Str.ofString "_law_needs") 415), (.str (Str.ofString "/claim/cut.py") 416), (.int 152 0), (.int 1 0), (.int 0 0), (.int 0 0), (.int 3 0), (.ref 176), (.bool true), (.int 181 0), (.ref 177), .none, .none, .none, (.ref 178), (.int 417 0), (.int 152 0), (.str (Str.ofString "/claim/cut.py") 418)]), #[]⟩) ::
  (nat_lit 180, ⟨(.type "function"), none, (fnD (stAt PP.main.body 13) (Str.ofString "_law_needs") 3 [] .none .none .none (.str (Str.ofString "law_il0013_01") 412) none (.ref 179) .none 0), #[]⟩) ::
  (nat_lit 181, ⟨(.type "tuple"), none, (.seq #[] 0), #[]⟩) ::
  (nat_lit 183, ⟨(.type "tuple"), none, (.seq #[(.str (Str.ofString "needs") 423), (.str (Str.ofString "text") 424), (.str (Str.ofString "k") 425)] 0), #[]⟩) ::
  (nat_lit 184, ⟨(.type "tuple"), none, (.seq #[] 0), #[]⟩) ::
  (nat_lit 186, ⟨(.type "code"), none, (.fields #[(.str (Str.ofString "_law_text") 420), (.str (Str.ofString "_law_text") 421), (.str (Str.ofString "/claim/cut.py") 422), (.int 155 0), (.int 1 0), (.int 0 0), (.int 0 0), (.int 3 0), (.ref 181), (.bool true), (.int 181 0), (.ref 182), .none, (.ref 183), (.ref 184), (.ref 185), (.int 426 0), (.int 155 0), (.str (Str.ofString "/claim/cut.py") 427)]), #[]⟩) ::
  (nat_lit 187, ⟨(.type "function"), none, (fnD (stAt PP.main.body 14) (Str.ofString "_law_text") 3 [] .none .none .none (.str (Str.ofString "law_il0013_01") 412) none (.ref 186) .none 0), #[]⟩) ::
  (nat_lit 188, ⟨(.type "tuple"), none, (.seq #[] 0), #[]⟩) ::
  (nat_lit 191, ⟨(.type "code"), none, (.fields #[(.str (Str.ofString "_law_names") 429), (.str (Str.ofString "_law_names") 430), (.str (Str.ofString "/claim/cut.py") 431), (.int 160 0), (.int 1 0), (.int 0 0), (.int 0 0), (.int 3 0), (.ref 188), (.bool true), (.int 181 0), (.ref 189), .none, .none, .none, (.ref 190), (.int 432 0), (.int 160 0), (.str (Str.ofString "/claim/cut.py") 433)]), #[]⟩) ::
  (nat_lit 192, ⟨(.type "function"), none, (fnD (stAt PP.main.body 15) (Str.ofString "_law_names") 3 [] .none .none .none (.str (Str.ofString "law_il0013_01") 412) none (.ref 191) .none 0), #[]⟩) ::
  (nat_lit 193, ⟨(.type "tuple"), none, (.seq #[] 0), #[]⟩) ::
  (nat_lit 195, ⟨(.type "tuple"), none, (.seq #[(.str (Str.ofString "names") 438), (.str (Str.ofString "sorter") 439), (.str (Str.ofString "k") 440), (.str (Str.ofString "ring") 441), (.str (Str.ofString "rounds") 442), (.str (Str.ofString "ready") 443)] 0), #[]⟩) ::
  (nat_lit 196, ⟨(.type "tuple"), none, (.seq #[] 0), #[]⟩) ::
  (nat_lit 198, ⟨(.type "code"), none, (.fields #[(.str (Str.ofString "_law_told") 435), (.str (Str.ofString "_law_told") 436), (.str (Str.ofString "/claim/cut.py") 437), (.int 170 0), (.int 1 0), (.int 0 0), (.int 0 0), (.int 3 0), (.ref 193), (.bool true), (.int 181 0), (.ref 194), .none, (.ref 195), (.ref 196), (.ref 197), (.int 444 0), (.int 170 0), (.str (Str.ofString "/claim/cut.py") 445)]), #[]⟩) ::
  (nat_lit 199, ⟨(.type "function"), none, (fnD (stAt PP.main.body 16) (Str.ofString "_law_told") 3 [] .none .none .none (.str (Str.ofString "law_il0013_01") 412) none (.ref 198) .none 0), #[]⟩) ::
  (nat_lit 200, ⟨(.type "tuple"), none, (.seq #[] 0), #[]⟩) ::
  (nat_lit 203, ⟨(.type "code"), none, (.fields #[(.str (Str.ofString "_law_due") 447), (.str (Str.ofString "_law_due") 448), (.str (Str.ofString "/claim/cut.py") 449), (.int 185 0), (.int 1 0), (.int 0 0), (.int 0 0), (.int 3 0), (.ref 200), (.bool true), (.int 181 0), (.ref 201), .none, .none, .none, (.ref 202), (.int 450 0), (.int 185 0), (.str (Str.ofString "/claim/cut.py") 451)]), #[]⟩) ::
  (nat_lit 204, ⟨(.type "function"), none, (fnD (stAt PP.main.body 17) (Str.ofString "_law_due") 3 [] .none .none .none (.str (Str.ofString "law_il0013_01") 412) none (.ref 203) .none 0), #[]⟩) ::
  (nat_lit 205, ⟨(.type "tuple"), none, (.seq #[] 0), #[]⟩) ::
  (nat_lit 207, ⟨(.type "tuple"), none, (.seq #[(.str (Str.ofString "script") 456), (.str (Str.ofString "drawn") 457)] 0), #[]⟩) ::
  (nat_lit 208, ⟨(.type "tuple"), none, (.seq #[] 0), #[]⟩) ::
  (nat_lit 210, ⟨(.type "code"), none, (.fields #[(.str (Str.ofString "law") 453), (.str (Str.ofString "law") 454), (.str (Str.ofString "/claim/cut.py") 455), (.int 195 0), (.int 1 0), (.int 0 0), (.int 0 0), (.int 3 0), (.ref 205), (.bool true), (.int 181 0), (.ref 206), .none, (.ref 207), (.ref 208), (.ref 209), (.int 458 0), (.int 195 0), (.str (Str.ofString "/claim/cut.py") 459)]), #[]⟩) ::
  (nat_lit 211, ⟨(.type "function"), none, (fnD (stAt PP.main.body 18) (Str.ofString "law") 3 [] .none .none .none (.str (Str.ofString "law_il0013_01") 412) none (.ref 210) .none 0), #[]⟩) :: []
noncomputable def hd.view_39 : Program := { PP with main := { PP.main with body := [stAt PP.main.body 0, stAt PP.main.body 2, stAt PP.main.body 7, stAt PP.main.body 8, stAt PP.main.body 9, stAt PP.main.body 10, stAt PP.main.body 11, stAt PP.main.body 13, stAt PP.main.body 14, stAt PP.main.body 15, stAt PP.main.body 16, stAt PP.main.body 17, stAt PP.main.body 18] } }
noncomputable def hd.at_39 : List Addr := [2, 3, 15, 17, 18, 20, 21, 22, 24, 25, 27, 28, 29, 30, 31, 33, 34, 36, 37, 38, 39, 40, 42, 43, 45, 46, 47, 48, 49, 51, 52, 54, 55, 63, 64, 66, 67, 69, 70, 71, 73, 74, 75, 76, 77, 80, 87, 88, 89, 90, 100, 101, 103, 104, 106, 107, 108, 110, 111, 113, 114, 115, 117, 118, 120, 121, 122, 125, 126, 127, 129, 130, 132, 133, 134, 136, 137, 139, 140, 141, 143, 144, 146, 147, 148, 150, 151, 153, 154, 155, 157, 158, 160, 161, 162, 164, 165, 167, 168, 169, 170, 171, 172, 173, 176, 179, 180, 181, 183, 184, 186, 187, 188, 191, 192, 193, 195, 196, 198, 199, 200, 203, 204, 205, 207, 208, 210, 211]
theorem hd.at_is : ∀ P : Params, hd.at_39 = (hd.heap_39 P).map (·.1) := fun _ => by kernel_rfl
@[reducible] noncomputable def hd.loose : List Str := [Str.ofString "escape", Str.ofString "unescape", Str.ofString "quoteattr", Str.ofString "_NodeInfo"]
@[reducible] noncomputable def hd.hook : Hook := kHook hd.heap_39 hd.at_39 hd.at_is
theorem hd.left : LeftO PP hd.view_39 hd.loose (fun s => xlAt hd.view_39 [] s && recOk (RowW.records PySem.Challenge.rw_il0013_01.row.toRowW) s) (Hook.obs hd.hook) (Hook.val hd.hook) 2854 := fun w => by kernel_rfl
theorem hd.said : PySem.Challenge.rw_il0013_01.wellSaid = true := by decide +kernel
theorem hd.wit : PySem.Challenge.rw_il0013_01.row.toRowW.promised := by w_witness2
set_option maxRecDepth 100000


structure Stop (p : Prop) : Prop where
  go : p
inductive NextJ (g : Heap) (L I : Addr) (oI : Obj) (gs : Array GenState) (d : Drawn) (os : OsState) (J : (Str → Option Value) → List (Addr × Obj) → Prop) (s₃ : Shared) : Prop
  | mk (h' : Heap) (tk' : Tok) (m' : Str → Option Value) (news' : List (Addr × Obj)) (e : s₃ = ⟨h', gs, d, tk', os⟩) (F : Fr g L h' m') (N : News g L h' ((I, oI) :: news')) (f : ∀ p ∈ news', p.1 ≠ I) (j : J m' news')
inductive NextV (g : Heap) (L : Addr) (n : Nat) (gs : Array GenState) (d : Drawn) (os : OsState) (J : Nat → (Str → Option Value) → List (Addr × Obj) → Prop) (s₃ : Shared) : Prop
  | mk (h' : Heap) (tk' : Tok) (m' : Str → Option Value) (news' : List (Addr × Obj)) (n' : Nat) (e : s₃ = ⟨h', gs, d, tk', os⟩) (F : Fr g L h' m') (N : News g L h' news') (hn : n' < n) (j : J n' m' news')
@[reducible] noncomputable def NextI (g : Heap) (L I : Addr) (oI : Obj) (s : Shared) (J : (Str → Option Value) → List (Addr × Obj) → Prop) (s₃ : Shared) : Prop := NextJ g L I oI s.gens s.drawn s.os J s₃
@[reducible] noncomputable def NextW (g : Heap) (L : Addr) (n : Nat) (s : Shared) (J : Nat → (Str → Option Value) → List (Addr × Obj) → Prop) (s₃ : Shared) : Prop := NextV g L n s.gens s.drawn s.os J s₃
theorem sb1 {n i : Nat} (h : i < n) : n + 1 - (i + 1) < n + 1 - i := Nat.sub_lt_sub_left (Nat.lt_succ_of_lt h) (Nat.lt_succ_self i)
theorem sb2 {n i : Nat} (h : i < n) : n - i = n - (i + 1) + 1 := by rw [Nat.sub_add_eq, Nat.sub_add_cancel (Nat.sub_pos_of_lt h)]
theorem sb3 {n i : Nat} (h : n + 2 ≤ i) : i - n = i - n - 2 + 2 := (Nat.sub_add_cancel (Nat.le_sub_of_add_le' h)).symm
theorem kms_len (l : List Value) (lo hi : Option Int) : (kms_pick l lo hi).length ≤ l.length := by
  unfold kms_pick
  rw [List.length_take, List.length_drop]
  exact Nat.le_trans (Nat.min_le_right _ _) (Nat.sub_le _ _)
theorem news_sub {g h : Heap} {L : Addr} {l1 l2 : List (Addr × Obj)} (N : News g L h l1) (s : ∀ p ∈ l2, p ∈ l1) : News g L h l2 := fun p hp => N p (s p hp)
theorem hide {p : Prop} (h : ∀ G : Prop, (p → G) → G) : p := h p id
theorem hideT {α β : Type} {M : Model} {A A' : Around} {t : Sem α} {c : α → Sem β} {Q : β → Shared → Prop} {E₂ E : Value → Shared → Prop} {s : Shared}
    (h : ∀ Q' : β → Shared → Prop, (∀ r s', Q r s' → Q' r s') → wpAny M A t (fun a s₂ => wpAny M A' (c a) Q' E₂ s₂) E s) : wpAny M A t (fun a s₂ => wpAny M A' (c a) Q E₂ s₂) E s :=
  h Q (fun _ _ z => z)
theorem cps_AAA {p1 : Prop} {p2 : Prop} {p3 : Prop} {p4 : Prop} {G : Prop} (h : p1 ∧ p2 ∧ p3 ∧ p4) (k : (p1) → (p2) → (p3) → (p4) → G) : G := by
  obtain ⟨h1, h2, h3, h4⟩ := h
  exact k h1 h2 h3 h4
theorem cps_AAE {τ1 : Type} {p1 : Prop} {p2 : Prop} {p3 : τ1 → Prop} {G : Prop} (h : p1 ∧ p2 ∧ ∃ a1, p3 a1) (k : (p1) → (p2) → ∀ a1, (p3 a1) → G) : G := by
  obtain ⟨h1, h2, a1, h3⟩ := h
  exact k h1 h2 a1 h3
theorem cps_AEA {τ1 : Type} {p1 : Prop} {p2 : τ1 → Prop} {p3 : τ1 → Prop} {G : Prop} (h : p1 ∧ ∃ a1, p2 a1 ∧ p3 a1) (k : (p1) → ∀ a1, (p2 a1) → (p3 a1) → G) : G := by
  obtain ⟨h1, a1, h2, h3⟩ := h
  exact k h1 a1 h2 h3
theorem cps_AEE {τ1 τ2 : Type} {p1 : Prop} {p2 : τ1 → τ2 → Prop} {G : Prop} (h : p1 ∧ ∃ a1, ∃ a2, p2 a1 a2) (k : (p1) → ∀ a1, ∀ a2, (p2 a1 a2) → G) : G := by
  obtain ⟨h1, a1, a2, h2⟩ := h
  exact k h1 a1 a2 h2
theorem cps_EAA {τ1 : Type} {p1 : τ1 → Prop} {p2 : τ1 → Prop} {p3 : τ1 → Prop} {G : Prop} (h : ∃ a1, p1 a1 ∧ p2 a1 ∧ p3 a1) (k : ∀ a1, (p1 a1) → (p2 a1) → (p3 a1) → G) : G := by
  obtain ⟨a1, h1, h2, h3⟩ := h
  exact k a1 h1 h2 h3
theorem cps_EEA {τ1 τ2 : Type} {p1 : τ1 → τ2 → Prop} {p2 : τ1 → τ2 → Prop} {G : Prop} (h : ∃ a1, ∃ a2, p1 a1 a2 ∧ p2 a1 a2) (k : ∀ a1, ∀ a2, (p1 a1 a2) → (p2 a1 a2) → G) : G := by
  obtain ⟨a1, a2, h1, h2⟩ := h
  exact k a1 a2 h1 h2
theorem cps_AAAA {p1 : Prop} {p2 : Prop} {p3 : Prop} {p4 : Prop} {p5 : Prop} {G : Prop} (h : p1 ∧ p2 ∧ p3 ∧ p4 ∧ p5) (k : (p1) → (p2) → (p3) → (p4) → (p5) → G) : G := by
  obtain ⟨h1, h2, h3, h4, h5⟩ := h
  exact k h1 h2 h3 h4 h5
theorem cps_AAEA {τ1 : Type} {p1 : Prop} {p2 : Prop} {p3 : τ1 → Prop} {p4 : τ1 → Prop} {G : Prop} (h : p1 ∧ p2 ∧ ∃ a1, p3 a1 ∧ p4 a1) (k : (p1) → (p2) → ∀ a1, (p3 a1) → (p4 a1) → G) : G := by
  obtain ⟨h1, h2, a1, h3, h4⟩ := h
  exact k h1 h2 a1 h3 h4
theorem cps_AEAA {τ1 : Type} {p1 : Prop} {p2 : τ1 → Prop} {p3 : τ1 → Prop} {p4 : τ1 → Prop} {G : Prop} (h : p1 ∧ ∃ a1, p2 a1 ∧ p3 a1 ∧ p4 a1) (k : (p1) → ∀ a1, (p2 a1) → (p3 a1) → (p4 a1) → G) : G := by
  obtain ⟨h1, a1, h2, h3, h4⟩ := h
  exact k h1 a1 h2 h3 h4
theorem cps_AEEA {τ1 τ2 : Type} {p1 : Prop} {p2 : τ1 → τ2 → Prop} {p3 : τ1 → τ2 → Prop} {G : Prop} (h : p1 ∧ ∃ a1, ∃ a2, p2 a1 a2 ∧ p3 a1 a2) (k : (p1) → ∀ a1, ∀ a2, (p2 a1 a2) → (p3 a1 a2) → G) : G := by
  obtain ⟨h1, a1, a2, h2, h3⟩ := h
  exact k h1 a1 a2 h2 h3
theorem cps_EAAA {τ1 : Type} {p1 : τ1 → Prop} {p2 : τ1 → Prop} {p3 : τ1 → Prop} {p4 : τ1 → Prop} {G : Prop} (h : ∃ a1, p1 a1 ∧ p2 a1 ∧ p3 a1 ∧ p4 a1) (k : ∀ a1, (p1 a1) → (p2 a1) → (p3 a1) → (p4 a1) → G) : G := by
  obtain ⟨a1, h1, h2, h3, h4⟩ := h
  exact k a1 h1 h2 h3 h4
theorem cps_EAAE {τ1 τ2 : Type} {p1 : τ1 → Prop} {p2 : τ1 → Prop} {p3 : τ1 → τ2 → Prop} {G : Prop} (h : ∃ a1, p1 a1 ∧ p2 a1 ∧ ∃ a2, p3 a1 a2) (k : ∀ a1, (p1 a1) → (p2 a1) → ∀ a2, (p3 a1 a2) → G) : G := by
  obtain ⟨a1, h1, h2, a2, h3⟩ := h
  exact k a1 h1 h2 a2 h3
theorem cps_EEAA {τ1 τ2 : Type} {p1 : τ1 → τ2 → Prop} {p2 : τ1 → τ2 → Prop} {p3 : τ1 → τ2 → Prop} {G : Prop} (h : ∃ a1, ∃ a2, p1 a1 a2 ∧ p2 a1 a2 ∧ p3 a1 a2) (k : ∀ a1, ∀ a2, (p1 a1 a2) → (p2 a1 a2) → (p3 a1 a2) → G) : G := by
  obtain ⟨a1, a2, h1, h2, h3⟩ := h
  exact k a1 a2 h1 h2 h3
theorem cps_EEEA {τ1 τ2 τ3 : Type} {p1 : τ1 → τ2 → τ3 → Prop} {p2 : τ1 → τ2 → τ3 → Prop} {G : Prop} (h : ∃ a1, ∃ a2, ∃ a3, p1 a1 a2 a3 ∧ p2 a1 a2 a3) (k : ∀ a1, ∀ a2, ∀ a3, (p1 a1 a2 a3) → (p2 a1 a2 a3) → G) : G := by
  obtain ⟨a1, a2, a3, h1, h2⟩ := h
  exact k a1 a2 a3 h1 h2
theorem cps_EEEE {τ1 τ2 τ3 τ4 : Type} {p1 : τ1 → τ2 → τ3 → τ4 → Prop} {G : Prop} (h : ∃ a1, ∃ a2, ∃ a3, ∃ a4, p1 a1 a2 a3 a4) (k : ∀ a1, ∀ a2, ∀ a3, ∀ a4, (p1 a1 a2 a3 a4) → G) : G := by
  obtain ⟨a1, a2, a3, a4, h1⟩ := h
  exact k a1 a2 a3 a4 h1
theorem cps_AAAAA {p1 : Prop} {p2 : Prop} {p3 : Prop} {p4 : Prop} {p5 : Prop} {p6 : Prop} {G : Prop} (h : p1 ∧ p2 ∧ p3 ∧ p4 ∧ p5 ∧ p6) (k : (p1) → (p2) → (p3) → (p4) → (p5) → (p6) → G) : G := by
  obtain ⟨h1, h2, h3, h4, h5, h6⟩ := h
  exact k h1 h2 h3 h4 h5 h6
theorem cps_EAAAA {τ1 : Type} {p1 : τ1 → Prop} {p2 : τ1 → Prop} {p3 : τ1 → Prop} {p4 : τ1 → Prop} {p5 : τ1 → Prop} {G : Prop} (h : ∃ a1, p1 a1 ∧ p2 a1 ∧ p3 a1 ∧ p4 a1 ∧ p5 a1) (k : ∀ a1, (p1 a1) → (p2 a1) → (p3 a1) → (p4 a1) → (p5 a1) → G) : G := by
  obtain ⟨a1, h1, h2, h3, h4, h5⟩ := h
  exact k a1 h1 h2 h3 h4 h5
theorem cps_EEAAA {τ1 τ2 : Type} {p1 : τ1 → τ2 → Prop} {p2 : τ1 → τ2 → Prop} {p3 : τ1 → τ2 → Prop} {p4 : τ1 → τ2 → Prop} {G : Prop} (h : ∃ a1, ∃ a2, p1 a1 a2 ∧ p2 a1 a2 ∧ p3 a1 a2 ∧ p4 a1 a2) (k : ∀ a1, ∀ a2, (p1 a1 a2) → (p2 a1 a2) → (p3 a1 a2) → (p4 a1 a2) → G) : G := by
  obtain ⟨a1, a2, h1, h2, h3, h4⟩ := h
  exact k a1 a2 h1 h2 h3 h4
theorem cps_EEEAA {τ1 τ2 τ3 : Type} {p1 : τ1 → τ2 → τ3 → Prop} {p2 : τ1 → τ2 → τ3 → Prop} {p3 : τ1 → τ2 → τ3 → Prop} {G : Prop} (h : ∃ a1, ∃ a2, ∃ a3, p1 a1 a2 a3 ∧ p2 a1 a2 a3 ∧ p3 a1 a2 a3) (k : ∀ a1, ∀ a2, ∀ a3, (p1 a1 a2 a3) → (p2 a1 a2 a3) → (p3 a1 a2 a3) → G) : G := by
  obtain ⟨a1, a2, a3, h1, h2, h3⟩ := h
  exact k a1 a2 a3 h1 h2 h3
theorem cps_AAAAAA {p1 : Prop} {p2 : Prop} {p3 : Prop} {p4 : Prop} {p5 : Prop} {p6 : Prop} {p7 : Prop} {G : Prop} (h : p1 ∧ p2 ∧ p3 ∧ p4 ∧ p5 ∧ p6 ∧ p7) (k : (p1) → (p2) → (p3) → (p4) → (p5) → (p6) → (p7) → G) : G := by
  obtain ⟨h1, h2, h3, h4, h5, h6, h7⟩ := h
  exact k h1 h2 h3 h4 h5 h6 h7
theorem cps_AEEEAA {τ1 τ2 τ3 : Type} {p1 : Prop} {p2 : τ1 → τ2 → τ3 → Prop} {p3 : τ1 → τ2 → τ3 → Prop} {p4 : τ1 → τ2 → τ3 → Prop} {G : Prop} (h : p1 ∧ ∃ a1, ∃ a2, ∃ a3, p2 a1 a2 a3 ∧ p3 a1 a2 a3 ∧ p4 a1 a2 a3) (k : (p1) → ∀ a1, ∀ a2, ∀ a3, (p2 a1 a2 a3) → (p3 a1 a2 a3) → (p4 a1 a2 a3) → G) : G := by
  obtain ⟨h1, a1, a2, a3, h2, h3, h4⟩ := h
  exact k h1 a1 a2 a3 h2 h3 h4
theorem cps_EAAAAA {τ1 : Type} {p1 : τ1 → Prop} {p2 : τ1 → Prop} {p3 : τ1 → Prop} {p4 : τ1 → Prop} {p5 : τ1 → Prop} {p6 : τ1 → Prop} {G : Prop} (h : ∃ a1, p1 a1 ∧ p2 a1 ∧ p3 a1 ∧ p4 a1 ∧ p5 a1 ∧ p6 a1) (k : ∀ a1, (p1 a1) → (p2 a1) → (p3 a1) → (p4 a1) → (p5 a1) → (p6 a1) → G) : G := by
  obtain ⟨a1, h1, h2, h3, h4, h5, h6⟩ := h
  exact k a1 h1 h2 h3 h4 h5 h6
theorem cps_EEAAAA {τ1 τ2 : Type} {p1 : τ1 → τ2 → Prop} {p2 : τ1 → τ2 → Prop} {p3 : τ1 → τ2 → Prop} {p4 : τ1 → τ2 → Prop} {p5 : τ1 → τ2 → Prop} {G : Prop} (h : ∃ a1, ∃ a2, p1 a1 a2 ∧ p2 a1 a2 ∧ p3 a1 a2 ∧ p4 a1 a2 ∧ p5 a1 a2) (k : ∀ a1, ∀ a2, (p1 a1 a2) → (p2 a1 a2) → (p3 a1 a2) → (p4 a1 a2) → (p5 a1 a2) → G) : G := by
  obtain ⟨a1, a2, h1, h2, h3, h4, h5⟩ := h
  exact k a1 a2 h1 h2 h3 h4 h5
theorem cps_EEEAAA {τ1 τ2 τ3 : Type} {p1 : τ1 → τ2 → τ3 → Prop} {p2 : τ1 → τ2 → τ3 → Prop} {p3 : τ1 → τ2 → τ3 → Prop} {p4 : τ1 → τ2 → τ3 → Prop} {G : Prop} (h : ∃ a1, ∃ a2, ∃ a3, p1 a1 a2 a3 ∧ p2 a1 a2 a3 ∧ p3 a1 a2 a3 ∧ p4 a1 a2 a3) (k : ∀ a1, ∀ a2, ∀ a3, (p1 a1 a2 a3) → (p2 a1 a2 a3) → (p3 a1 a2 a3) → (p4 a1 a2 a3) → G) : G := by
  obtain ⟨a1, a2, a3, h1, h2, h3, h4⟩ := h
  exact k a1 a2 a3 h1 h2 h3 h4
theorem cps_EEEAEA {τ1 τ2 τ3 τ4 : Type} {p1 : τ1 → τ2 → τ3 → Prop} {p2 : τ1 → τ2 → τ3 → τ4 → Prop} {p3 : τ1 → τ2 → τ3 → τ4 → Prop} {G : Prop} (h : ∃ a1, ∃ a2, ∃ a3, p1 a1 a2 a3 ∧ ∃ a4, p2 a1 a2 a3 a4 ∧ p3 a1 a2 a3 a4) (k : ∀ a1, ∀ a2, ∀ a3, (p1 a1 a2 a3) → ∀ a4, (p2 a1 a2 a3 a4) → (p3 a1 a2 a3 a4) → G) : G := by
  obtain ⟨a1, a2, a3, h1, a4, h2, h3⟩ := h
  exact k a1 a2 a3 h1 a4 h2 h3
theorem cps_EEEEEA {τ1 τ2 τ3 τ4 τ5 : Type} {p1 : τ1 → τ2 → τ3 → τ4 → τ5 → Prop} {p2 : τ1 → τ2 → τ3 → τ4 → τ5 → Prop} {G : Prop} (h : ∃ a1, ∃ a2, ∃ a3, ∃ a4, ∃ a5, p1 a1 a2 a3 a4 a5 ∧ p2 a1 a2 a3 a4 a5) (k : ∀ a1, ∀ a2, ∀ a3, ∀ a4, ∀ a5, (p1 a1 a2 a3 a4 a5) → (p2 a1 a2 a3 a4 a5) → G) : G := by
  obtain ⟨a1, a2, a3, a4, a5, h1, h2⟩ := h
  exact k a1 a2 a3 a4 a5 h1 h2
theorem cps_AEEEEAA {τ1 τ2 τ3 τ4 : Type} {p1 : Prop} {p2 : τ1 → τ2 → τ3 → τ4 → Prop} {p3 : τ1 → τ2 → τ3 → τ4 → Prop} {p4 : τ1 → τ2 → τ3 → τ4 → Prop} {G : Prop} (h : p1 ∧ ∃ a1, ∃ a2, ∃ a3, ∃ a4, p2 a1 a2 a3 a4 ∧ p3 a1 a2 a3 a4 ∧ p4 a1 a2 a3 a4) (k : (p1) → ∀ a1, ∀ a2, ∀ a3, ∀ a4, (p2 a1 a2 a3 a4) → (p3 a1 a2 a3 a4) → (p4 a1 a2 a3 a4) → G) : G := by
  obtain ⟨h1, a1, a2, a3, a4, h2, h3, h4⟩ := h
  exact k h1 a1 a2 a3 a4 h2 h3 h4
theorem cps_EEEAAAA {τ1 τ2 τ3 : Type} {p1 : τ1 → τ2 → τ3 → Prop} {p2 : τ1 → τ2 → τ3 → Prop} {p3 : τ1 → τ2 → τ3 → Prop} {p4 : τ1 → τ2 → τ3 → Prop} {p5 : τ1 → τ2 → τ3 → Prop} {G : Prop} (h : ∃ a1, ∃ a2, ∃ a3, p1 a1 a2 a3 ∧ p2 a1 a2 a3 ∧ p3 a1 a2 a3 ∧ p4 a1 a2 a3 ∧ p5 a1 a2 a3) (k : ∀ a1, ∀ a2, ∀ a3, (p1 a1 a2 a3) → (p2 a1 a2 a3) → (p3 a1 a2 a3) → (p4 a1 a2 a3) → (p5 a1 a2 a3) → G) : G := by
  obtain ⟨a1, a2, a3, h1, h2, h3, h4, h5⟩ := h
  exact k a1 a2 a3 h1 h2 h3 h4 h5
theorem cps_EEEEAAA {τ1 τ2 τ3 τ4 : Type} {p1 : τ1 → τ2 → τ3 → τ4 → Prop} {p2 : τ1 → τ2 → τ3 → τ4 → Prop} {p3 : τ1 → τ2 → τ3 → τ4 → Prop} {p4 : τ1 → τ2 → τ3 → τ4 → Prop} {G : Prop} (h : ∃ a1, ∃ a2, ∃ a3, ∃ a4, p1 a1 a2 a3 a4 ∧ p2 a1 a2 a3 a4 ∧ p3 a1 a2 a3 a4 ∧ p4 a1 a2 a3 a4) (k : ∀ a1, ∀ a2, ∀ a3, ∀ a4, (p1 a1 a2 a3 a4) → (p2 a1 a2 a3 a4) → (p3 a1 a2 a3 a4) → (p4 a1 a2 a3 a4) → G) : G := by
  obtain ⟨a1, a2, a3, a4, h1, h2, h3, h4⟩ := h
  exact k a1 a2 a3 a4 h1 h2 h3 h4
theorem cps_EEEEAAAA {τ1 τ2 τ3 τ4 : Type} {p1 : τ1 → τ2 → τ3 → τ4 → Prop} {p2 : τ1 → τ2 → τ3 → τ4 → Prop} {p3 : τ1 → τ2 → τ3 → τ4 → Prop} {p4 : τ1 → τ2 → τ3 → τ4 → Prop} {p5 : τ1 → τ2 → τ3 → τ4 → Prop} {G : Prop} (h : ∃ a1, ∃ a2, ∃ a3, ∃ a4, p1 a1 a2 a3 a4 ∧ p2 a1 a2 a3 a4 ∧ p3 a1 a2 a3 a4 ∧ p4 a1 a2 a3 a4 ∧ p5 a1 a2 a3 a4) (k : ∀ a1, ∀ a2, ∀ a3, ∀ a4, (p1 a1 a2 a3 a4) → (p2 a1 a2 a3 a4) → (p3 a1 a2 a3 a4) → (p4 a1 a2 a3 a4) → (p5 a1 a2 a3 a4) → G) : G := by
  obtain ⟨a1, a2, a3, a4, h1, h2, h3, h4, h5⟩ := h
  exact k a1 a2 a3 a4 h1 h2 h3 h4 h5
theorem cps_EEEEEAAA {τ1 τ2 τ3 τ4 τ5 : Type} {p1 : τ1 → τ2 → τ3 → τ4 → τ5 → Prop} {p2 : τ1 → τ2 → τ3 → τ4 → τ5 → Prop} {p3 : τ1 → τ2 → τ3 → τ4 → τ5 → Prop} {p4 : τ1 → τ2 → τ3 → τ4 → τ5 → Prop} {G : Prop} (h : ∃ a1, ∃ a2, ∃ a3, ∃ a4, ∃ a5, p1 a1 a2 a3 a4 a5 ∧ p2 a1 a2 a3 a4 a5 ∧ p3 a1 a2 a3 a4 a5 ∧ p4 a1 a2 a3 a4 a5) (k : ∀ a1, ∀ a2, ∀ a3, ∀ a4, ∀ a5, (p1 a1 a2 a3 a4 a5) → (p2 a1 a2 a3 a4 a5) → (p3 a1 a2 a3 a4 a5) → (p4 a1 a2 a3 a4 a5) → G) : G := by
  obtain ⟨a1, a2, a3, a4, a5, h1, h2, h3, h4⟩ := h
  exact k a1 a2 a3 a4 a5 h1 h2 h3 h4
theorem cps_AAEEEEAAA {τ1 τ2 τ3 τ4 : Type} {p1 : Prop} {p2 : Prop} {p3 : τ1 → τ2 → τ3 → τ4 → Prop} {p4 : τ1 → τ2 → τ3 → τ4 → Prop} {p5 : τ1 → τ2 → τ3 → τ4 → Prop} {p6 : τ1 → τ2 → τ3 → τ4 → Prop} {G : Prop} (h : p1 ∧ p2 ∧ ∃ a1, ∃ a2, ∃ a3, ∃ a4, p3 a1 a2 a3 a4 ∧ p4 a1 a2 a3 a4 ∧ p5 a1 a2 a3 a4 ∧ p6 a1 a2 a3 a4) (k : (p1) → (p2) → ∀ a1, ∀ a2, ∀ a3, ∀ a4, (p3 a1 a2 a3 a4) → (p4 a1 a2 a3 a4) → (p5 a1 a2 a3 a4) → (p6 a1 a2 a3 a4) → G) : G := by
  obtain ⟨h1, h2, a1, a2, a3, a4, h3, h4, h5, h6⟩ := h
  exact k h1 h2 a1 a2 a3 a4 h3 h4 h5 h6
theorem cps_EAAAAAAAA {τ1 : Type} {p1 : τ1 → Prop} {p2 : τ1 → Prop} {p3 : τ1 → Prop} {p4 : τ1 → Prop} {p5 : τ1 → Prop} {p6 : τ1 → Prop} {p7 : τ1 → Prop} {p8 : τ1 → Prop} {p9 : τ1 → Prop} {G : Prop} (h : ∃ a1, p1 a1 ∧ p2 a1 ∧ p3 a1 ∧ p4 a1 ∧ p5 a1 ∧ p6 a1 ∧ p7 a1 ∧ p8 a1 ∧ p9 a1) (k : ∀ a1, (p1 a1) → (p2 a1) → (p3 a1) → (p4 a1) → (p5 a1) → (p6 a1) → (p7 a1) → (p8 a1) → (p9 a1) → G) : G := by
  obtain ⟨a1, h1, h2, h3, h4, h5, h6, h7, h8, h9⟩ := h
  exact k a1 h1 h2 h3 h4 h5 h6 h7 h8 h9
theorem cps_EEEAAAAAA {τ1 τ2 τ3 : Type} {p1 : τ1 → τ2 → τ3 → Prop} {p2 : τ1 → τ2 → τ3 → Prop} {p3 : τ1 → τ2 → τ3 → Prop} {p4 : τ1 → τ2 → τ3 → Prop} {p5 : τ1 → τ2 → τ3 → Prop} {p6 : τ1 → τ2 → τ3 → Prop} {p7 : τ1 → τ2 → τ3 → Prop} {G : Prop} (h : ∃ a1, ∃ a2, ∃ a3, p1 a1 a2 a3 ∧ p2 a1 a2 a3 ∧ p3 a1 a2 a3 ∧ p4 a1 a2 a3 ∧ p5 a1 a2 a3 ∧ p6 a1 a2 a3 ∧ p7 a1 a2 a3) (k : ∀ a1, ∀ a2, ∀ a3, (p1 a1 a2 a3) → (p2 a1 a2 a3) → (p3 a1 a2 a3) → (p4 a1 a2 a3) → (p5 a1 a2 a3) → (p6 a1 a2 a3) → (p7 a1 a2 a3) → G) : G := by
  obtain ⟨a1, a2, a3, h1, h2, h3, h4, h5, h6, h7⟩ := h
  exact k a1 a2 a3 h1 h2 h3 h4 h5 h6 h7
theorem cps_EEEEAAAAA {τ1 τ2 τ3 τ4 : Type} {p1 : τ1 → τ2 → τ3 → τ4 → Prop} {p2 : τ1 → τ2 → τ3 → τ4 → Prop} {p3 : τ1 → τ2 → τ3 → τ4 → Prop} {p4 : τ1 → τ2 → τ3 → τ4 → Prop} {p5 : τ1 → τ2 → τ3 → τ4 → Prop} {p6 : τ1 → τ2 → τ3 → τ4 → Prop} {G : Prop} (h : ∃ a1, ∃ a2, ∃ a3, ∃ a4, p1 a1 a2 a3 a4 ∧ p2 a1 a2 a3 a4 ∧ p3 a1 a2 a3 a4 ∧ p4 a1 a2 a3 a4 ∧ p5 a1 a2 a3 a4 ∧ p6 a1 a2 a3 a4) (k : ∀ a1, ∀ a2, ∀ a3, ∀ a4, (p1 a1 a2 a3 a4) → (p2 a1 a2 a3 a4) → (p3 a1 a2 a3 a4) → (p4 a1 a2 a3 a4) → (p5 a1 a2 a3 a4) → (p6 a1 a2 a3 a4) → G) : G := by
  obtain ⟨a1, a2, a3, a4, h1, h2, h3, h4, h5, h6⟩ := h
  exact k a1 a2 a3 a4 h1 h2 h3 h4 h5 h6
theorem cps_EEEEEAAAA {τ1 τ2 τ3 τ4 τ5 : Type} {p1 : τ1 → τ2 → τ3 → τ4 → τ5 → Prop} {p2 : τ1 → τ2 → τ3 → τ4 → τ5 → Prop} {p3 : τ1 → τ2 → τ3 → τ4 → τ5 → Prop} {p4 : τ1 → τ2 → τ3 → τ4 → τ5 → Prop} {p5 : τ1 → τ2 → τ3 → τ4 → τ5 → Prop} {G : Prop} (h : ∃ a1, ∃ a2, ∃ a3, ∃ a4, ∃ a5, p1 a1 a2 a3 a4 a5 ∧ p2 a1 a2 a3 a4 a5 ∧ p3 a1 a2 a3 a4 a5 ∧ p4 a1 a2 a3 a4 a5 ∧ p5 a1 a2 a3 a4 a5) (k : ∀ a1, ∀ a2, ∀ a3, ∀ a4, ∀ a5, (p1 a1 a2 a3 a4 a5) → (p2 a1 a2 a3 a4 a5) → (p3 a1 a2 a3 a4 a5) → (p4 a1 a2 a3 a4 a5) → (p5 a1 a2 a3 a4 a5) → G) : G := by
  obtain ⟨a1, a2, a3, a4, a5, h1, h2, h3, h4, h5⟩ := h
  exact k a1 a2 a3 a4 a5 h1 h2 h3 h4 h5
theorem cps_EEEAAAAAAA {τ1 τ2 τ3 : Type} {p1 : τ1 → τ2 → τ3 → Prop} {p2 : τ1 → τ2 → τ3 → Prop} {p3 : τ1 → τ2 → τ3 → Prop} {p4 : τ1 → τ2 → τ3 → Prop} {p5 : τ1 → τ2 → τ3 → Prop} {p6 : τ1 → τ2 → τ3 → Prop} {p7 : τ1 → τ2 → τ3 → Prop} {p8 : τ1 → τ2 → τ3 → Prop} {G : Prop} (h : ∃ a1, ∃ a2, ∃ a3, p1 a1 a2 a3 ∧ p2 a1 a2 a3 ∧ p3 a1 a2 a3 ∧ p4 a1 a2 a3 ∧ p5 a1 a2 a3 ∧ p6 a1 a2 a3 ∧ p7 a1 a2 a3 ∧ p8 a1 a2 a3) (k : ∀ a1, ∀ a2, ∀ a3, (p1 a1 a2 a3) → (p2 a1 a2 a3) → (p3 a1 a2 a3) → (p4 a1 a2 a3) → (p5 a1 a2 a3) → (p6 a1 a2 a3) → (p7 a1 a2 a3) → (p8 a1 a2 a3) → G) : G := by
  obtain ⟨a1, a2, a3, h1, h2, h3, h4, h5, h6, h7, h8⟩ := h
  exact k a1 a2 a3 h1 h2 h3 h4 h5 h6 h7 h8
theorem cps_EEEEAAAAAA {τ1 τ2 τ3 τ4 : Type} {p1 : τ1 → τ2 → τ3 → τ4 → Prop} {p2 : τ1 → τ2 → τ3 → τ4 → Prop} {p3 : τ1 → τ2 → τ3 → τ4 → Prop} {p4 : τ1 → τ2 → τ3 → τ4 → Prop} {p5 : τ1 → τ2 → τ3 → τ4 → Prop} {p6 : τ1 → τ2 → τ3 → τ4 → Prop} {p7 : τ1 → τ2 → τ3 → τ4 → Prop} {G : Prop} (h : ∃ a1, ∃ a2, ∃ a3, ∃ a4, p1 a1 a2 a3 a4 ∧ p2 a1 a2 a3 a4 ∧ p3 a1 a2 a3 a4 ∧ p4 a1 a2 a3 a4 ∧ p5 a1 a2 a3 a4 ∧ p6 a1 a2 a3 a4 ∧ p7 a1 a2 a3 a4) (k : ∀ a1, ∀ a2, ∀ a3, ∀ a4, (p1 a1 a2 a3 a4) → (p2 a1 a2 a3 a4) → (p3 a1 a2 a3 a4) → (p4 a1 a2 a3 a4) → (p5 a1 a2 a3 a4) → (p6 a1 a2 a3 a4) → (p7 a1 a2 a3 a4) → G) : G := by
  obtain ⟨a1, a2, a3, a4, h1, h2, h3, h4, h5, h6, h7⟩ := h
  exact k a1 a2 a3 a4 h1 h2 h3 h4 h5 h6 h7
theorem cps_EEEAAAAAAAA {τ1 τ2 τ3 : Type} {p1 : τ1 → τ2 → τ3 → Prop} {p2 : τ1 → τ2 → τ3 → Prop} {p3 : τ1 → τ2 → τ3 → Prop} {p4 : τ1 → τ2 → τ3 → Prop} {p5 : τ1 → τ2 → τ3 → Prop} {p6 : τ1 → τ2 → τ3 → Prop} {p7 : τ1 → τ2 → τ3 → Prop} {p8 : τ1 → τ2 → τ3 → Prop} {p9 : τ1 → τ2 → τ3 → Prop} {G : Prop} (h : ∃ a1, ∃ a2, ∃ a3, p1 a1 a2 a3 ∧ p2 a1 a2 a3 ∧ p3 a1 a2 a3 ∧ p4 a1 a2 a3 ∧ p5 a1 a2 a3 ∧ p6 a1 a2 a3 ∧ p7 a1 a2 a3 ∧ p8 a1 a2 a3 ∧ p9 a1 a2 a3) (k : ∀ a1, ∀ a2, ∀ a3, (p1 a1 a2 a3) → (p2 a1 a2 a3) → (p3 a1 a2 a3) → (p4 a1 a2 a3) → (p5 a1 a2 a3) → (p6 a1 a2 a3) → (p7 a1 a2 a3) → (p8 a1 a2 a3) → (p9 a1 a2 a3) → G) : G := by
  obtain ⟨a1, a2, a3, h1, h2, h3, h4, h5, h6, h7, h8, h9⟩ := h
  exact k a1 a2 a3 h1 h2 h3 h4 h5 h6 h7 h8 h9
theorem cps_EEEEEEAAAAAA {τ1 τ2 τ3 τ4 τ5 τ6 : Type} {p1 : τ1 → τ2 → τ3 → τ4 → τ5 → τ6 → Prop} {p2 : τ1 → τ2 → τ3 → τ4 → τ5 → τ6 → Prop} {p3 : τ1 → τ2 → τ3 → τ4 → τ5 → τ6 → Prop} {p4 : τ1 → τ2 → τ3 → τ4 → τ5 → τ6 → Prop} {p5 : τ1 → τ2 → τ3 → τ4 → τ5 → τ6 → Prop} {p6 : τ1 → τ2 → τ3 → τ4 → τ5 → τ6 → Prop} {p7 : τ1 → τ2 → τ3 → τ4 → τ5 → τ6 → Prop} {G : Prop} (h : ∃ a1, ∃ a2, ∃ a3, ∃ a4, ∃ a5, ∃ a6, p1 a1 a2 a3 a4 a5 a6 ∧ p2 a1 a2 a3 a4 a5 a6 ∧ p3 a1 a2 a3 a4 a5 a6 ∧ p4 a1 a2 a3 a4 a5 a6 ∧ p5 a1 a2 a3 a4 a5 a6 ∧ p6 a1 a2 a3 a4 a5 a6 ∧ p7 a1 a2 a3 a4 a5 a6) (k : ∀ a1, ∀ a2, ∀ a3, ∀ a4, ∀ a5, ∀ a6, (p1 a1 a2 a3 a4 a5 a6) → (p2 a1 a2 a3 a4 a5 a6) → (p3 a1 a2 a3 a4 a5 a6) → (p4 a1 a2 a3 a4 a5 a6) → (p5 a1 a2 a3 a4 a5 a6) → (p6 a1 a2 a3 a4 a5 a6) → (p7 a1 a2 a3 a4 a5 a6) → G) : G := by
  obtain ⟨a1, a2, a3, a4, a5, a6, h1, h2, h3, h4, h5, h6, h7⟩ := h
  exact k a1 a2 a3 a4 a5 a6 h1 h2 h3 h4 h5 h6 h7
theorem cps_EEEEEEAAAAAAAA {τ1 τ2 τ3 τ4 τ5 τ6 : Type} {p1 : τ1 → τ2 → τ3 → τ4 → τ5 → τ6 → Prop} {p2 : τ1 → τ2 → τ3 → τ4 → τ5 → τ6 → Prop} {p3 : τ1 → τ2 → τ3 → τ4 → τ5 → τ6 → Prop} {p4 : τ1 → τ2 → τ3 → τ4 → τ5 → τ6 → Prop} {p5 : τ1 → τ2 → τ3 → τ4 → τ5 → τ6 → Prop} {p6 : τ1 → τ2 → τ3 → τ4 → τ5 → τ6 → Prop} {p7 : τ1 → τ2 → τ3 → τ4 → τ5 → τ6 → Prop} {p8 : τ1 → τ2 → τ3 → τ4 → τ5 → τ6 → Prop} {p9 : τ1 → τ2 → τ3 → τ4 → τ5 → τ6 → Prop} {G : Prop} (h : ∃ a1, ∃ a2, ∃ a3, ∃ a4, ∃ a5, ∃ a6, p1 a1 a2 a3 a4 a5 a6 ∧ p2 a1 a2 a3 a4 a5 a6 ∧ p3 a1 a2 a3 a4 a5 a6 ∧ p4 a1 a2 a3 a4 a5 a6 ∧ p5 a1 a2 a3 a4 a5 a6 ∧ p6 a1 a2 a3 a4 a5 a6 ∧ p7 a1 a2 a3 a4 a5 a6 ∧ p8 a1 a2 a3 a4 a5 a6 ∧ p9 a1 a2 a3 a4 a5 a6) (k : ∀ a1, ∀ a2, ∀ a3, ∀ a4, ∀ a5, ∀ a6, (p1 a1 a2 a3 a4 a5 a6) → (p2 a1 a2 a3 a4 a5 a6) → (p3 a1 a2 a3 a4 a5 a6) → (p4 a1 a2 a3 a4 a5 a6) → (p5 a1 a2 a3 a4 a5 a6) → (p6 a1 a2 a3 a4 a5 a6) → (p7 a1 a2 a3 a4 a5 a6) → (p8 a1 a2 a3 a4 a5 a6) → (p9 a1 a2 a3 a4 a5 a6) → G) : G := by
  obtain ⟨a1, a2, a3, a4, a5, a6, h1, h2, h3, h4, h5, h6, h7, h8, h9⟩ := h
  exact k a1 a2 a3 a4 a5 a6 h1 h2 h3 h4 h5 h6 h7 h8 h9
theorem cps_EEEEEEEEAAAAAA {τ1 τ2 τ3 τ4 τ5 τ6 τ7 τ8 : Type} {p1 : τ1 → τ2 → τ3 → τ4 → τ5 → τ6 → τ7 → τ8 → Prop} {p2 : τ1 → τ2 → τ3 → τ4 → τ5 → τ6 → τ7 → τ8 → Prop} {p3 : τ1 → τ2 → τ3 → τ4 → τ5 → τ6 → τ7 → τ8 → Prop} {p4 : τ1 → τ2 → τ3 → τ4 → τ5 → τ6 → τ7 → τ8 → Prop} {p5 : τ1 → τ2 → τ3 → τ4 → τ5 → τ6 → τ7 → τ8 → Prop} {p6 : τ1 → τ2 → τ3 → τ4 → τ5 → τ6 → τ7 → τ8 → Prop} {p7 : τ1 → τ2 → τ3 → τ4 → τ5 → τ6 → τ7 → τ8 → Prop} {G : Prop} (h : ∃ a1, ∃ a2, ∃ a3, ∃ a4, ∃ a5, ∃ a6, ∃ a7, ∃ a8, p1 a1 a2 a3 a4 a5 a6 a7 a8 ∧ p2 a1 a2 a3 a4 a5 a6 a7 a8 ∧ p3 a1 a2 a3 a4 a5 a6 a7 a8 ∧ p4 a1 a2 a3 a4 a5 a6 a7 a8 ∧ p5 a1 a2 a3 a4 a5 a6 a7 a8 ∧ p6 a1 a2 a3 a4 a5 a6 a7 a8 ∧ p7 a1 a2 a3 a4 a5 a6 a7 a8) (k : ∀ a1, ∀ a2, ∀ a3, ∀ a4, ∀ a5, ∀ a6, ∀ a7, ∀ a8, (p1 a1 a2 a3 a4 a5 a6 a7 a8) → (p2 a1 a2 a3 a4 a5 a6 a7 a8) → (p3 a1 a2 a3 a4 a5 a6 a7 a8) → (p4 a1 a2 a3 a4 a5 a6 a7 a8) → (p5 a1 a2 a3 a4 a5 a6 a7 a8) → (p6 a1 a2 a3 a4 a5 a6 a7 a8) → (p7 a1 a2 a3 a4 a5 a6 a7 a8) → G) : G := by
  obtain ⟨a1, a2, a3, a4, a5, a6, a7, a8, h1, h2, h3, h4, h5, h6, h7⟩ := h
  exact k a1 a2 a3 a4 a5 a6 a7 a8 h1 h2 h3 h4 h5 h6 h7
theorem cps_EEEEEEEEAAAAAAA {τ1 τ2 τ3 τ4 τ5 τ6 τ7 τ8 : Type} {p1 : τ1 → τ2 → τ3 → τ4 → τ5 → τ6 → τ7 → τ8 → Prop} {p2 : τ1 → τ2 → τ3 → τ4 → τ5 → τ6 → τ7 → τ8 → Prop} {p3 : τ1 → τ2 → τ3 → τ4 → τ5 → τ6 → τ7 → τ8 → Prop} {p4 : τ1 → τ2 → τ3 → τ4 → τ5 → τ6 → τ7 → τ8 → Prop} {p5 : τ1 → τ2 → τ3 → τ4 → τ5 → τ6 → τ7 → τ8 → Prop} {p6 : τ1 → τ2 → τ3 → τ4 → τ5 → τ6 → τ7 → τ8 → Prop} {p7 : τ1 → τ2 → τ3 → τ4 → τ5 → τ6 → τ7 → τ8 → Prop} {p8 : τ1 → τ2 → τ3 → τ4 → τ5 → τ6 → τ7 → τ8 → Prop} {G : Prop} (h : ∃ a1, ∃ a2, ∃ a3, ∃ a4, ∃ a5, ∃ a6, ∃ a7, ∃ a8, p1 a1 a2 a3 a4 a5 a6 a7 a8 ∧ p2 a1 a2 a3 a4 a5 a6 a7 a8 ∧ p3 a1 a2 a3 a4 a5 a6 a7 a8 ∧ p4 a1 a2 a3 a4 a5 a6 a7 a8 ∧ p5 a1 a2 a3 a4 a5 a6 a7 a8 ∧ p6 a1 a2 a3 a4 a5 a6 a7 a8 ∧ p7 a1 a2 a3 a4 a5 a6 a7 a8 ∧ p8 a1 a2 a3 a4 a5 a6 a7 a8) (k : ∀ a1, ∀ a2, ∀ a3, ∀ a4, ∀ a5, ∀ a6, ∀ a7, ∀ a8, (p1 a1 a2 a3 a4 a5 a6 a7 a8) → (p2 a1 a2 a3 a4 a5 a6 a7 a8) → (p3 a1 a2 a3 a4 a5 a6 a7 a8) → (p4 a1 a2 a3 a4 a5 a6 a7 a8) → (p5 a1 a2 a3 a4 a5 a6 a7 a8) → (p6 a1 a2 a3 a4 a5 a6 a7 a8) → (p7 a1 a2 a3 a4 a5 a6 a7 a8) → (p8 a1 a2 a3 a4 a5 a6 a7 a8) → G) : G := by
  obtain ⟨a1, a2, a3, a4, a5, a6, a7, a8, h1, h2, h3, h4, h5, h6, h7, h8⟩ := h
  exact k a1 a2 a3 a4 a5 a6 a7 a8 h1 h2 h3 h4 h5 h6 h7 h8
theorem cps_EEEEEEEEAAAAAAAA {τ1 τ2 τ3 τ4 τ5 τ6 τ7 τ8 : Type} {p1 : τ1 → τ2 → τ3 → τ4 → τ5 → τ6 → τ7 → τ8 → Prop} {p2 : τ1 → τ2 → τ3 → τ4 → τ5 → τ6 → τ7 → τ8 → Prop} {p3 : τ1 → τ2 → τ3 → τ4 → τ5 → τ6 → τ7 → τ8 → Prop} {p4 : τ1 → τ2 → τ3 → τ4 → τ5 → τ6 → τ7 → τ8 → Prop} {p5 : τ1 → τ2 → τ3 → τ4 → τ5 → τ6 → τ7 → τ8 → Prop} {p6 : τ1 → τ2 → τ3 → τ4 → τ5 → τ6 → τ7 → τ8 → Prop} {p7 : τ1 → τ2 → τ3 → τ4 → τ5 → τ6 → τ7 → τ8 → Prop} {p8 : τ1 → τ2 → τ3 → τ4 → τ5 → τ6 → τ7 → τ8 → Prop} {p9 : τ1 → τ2 → τ3 → τ4 → τ5 → τ6 → τ7 → τ8 → Prop} {G : Prop} (h : ∃ a1, ∃ a2, ∃ a3, ∃ a4, ∃ a5, ∃ a6, ∃ a7, ∃ a8, p1 a1 a2 a3 a4 a5 a6 a7 a8 ∧ p2 a1 a2 a3 a4 a5 a6 a7 a8 ∧ p3 a1 a2 a3 a4 a5 a6 a7 a8 ∧ p4 a1 a2 a3 a4 a5 a6 a7 a8 ∧ p5 a1 a2 a3 a4 a5 a6 a7 a8 ∧ p6 a1 a2 a3 a4 a5 a6 a7 a8 ∧ p7 a1 a2 a3 a4 a5 a6 a7 a8 ∧ p8 a1 a2 a3 a4 a5 a6 a7 a8 ∧ p9 a1 a2 a3 a4 a5 a6 a7 a8) (k : ∀ a1, ∀ a2, ∀ a3, ∀ a4, ∀ a5, ∀ a6, ∀ a7, ∀ a8, (p1 a1 a2 a3 a4 a5 a6 a7 a8) → (p2 a1 a2 a3 a4 a5 a6 a7 a8) → (p3 a1 a2 a3 a4 a5 a6 a7 a8) → (p4 a1 a2 a3 a4 a5 a6 a7 a8) → (p5 a1 a2 a3 a4 a5 a6 a7 a8) → (p6 a1 a2 a3 a4 a5 a6 a7 a8) → (p7 a1 a2 a3 a4 a5 a6 a7 a8) → (p8 a1 a2 a3 a4 a5 a6 a7 a8) → (p9 a1 a2 a3 a4 a5 a6 a7 a8) → G) : G := by
  obtain ⟨a1, a2, a3, a4, a5, a6, a7, a8, h1, h2, h3, h4, h5, h6, h7, h8, h9⟩ := h
  exact k a1 a2 a3 a4 a5 a6 a7 a8 h1 h2 h3 h4 h5 h6 h7 h8 h9
theorem cps_AAAAAAAAAAAAAAAAA {p1 : Prop} {p2 : Prop} {p3 : Prop} {p4 : Prop} {p5 : Prop} {p6 : Prop} {p7 : Prop} {p8 : Prop} {p9 : Prop} {p10 : Prop} {p11 : Prop} {p12 : Prop} {p13 : Prop} {p14 : Prop} {p15 : Prop} {p16 : Prop} {p17 : Prop} {p18 : Prop} {G : Prop} (h : p1 ∧ p2 ∧ p3 ∧ p4 ∧ p5 ∧ p6 ∧ p7 ∧ p8 ∧ p9 ∧ p10 ∧ p11 ∧ p12 ∧ p13 ∧ p14 ∧ p15 ∧ p16 ∧ p17 ∧ p18) (k : (p1) → (p2) → (p3) → (p4) → (p5) → (p6) → (p7) → (p8) → (p9) → (p10) → (p11) → (p12) → (p13) → (p14) → (p15) → (p16) → (p17) → (p18) → G) : G := by
  obtain ⟨h1, h2, h3, h4, h5, h6, h7, h8, h9, h10, h11, h12, h13, h14, h15, h16, h17, h18⟩ := h
  exact k h1 h2 h3 h4 h5 h6 h7 h8 h9 h10 h11 h12 h13 h14 h15 h16 h17 h18
theorem cps_EEEEEEAAAAAAAAAAA {τ1 τ2 τ3 τ4 τ5 τ6 : Type} {p1 : τ1 → τ2 → τ3 → τ4 → τ5 → τ6 → Prop} {p2 : τ1 → τ2 → τ3 → τ4 → τ5 → τ6 → Prop} {p3 : τ1 → τ2 → τ3 → τ4 → τ5 → τ6 → Prop} {p4 : τ1 → τ2 → τ3 → τ4 → τ5 → τ6 → Prop} {p5 : τ1 → τ2 → τ3 → τ4 → τ5 → τ6 → Prop} {p6 : τ1 → τ2 → τ3 → τ4 → τ5 → τ6 → Prop} {p7 : τ1 → τ2 → τ3 → τ4 → τ5 → τ6 → Prop} {p8 : τ1 → τ2 → τ3 → τ4 → τ5 → τ6 → Prop} {p9 : τ1 → τ2 → τ3 → τ4 → τ5 → τ6 → Prop} {p10 : τ1 → τ2 → τ3 → τ4 → τ5 → τ6 → Prop} {p11 : τ1 → τ2 → τ3 → τ4 → τ5 → τ6 → Prop} {p12 : τ1 → τ2 → τ3 → τ4 → τ5 → τ6 → Prop} {G : Prop} (h : ∃ a1, ∃ a2, ∃ a3, ∃ a4, ∃ a5, ∃ a6, p1 a1 a2 a3 a4 a5 a6 ∧ p2 a1 a2 a3 a4 a5 a6 ∧ p3 a1 a2 a3 a4 a5 a6 ∧ p4 a1 a2 a3 a4 a5 a6 ∧ p5 a1 a2 a3 a4 a5 a6 ∧ p6 a1 a2 a3 a4 a5 a6 ∧ p7 a1 a2 a3 a4 a5 a6 ∧ p8 a1 a2 a3 a4 a5 a6 ∧ p9 a1 a2 a3 a4 a5 a6 ∧ p10 a1 a2 a3 a4 a5 a6 ∧ p11 a1 a2 a3 a4 a5 a6 ∧ p12 a1 a2 a3 a4 a5 a6) (k : ∀ a1, ∀ a2, ∀ a3, ∀ a4, ∀ a5, ∀ a6, (p1 a1 a2 a3 a4 a5 a6) → (p2 a1 a2 a3 a4 a5 a6) → (p3 a1 a2 a3 a4 a5 a6) → (p4 a1 a2 a3 a4 a5 a6) → (p5 a1 a2 a3 a4 a5 a6) → (p6 a1 a2 a3 a4 a5 a6) → (p7 a1 a2 a3 a4 a5 a6) → (p8 a1 a2 a3 a4 a5 a6) → (p9 a1 a2 a3 a4 a5 a6) → (p10 a1 a2 a3 a4 a5 a6) → (p11 a1 a2 a3 a4 a5 a6) → (p12 a1 a2 a3 a4 a5 a6) → G) : G := by
  obtain ⟨a1, a2, a3, a4, a5, a6, h1, h2, h3, h4, h5, h6, h7, h8, h9, h10, h11, h12⟩ := h
  exact k a1 a2 a3 a4 a5 a6 h1 h2 h3 h4 h5 h6 h7 h8 h9 h10 h11 h12
theorem cps_AAAAAAAAAAAAAAAAAA {p1 : Prop} {p2 : Prop} {p3 : Prop} {p4 : Prop} {p5 : Prop} {p6 : Prop} {p7 : Prop} {p8 : Prop} {p9 : Prop} {p10 : Prop} {p11 : Prop} {p12 : Prop} {p13 : Prop} {p14 : Prop} {p15 : Prop} {p16 : Prop} {p17 : Prop} {p18 : Prop} {p19 : Prop} {G : Prop} (h : p1 ∧ p2 ∧ p3 ∧ p4 ∧ p5 ∧ p6 ∧ p7 ∧ p8 ∧ p9 ∧ p10 ∧ p11 ∧ p12 ∧ p13 ∧ p14 ∧ p15 ∧ p16 ∧ p17 ∧ p18 ∧ p19) (k : (p1) → (p2) → (p3) → (p4) → (p5) → (p6) → (p7) → (p8) → (p9) → (p10) → (p11) → (p12) → (p13) → (p14) → (p15) → (p16) → (p17) → (p18) → (p19) → G) : G := by
  obtain ⟨h1, h2, h3, h4, h5, h6, h7, h8, h9, h10, h11, h12, h13, h14, h15, h16, h17, h18, h19⟩ := h
  exact k h1 h2 h3 h4 h5 h6 h7 h8 h9 h10 h11 h12 h13 h14 h15 h16 h17 h18 h19
theorem cps_EEEEEEEEEEEEEEEEEAAA {τ1 τ2 τ3 τ4 τ5 τ6 τ7 τ8 τ9 τ10 τ11 τ12 τ13 τ14 τ15 τ16 τ17 : Type} {p1 : τ1 → τ2 → τ3 → τ4 → τ5 → τ6 → τ7 → τ8 → τ9 → τ10 → τ11 → τ12 → τ13 → τ14 → τ15 → τ16 → τ17 → Prop} {p2 : τ1 → τ2 → τ3 → τ4 → τ5 → τ6 → τ7 → τ8 → τ9 → τ10 → τ11 → τ12 → τ13 → τ14 → τ15 → τ16 → τ17 → Prop} {p3 : τ1 → τ2 → τ3 → τ4 → τ5 → τ6 → τ7 → τ8 → τ9 → τ10 → τ11 → τ12 → τ13 → τ14 → τ15 → τ16 → τ17 → Prop} {p4 : τ1 → τ2 → τ3 → τ4 → τ5 → τ6 → τ7 → τ8 → τ9 → τ10 → τ11 → τ12 → τ13 → τ14 → τ15 → τ16 → τ17 → Prop} {G : Prop} (h : ∃ a1, ∃ a2, ∃ a3, ∃ a4, ∃ a5, ∃ a6, ∃ a7, ∃ a8, ∃ a9, ∃ a10, ∃ a11, ∃ a12, ∃ a13, ∃ a14, ∃ a15, ∃ a16, ∃ a17, p1 a1 a2 a3 a4 a5 a6 a7 a8 a9 a10 a11 a12 a13 a14 a15 a16 a17 ∧ p2 a1 a2 a3 a4 a5 a6 a7 a8 a9 a10 a11 a12 a13 a14 a15 a16 a17 ∧ p3 a1 a2 a3 a4 a5 a6 a7 a8 a9 a10 a11 a12 a13 a14 a15 a16 a17 ∧ p4 a1 a2 a3 a4 a5 a6 a7 a8 a9 a10 a11 a12 a13 a14 a15 a16 a17) (k : ∀ a1, ∀ a2, ∀ a3, ∀ a4, ∀ a5, ∀ a6, ∀ a7, ∀ a8, ∀ a9, ∀ a10, ∀ a11, ∀ a12, ∀ a13, ∀ a14, ∀ a15, ∀ a16, ∀ a17, (p1 a1 a2 a3 a4 a5 a6 a7 a8 a9 a10 a11 a12 a13 a14 a15 a16 a17) → (p2 a1 a2 a3 a4 a5 a6 a7 a8 a9 a10 a11 a12 a13 a14 a15 a16 a17) → (p3 a1 a2 a3 a4 a5 a6 a7 a8 a9 a10 a11 a12 a13 a14 a15 a16 a17) → (p4 a1 a2 a3 a4 a5 a6 a7 a8 a9 a10 a11 a12 a13 a14 a15 a16 a17) → G) : G := by
  obtain ⟨a1, a2, a3, a4, a5, a6, a7, a8, a9, a10, a11, a12, a13, a14, a15, a16, a17, h1, h2, h3, h4⟩ := h
  exact k a1 a2 a3 a4 a5 a6 a7 a8 a9 a10 a11 a12 a13 a14 a15 a16 a17 h1 h2 h3 h4
theorem stop_here {p : Prop} (h : Stop p) : p := h.go

@[reducible] noncomputable def mkA (d u : Nat) (outer : List Env) : Around := { handled := none, depth := d, frames := some outer, guards := some [], units := u }

structure Cx (w : World) (n : Nat) (A : Around) (b : Heap) : Prop where
  below : ∃ base outer, Below A base outer b
  hand : A.handled = none
  guards : A.guards = some []
  depth : A.depth + n ≤ 900
  units : A.units + 20 * n ≤ 9000
  kin : (hd.heap_39 w.params).In b
  top : ∃ loose mean mg mb, Top hd.view_39 loose mean mg mb b

theorem below_keeps {A : Around} {base b b' : Heap} {outer : List Env} (B : Below A base outer b) (k : b.StaysIn b') : Below A base outer b' :=
  ⟨B.stack, fun x o e => k x o (B.stays x o e), B.frames.of_keeps fun x o e _ => ⟨o, k x o e, rfl⟩⟩

theorem Cx.is {w : World} {n : Nat} {A : Around} {b : Heap} (C : Cx w n A b) : ∃ base outer d u, A = mkA d u outer ∧ Below A base outer b ∧ d + n ≤ 900 ∧ u + 20 * n ≤ 9000 := by
  obtain ⟨base, outer, B⟩ := C.below
  obtain ⟨hd, d, fr, gs, u⟩ := A
  have h1 := C.hand
  have h2 := C.guards
  have h3 := B.stack
  simp only at h1 h2 h3
  subst h1 h2 h3
  exact ⟨base, outer, d, u, rfl, B, C.depth, C.units⟩

inductive RetI (h : Heap) (gs : Array GenState) (d : Drawn) (os : OsState) (foot : List Addr) (P : Value → Heap → Prop) (r : Result) (s' : Shared) : Prop
  | mk (v : Value) (h' : Heap) (tk : Tok) (e1 : r = .ok (.ret v)) (e2 : s' = ⟨h', gs, d, tk, os⟩) (k : ∀ b o, h.get? b = some o → b ∉ foot → h'.get? b = some o) (p : P v h')
@[reducible] noncomputable def Ret (s : Shared) (foot : List Addr) (P : Value → Heap → Prop) (r : Result) (s' : Shared) : Prop := RetI s.heap s.gens s.drawn s.os foot P r s'

theorem cps_Ret {h : Heap} {gs : Array GenState} {d : Drawn} {os : OsState} {foot : List Addr} {P : Value → Heap → Prop} {r : Result} {s' : Shared} {G : Prop} (z : RetI h gs d os foot P r s')
    (k : ∀ v h' tk, r = .ok (.ret v) → s' = ⟨h', gs, d, tk, os⟩ → (∀ b o, h.get? b = some o → b ∉ foot → h'.get? b = some o) → P v h' → G) : G := by
  cases z with | mk v h' tk a b c e => exact k v h' tk a b c e

theorem enterQ {w : World} {n : Nat} {A : Around} {b : Heap} {s : Shared} {news : List (Addr × Obj)} {R : Result → Shared → Prop}
    {name qual : Str} {params : Arguments} {body : List Stmt} {scope : Scope} {dV kV doc pm cdv ct oc : Value} {an od : Option Addr} {osl : Array (Option Value)} {f : Addr} {args : Args} {binds : List (Str × Value)}
    (C : Cx w (n + 2) A b) (kb : b.StaysIn s.heap) (hn : ∀ p ∈ news, s.heap.get? p.1 = some p.2 ∧ b.get? p.1 = none)
    (ho : (hd.heap_39 w.params).lookup f = some ⟨oc, od, .func (fnOf name qual params body scope dV kV doc pm an cdv ct), osl⟩) (hcd : codeIn (hd.heap_39 w.params) cdv qual = true)
    (hbind : BindsTo s (fnOf name qual params body scope dV kV doc pm an cdv ct) args binds) (hloc : ∀ y ∈ binds, scope.names.lookup y.1 = some .local)
    (h : ∀ g h₁ base outer d u loose mean mg mb, Fr g s.heap.objs.size h₁ (fun y => binds.reverse.lookup y) → News g s.heap.objs.size h₁ news → Below (mkA d u outer) base outer g → (hd.heap_39 w.params).In g → Top hd.view_39 loose mean mg mb g →
      b.StaysIn g → d + n + 2 ≤ 900 → u + 20 * n + 40 ≤ 9000 → (∀ x o, s.heap.get? x = some o → x ∉ news.map (·.1) → g.get? x = some o) → g.StaysIn s.heap →
      (∀ p ∈ news, p.1 < s.heap.objs.size) → s.heap.StaysIn h₁ →
      wpAny (model PP w) ((mkA d u outer).deeper (envOf qual scope s.heap.objs.size f cdv)) (execs body (envOf qual scope s.heap.objs.size f cdv))
        (fun fl s' => R (.ok (.ret (match fl with | .ret v => v | _ => .none))) s') (fun _ _ => False)
        { s with heap := h₁, toks := s.toks + binds.length })
    (hco : scope.isCoroutine = false) (hgen : scope.isGenerator = false) (hk : scope.kind = .function)
    (hcell : ∀ x ∈ scope.names, x.2 ≠ .cell) : codeAny (model PP w) A (.call (.ref f) args) R s := by
  obtain ⟨base, outer, d, u, rfl, B, hd, hu⟩ := C.is
  obtain ⟨loose, mean, mg, mb, T⟩ := C.top
  have X := C.kin.keeps kb
  refine codeAny_call_def (fd := fnOf name qual params body scope dV kV doc pm an cdv ct) (body := body) (binds := binds) (by show d < 1000; omega) (X _ _ ho) rfl (T.nolimit.keeps kb) (codeRec_of X hcd) rfl hbind hcell hloc (fun h₁ hns hk₁ => ?_) hco hgen hk
  have nm : ∀ x o, b.get? x = some o → x ∉ news.map (·.1) := fun x o e q => by
    obtain ⟨p, hp, rfl⟩ := List.mem_map.mp q
    rw [(hn p hp).2] at e; cases e
  have st : b.StaysIn (hideAll s.heap (news.map (·.1))) := fun x o e => hideAll_get _ (kb x o e) (nm x o e)
  exact wpAny_mono (h _ h₁ base outer d u loose mean mg mb ⟨hns, fun x o e => hk₁ x o (of_hideAll _ e), Nat.le_of_eq (hideAll_size _ _)⟩
    (fun p hp => ⟨hk₁ _ _ (hn p hp).1, Nat.ne_of_lt (Heap.lt_size (hn p hp).1), hideAll_none _ (List.mem_map_of_mem hp)⟩) (below_keeps B st) (C.kin.keeps st) (T.keeps st) st hd (by omega)
    (fun x o e q => hideAll_get _ e q) (fun x o e => of_hideAll _ e) (fun p hp => Heap.lt_size (hn p hp).1) hk₁) (fun _ _ x => x) fun _ _ x => x.elim

noncomputable def cut (h : Heap) (L : Addr) : Heap := ⟨h.objs.extract 0 L, h.life⟩
theorem cut_get {h : Heap} {L b : Addr} {o : Obj} : (cut h L).get? b = some o ↔ b < L ∧ h.get? b = some o := by
  have key : (h.objs.extract 0 L)[b]? = if @LT.lt Nat _ b L then h.objs[b]? else none := by
    rw [Array.getElem?_extract, Nat.sub_zero, Nat.zero_add]
    by_cases hb : @LT.lt Nat _ b L
    · rw [if_pos hb]
      by_cases hs : @LT.lt Nat _ b h.objs.size
      · rw [if_pos (Nat.lt_min.mpr ⟨hb, hs⟩)]
      · rw [if_neg (fun q => hs (Nat.lt_min.mp q).2), Array.getElem?_eq_none (Nat.not_lt.mp hs)]
    · rw [if_neg hb, if_neg (fun q => hb (Nat.lt_min.mp q).1)]
  unfold cut Heap.get?
  dsimp only
  rw [key]
  by_cases hb : @LT.lt Nat _ b L
  · rw [if_pos hb]; exact ⟨fun e => ⟨hb, e⟩, fun e => e.2⟩
  · rw [if_neg hb]; exact Iff.intro (fun e => nomatch e) (fun e => absurd e.1 hb)

theorem rebase {g h : Heap} {L : Addr} {m : Str → Option Value} (F : Fr g L h m) (touched : List (Addr × Obj)) (ht : ∀ p ∈ touched, h.get? p.1 = some p.2 ∧ p.1 ≠ L ∧ g.get? p.1 = none) :
    ∃ g', Fr g' L h m ∧ News g' L h touched ∧ g.StaysIn g' ∧ (∀ b o, b < L → h.get? b = some o → b ∉ touched.map (·.1) → g'.get? b = some o) ∧ (∀ b o, g'.get? b = some o → h.get? b = some o ∧ b < L) := by
  have notin : ∀ b o, g.get? b = some o → b ∉ touched.map (·.1) := fun b o e q => by
    obtain ⟨p, hp, rfl⟩ := List.mem_map.mp q
    rw [(ht p hp).2.2] at e; cases e
  have gl : ∀ b o, g.get? b = some o → b < L := fun b o e => Nat.lt_of_lt_of_le (Heap.lt_size e) F.above
  refine ⟨hideAll (cut h L) (touched.map (·.1)), ⟨F.ns, fun b o e => (cut_get.mp (of_hideAll _ e)).2, ?_⟩, fun p hp => ⟨(ht p hp).1, (ht p hp).2.1, hideAll_none _ (List.mem_map_of_mem hp)⟩,
    fun b o e => hideAll_get _ (cut_get.mpr ⟨gl b o e, F.keep b o e⟩) (notin b o e), fun b o hb e q => hideAll_get _ (cut_get.mpr ⟨hb, e⟩) q, fun b o e => let z := cut_get.mp (of_hideAll _ e); ⟨z.2, z.1⟩⟩
  rw [hideAll_size]
  show (h.objs.extract 0 L).size ≤ L
  rw [Array.size_extract, Nat.sub_zero]; exact Nat.min_le_left _ _

theorem fr_down {g g' h h' : Heap} {L : Addr} {m m' : Str → Option Value} (F : Fr g L h m) (F' : Fr g' L h' m') (k : g.StaysIn g') : Fr g L h' m' := ⟨F'.ns, fun b o e => F'.keep b o (k b o e), F.above⟩

theorem fr_but1 {g h h' : Heap} {L I : Addr} {m : Str → Option Value} (F : Fr g L h m) (hL : I ≠ L) (hI : g.get? I = none) (k : ∀ b o, b ≠ I → h.get? b = some o → h'.get? b = some o) : Fr g L h' m :=
  ⟨F.ns.at' fun o e => k _ o (Ne.symm hL) e, fun b o e => k b o (fun q => by rw [q, hI] at e; cases e) (F.keep b o e), F.above⟩

theorem for_stmt {w : World} {A : Around} {env : Env} {s : Shared} {target iter : Expr} {body : List Stmt} {pos : Pos} {Q : Flow → Shared → Prop}
    (h : wpAny (model PP w) A (eval iter env) (fun x s₁ => wpAny (model PP w) A (pyIter x) (fun it s₂ =>
      codeAny (model PP w) A (.forLoop target it body [] env) (fun r s' => match r with | .ok f => Q f s' | .error _ => False) s₂) (fun _ _ => False) s₁) (fun _ _ => False) s)
    (hs : ∀ x, foldedSetIterable iter env x = pure x := by intro _; rfl) :
    wpAny (model PP w) A (exec (.For target iter body [] pos) env) Q (fun _ _ => False) s :=
  wpAny_For (wpAny_mono h (fun _ _ z => wpAny_mono z (fun _ _ z => codeAny_mono z fun r s' z => by cases r with | ok f => exact z | error e => exact z.elim) fun _ _ z => z) fun _ _ z => z) hs

theorem ne_of_allLt {d : Addr} {l : List (Addr × Obj)} (h : AllLt d l) : ∀ p ∈ l, p.1 ≠ d := by
  induction l with
  | nil => exact fun _ h => nomatch h
  | cons q l ih =>
    obtain ⟨h1, h2⟩ := h
    intro p hp
    rcases List.mem_cons.mp hp with rfl | hp
    · exact Nat.ne_of_lt h1
    · exact ih h2 p hp

theorem cx_call {w : World} {n d u : Nat} {outer : List Env} {base g h : Heap} {L a : Addr} {m : Str → Option Value} {name : Str} {scope : Scope} {cd : Value} {news : List (Addr × Obj)}
    {loose : List Str} {mean : ExcName → Option Value} {mg mb : Str → Option Value}
    (B : Below (mkA d u outer) base outer g) (F : Fr g L h m) (N : News g L h news) (X : (hd.heap_39 w.params).In g) (T : Top hd.view_39 loose mean mg mb g)
    (hd' : d + 1 + n ≤ 900) (hu : u + 3 + 20 * n ≤ 9000) (hk : scope.kind = .function := by rfl) :
    Cx w n ((mkA d u outer).deeper (envOf name scope L a cd)) (hideAll h (news.map (·.1))) ∧ (hideAll h (news.map (·.1))).StaysIn h ∧ (∀ p ∈ news, h.get? p.1 = some p.2 ∧ (hideAll h (news.map (·.1))).get? p.1 = none) := by
  have nm : ∀ b o, g.get? b = some o → b ∉ news.map (·.1) := fun b o e q => by
    obtain ⟨p, hp, rfl⟩ := List.mem_map.mp q
    rw [(N p hp).2.2] at e; cases e
  have st : g.StaysIn (hideAll h (news.map (·.1))) := fun b o e => hideAll_get _ (F.keep b o e) (nm b o e)
  obtain ⟨oL, es, ep, hL, hLd, hLk, hLf⟩ := F.ns
  have nL : L ∉ news.map (·.1) := fun q => by
    obtain ⟨p, hp, e⟩ := List.mem_map.mp q
    exact (N p hp).2.1 e
  have B₁ := B.push (name := name) (scope := scope) (a := a) (cd := cd) F hk
  have BG : Below ((mkA d u outer).deeper (envOf name scope L a cd)) base (envOf name scope L a cd :: outer) (hideAll h (news.map (·.1))) := ⟨B₁.stack, fun b o e => st b o (B.stays b o e), funFrames_hideAll B₁.frames fun env he b hb hf => by
    cases he with
    | head => exact nL ((Option.some.inj hf : L = b) ▸ hb)
    | tail _ he =>
      obtain ⟨L₁, o₁, hf₁, ho₁⟩ := funFrames_in B.frames env he
      rw [hf₁] at hf
      exact nm L₁ o₁ ho₁ ((Option.some.inj hf : L₁ = b) ▸ hb)⟩
  exact ⟨⟨⟨base, _, BG⟩, rfl, rfl, hd', hu, X.keeps st, loose, mean, mg, mb, T.keeps st⟩, fun x o e => of_hideAll _ e, fun p hp => ⟨(N p hp).1, hideAll_none _ (List.mem_map_of_mem hp)⟩⟩

theorem fr_keep {g h h' : Heap} {L : Addr} {m : Str → Option Value} {foot : List Addr} (F : Fr g L h m) (k : ∀ b o, h.get? b = some o → b ∉ foot → h'.get? b = some o) (hf : ∀ a ∈ foot, a ≠ L ∧ g.get? a = none) : Fr g L h' m :=
  ⟨F.ns.at' fun o e => k _ o e fun q => (hf _ q).1 rfl, fun b o e => k b o (F.keep b o e) (fun q => by rw [(hf _ q).2] at e; cases e), F.above⟩

theorem use_spec {w : World} {A : Around} {s : Shared} {f : Value} {args : List Value} {foot : List Addr} {P : Value → Heap → Prop} {Q : Value → Shared → Prop} {E : Value → Shared → Prop}
    (sp : codeAny (model PP w) A (.call f ⟨args, []⟩) (Ret s foot P) s)
    (h : ∀ v h' tk, (∀ b o, s.heap.get? b = some o → b ∉ foot → h'.get? b = some o) → P v h' → Q v { s with heap := h', toks := tk }) : wpAny (model PP w) A (call f args) Q E s := by
  refine wpAny_call (codeAny_mono sp fun r s' z => ?_)
  obtain ⟨v, h', tk, rfl, rfl, k, hP⟩ := z
  exact h v h' tk k hP

theorem peek1_push {α : Type} {K : Frag} {M : Model} {A : Around} {E : Value → Shared → Prop} {Q : α → Shared → Prop} {s : Shared} {o : Obj} {r : Addr → α}
    (X : K.In s.heap) (q : Q (r s.heap.objs.size) { s with heap := s.heap.push o }) :
    ∀ (t : Sem α) (g : Addr → Option α), peek1 K ⟨M.prog, M.w.params⟩ t = some (o, g) → (∀ D, g D = some (r D)) → wpAny M A t Q E s := by
  intro t
  induction t with
  | rule _ k ih => intro g e hg Γ p hΓ; exact ih () g e hg Γ p hΓ
  | point _ k ih => intro g e hg Γ p hΓ; exact ih () g e hg Γ p hΓ
  | ask k ih => intro g e hg Γ p hΓ; exact ih _ g e hg Γ p hΓ
  | load a _ k ih =>
    intro g e hg Γ p hΓ
    simp only [peek1] at e
    split at e
    · rename_i ob ho; exact ⟨ob, X _ _ ho, ih ob g e hg Γ p hΓ⟩
    · cases e
  | alloc ob k _ =>
    intro g e hg
    have e : some (ob, fun D => peek K ⟨M.prog, M.w.params⟩ (k D)) = some (o, g) := e
    obtain ⟨e1, e2⟩ := Prod.mk.inj (Option.some.inj e)
    subst e1
    subst e2
    have X' : K.In (s.heap.push ob) := X.keeps fun b x hb => Heap.get?_push_of_some _ hb
    show wpAny M A (alloc ob >>= k) Q E s
    refine wpAny_bind (wpAny_alloc ?_)
    exact (Looks.of_peek (M := M) (h := s.heap.push ob) X' (hg s.heap.objs.size)).here (s := { s with heap := s.heap.push ob }) q
  | _ => intro g e; cases e

theorem enterV {w : World} {n : Nat} {A : Around} {b : Heap} {s : Shared} {news : List (Addr × Obj)} {R : Result → Shared → Prop}
    {name qual : Str} {params : Arguments} {body : List Stmt} {scope : Scope} {dV kV doc pm cdv ct oc : Value} {an od : Option Addr} {osl : Array (Option Value)} {f : Addr} {args : Args} {vs : List Value} {g₁ : Addr → Option (List (Str × Value))} {binds : Addr → List (Str × Value)}
    (C : Cx w (n + 2) A b) (kb : b.StaysIn s.heap) (hn : ∀ p ∈ news, s.heap.get? p.1 = some p.2 ∧ b.get? p.1 = none)
    (ho : (hd.heap_39 w.params).lookup f = some ⟨oc, od, .func (fnOf name qual params body scope dV kV doc pm an cdv ct), osl⟩) (hcd : codeIn (hd.heap_39 w.params) cdv qual = true)
    (hv : args.pos.drop (params.posonlyargs.length + params.args.length) = vs)
    (hp : peek1 (hd.heap_39 w.params) ⟨PP, w.params⟩ (bindArgs (fnOf name qual params body scope dV kV doc pm an cdv ct) args) = some (({ cls := .type "tuple", data := .seq vs.toArray } : Obj), g₁))
    (hg : ∀ D, g₁ D = some (binds D)) (hloc : ∀ D, ∀ y ∈ binds D, scope.names.lookup y.1 = some .local)
    (h : ∀ D L g h₁ base outer d u loose mean mg mb, Fr g L h₁ (fun y => (binds D).reverse.lookup y) → News g L h₁ ((D, ({ cls := .type "tuple", data := .seq vs.toArray } : Obj)) :: news) → Below (mkA d u outer) base outer g → (hd.heap_39 w.params).In g → Top hd.view_39 loose mean mg mb g →
      b.StaysIn g → d + n + 2 ≤ 900 → u + 20 * n + 40 ≤ 9000 → (∀ x o, s.heap.get? x = some o → x ∉ news.map (·.1) → g.get? x = some o) → g.StaysIn s.heap →
      (∀ p ∈ news, p.1 < D) → s.heap.get? D = none → s.heap.get? L = none →
      wpAny (model PP w) ((mkA d u outer).deeper (envOf qual scope L f cdv)) (execs body (envOf qual scope L f cdv))
        (fun fl s' => R (.ok (.ret (match fl with | .ret v => v | _ => .none))) s') (fun _ _ => False)
        { s with heap := h₁, toks := s.toks + (binds D).length })
    (hco : scope.isCoroutine = false) (hgen : scope.isGenerator = false) (hk : scope.kind = .function)
    (hcell : ∀ x ∈ scope.names, x.2 ≠ .cell) : codeAny (model PP w) A (.call (.ref f) args) R s := by
  have _ := hv
  obtain ⟨base, outer, d, u, rfl, B, hd, hu⟩ := C.is
  obtain ⟨loose, mean, mg, mb, T⟩ := C.top
  have X := C.kin.keeps kb
  refine codeAny_call_function (fd := fnOf name qual params body scope dV kV doc pm an cdv ct) (body := body) (by show d < 1000; omega) (X _ _ ho) rfl hco hgen rfl (codeRec_of X hcd) ?_
  refine peek1_push (o := ({ cls := .type "tuple", data := .seq vs.toArray } : Obj)) X (r := binds) ?_ _ g₁ hp hg
  generalize hD : s.heap.objs.size = D
  generalize hH : s.heap.push ({ cls := .type "tuple", data := .seq vs.toArray } : Obj) = H
  have hS : H.objs.size = D + 1 := by rw [← hH, Heap.size_push, hD]
  have up : s.heap.StaysIn H := fun b o e => hH ▸ Heap.get?_push_of_some _ e
  have hDo : H.get? D = some ({ cls := .type "tuple", data := .seq vs.toArray } : Obj) := by rw [← hH, ← hD]; exact Heap.get?_push_size _ rfl
  have new : ∀ a, D ≤ a → s.heap.get? a = none := fun a ha => by
    cases e : s.heap.get? a with
    | none => rfl
    | some o => exact absurd (Heap.lt_size e) (Nat.not_lt.mpr (hD ▸ ha))
  refine wpAny_newFunctionEnv hcell (hloc D) (fun h₁ hns hsb => ⟨((T.nolimit.keeps kb).keeps up).fresh _ hsb, codeAny_func ?_⟩) hk
  have hk₁ : ∀ b o, H.get? b = some o → h₁.get? b = some o := fun b o e => hsb.extBut b o (Nat.ne_of_lt (Heap.lt_size e)) (Heap.get?_push_of_some _ e)
  show wpAny (model PP w) ((mkA d u outer).deeper (envOf qual scope H.objs.size f cdv)) (execs body (envOf qual scope H.objs.size f cdv)) _ _ _
  have nm : ∀ x o, b.get? x = some o → x ∉ news.map (·.1) := fun x o e q => by
    obtain ⟨p, hp, rfl⟩ := List.mem_map.mp q
    rw [(hn p hp).2] at e; cases e
  have st : b.StaysIn (hideAll s.heap (news.map (·.1))) := fun x o e => hideAll_get _ (kb x o e) (nm x o e)
  rw [hS]
  exact wpAny_mono (h D (D + 1) _ h₁ base outer d u loose mean mg mb ⟨hS ▸ hns, fun x o e => hk₁ x o (up x o (of_hideAll _ e)), by rw [hideAll_size, hD]; exact Nat.le_succ _⟩
    (fun p hp => by
      rcases List.mem_cons.mp hp with rfl | hp
      · refine ⟨hk₁ _ _ hDo, Nat.ne_of_lt (Nat.lt_succ_self _), ?_⟩
        cases e : (hideAll s.heap (news.map (·.1))).get? D with
        | none => rfl
        | some o => have := of_hideAll _ e; rw [new D (Nat.le_refl _)] at this; cases this
      · exact ⟨hk₁ _ _ (up _ _ (hn p hp).1), Nat.ne_of_lt (Nat.lt_succ_of_lt (hD ▸ Heap.lt_size (hn p hp).1)), hideAll_none _ (List.mem_map_of_mem hp)⟩)
    (below_keeps B st) (C.kin.keeps st) (T.keeps st) st hd (by omega)
    (fun x o e q => hideAll_get _ e q) (fun x o e => of_hideAll _ e) (fun p hp => hD ▸ Heap.lt_size (hn p hp).1) (new D (Nat.le_refl _)) (new _ (Nat.le_succ _))) (fun _ _ x => x) fun _ _ x => x.elim

theorem bind_var {fd : FuncData} {a b : Arg} {x : Value} {vs : List Value} (hp : fd.params = { posonlyargs := [], args := [a], vararg := some b, kwonlyargs := [], kw_defaults := [], kwarg := none, defaults := [] }) (hd : fd.defaults = .none) :
    bindArgs fd ⟨x :: vs, []⟩ = (newTuple vs >>= fun t => pure [(a.arg, x), (b.arg, t)]) := by
  unfold bindArgs
  rw [hp, hd]
  have e1 : (List.lookup a.arg [(a.arg, x)]) = some x := by simp [List.lookup]
  simp [e1, seqItems?, List.zip, List.filterMap]
  rfl

theorem enterW {w : World} {n : Nat} {A : Around} {b : Heap} {s : Shared} {news : List (Addr × Obj)} {R : Result → Shared → Prop}
    {name qual : Str} {params : Arguments} {body : List Stmt} {scope : Scope} {dV kV doc pm cdv ct oc : Value} {an od : Option Addr} {osl : Array (Option Value)} {f : Addr} {args : Args} {vs : List Value} {bindv : Value → List (Str × Value)}
    (C : Cx w (n + 2) A b) (kb : b.StaysIn s.heap) (hn : ∀ p ∈ news, s.heap.get? p.1 = some p.2 ∧ b.get? p.1 = none)
    (ho : (hd.heap_39 w.params).lookup f = some ⟨oc, od, .func (fnOf name qual params body scope dV kV doc pm an cdv ct), osl⟩) (hcd : codeIn (hd.heap_39 w.params) cdv qual = true)
    (hb : bindArgs (fnOf name qual params body scope dV kV doc pm an cdv ct) args = (newTuple vs >>= fun t => pure (bindv t))) (hsz : vs.length ≤ sizeLine) (hloc : ∀ D, ∀ y ∈ bindv D, scope.names.lookup y.1 = some .local)
    (h : ∀ D L g h₁ base outer d u loose mean mg mb, Fr g L h₁ (fun y => (bindv (.ref D)).reverse.lookup y) → News g L h₁ ((D, ({ cls := .type "tuple", data := .seq vs.toArray } : Obj)) :: news) → Below (mkA d u outer) base outer g → (hd.heap_39 w.params).In g → Top hd.view_39 loose mean mg mb g →
      b.StaysIn g → d + n + 2 ≤ 900 → u + 20 * n + 40 ≤ 9000 → (∀ x o, s.heap.get? x = some o → x ∉ news.map (·.1) → g.get? x = some o) → g.StaysIn s.heap →
      (∀ p ∈ news, p.1 < D) → s.heap.get? D = none → s.heap.get? L = none →
      wpAny (model PP w) ((mkA d u outer).deeper (envOf qual scope L f cdv)) (execs body (envOf qual scope L f cdv))
        (fun fl s' => R (.ok (.ret (match fl with | .ret v => v | _ => .none))) s') (fun _ _ => False)
        { s with heap := h₁, toks := s.toks + (bindv (.ref D)).length })
    (hco : scope.isCoroutine = false) (hgen : scope.isGenerator = false) (hk : scope.kind = .function)
    (hcell : ∀ x ∈ scope.names, x.2 ≠ .cell) : codeAny (model PP w) A (.call (.ref f) args) R s := by
  obtain ⟨base, outer, d, u, rfl, B, hd, hu⟩ := C.is
  obtain ⟨loose, mean, mg, mb, T⟩ := C.top
  have X := C.kin.keeps kb
  refine codeAny_call_function (fd := fnOf name qual params body scope dV kV doc pm an cdv ct) (body := body) (by show d < 1000; omega) (X _ _ ho) rfl hco hgen rfl (codeRec_of X hcd) ?_
  rw [hb]
  refine wpAny_bind (wpAny_newObj_type (wpAny_pure ?_) (by show vs.toArray.size ≤ sizeLine; rw [List.size_toArray]; exact hsz))
  generalize hD : s.heap.objs.size = D
  generalize hH : s.heap.push ({ cls := .type "tuple", data := .seq vs.toArray } : Obj) = H
  have hS : H.objs.size = D + 1 := by rw [← hH, Heap.size_push, hD]
  have up : s.heap.StaysIn H := fun b o e => hH ▸ Heap.get?_push_of_some _ e
  have hDo : H.get? D = some ({ cls := .type "tuple", data := .seq vs.toArray } : Obj) := by rw [← hH, ← hD]; exact Heap.get?_push_size _ rfl
  have new : ∀ a, D ≤ a → s.heap.get? a = none := fun a ha => by
    cases e : s.heap.get? a with
    | none => rfl
    | some o => exact absurd (Heap.lt_size e) (Nat.not_lt.mpr (hD ▸ ha))
  refine wpAny_newFunctionEnv hcell (hloc (.ref D)) (fun h₁ hns hsb => ⟨((T.nolimit.keeps kb).keeps up).fresh _ hsb, codeAny_func ?_⟩) hk
  have hk₁ : ∀ b o, H.get? b = some o → h₁.get? b = some o := fun b o e => hsb.extBut b o (Nat.ne_of_lt (Heap.lt_size e)) (Heap.get?_push_of_some _ e)
  show wpAny (model PP w) ((mkA d u outer).deeper (envOf qual scope H.objs.size f cdv)) (execs body (envOf qual scope H.objs.size f cdv)) _ _ _
  have nm : ∀ x o, b.get? x = some o → x ∉ news.map (·.1) := fun x o e q => by
    obtain ⟨p, hp, rfl⟩ := List.mem_map.mp q
    rw [(hn p hp).2] at e; cases e
  have st : b.StaysIn (hideAll s.heap (news.map (·.1))) := fun x o e => hideAll_get _ (kb x o e) (nm x o e)
  rw [hS]
  exact wpAny_mono (h D (D + 1) _ h₁ base outer d u loose mean mg mb ⟨hS ▸ hns, fun x o e => hk₁ x o (up x o (of_hideAll _ e)), by rw [hideAll_size, hD]; exact Nat.le_succ _⟩
    (fun p hp => by
      rcases List.mem_cons.mp hp with rfl | hp
      · refine ⟨hk₁ _ _ hDo, Nat.ne_of_lt (Nat.lt_succ_self _), ?_⟩
        cases e : (hideAll s.heap (news.map (·.1))).get? D with
        | none => rfl
        | some o => have := of_hideAll _ e; rw [new D (Nat.le_refl _)] at this; cases this
      · exact ⟨hk₁ _ _ (up _ _ (hn p hp).1), Nat.ne_of_lt (Nat.lt_succ_of_lt (hD ▸ Heap.lt_size (hn p hp).1)), hideAll_none _ (List.mem_map_of_mem hp)⟩)
    (below_keeps B st) (C.kin.keeps st) (T.keeps st) st hd (by omega)
    (fun x o e q => hideAll_get _ e q) (fun x o e => of_hideAll _ e) (fun p hp => hD ▸ Heap.lt_size (hn p hp).1) (new D (Nat.le_refl _)) (new _ (Nat.le_succ _))) (fun _ _ x => x) fun _ _ x => x.elim

theorem use_call {w : World} (n : Nat) {d u : Nat} {outer : List Env} {base g : Heap} {s : Shared} {L a : Addr} {m : Str → Option Value} {name : Str} {scope : Scope} {cd : Value} {news : List (Addr × Obj)}
    {loose : List Str} {mean : ExcName → Option Value} {mg mb : Str → Option Value} {f : Value} {args : List Value} {foot : List Addr} {P : Value → Heap → Prop} {Q : Value → Shared → Prop} {E : Value → Shared → Prop}
    (B : Below (mkA d u outer) base outer g) (F : Fr g L s.heap m) (N : News g L s.heap news) (X : (hd.heap_39 w.params).In g) (T : Top hd.view_39 loose mean mg mb g)
    (hd' : d + 1 + n ≤ 900 ∧ u + 3 + 20 * n ≤ 9000)
    (sp : ∀ b A', Cx w n A' b → b.StaysIn s.heap → (∀ p ∈ news, b.get? p.1 = none) → codeAny (model PP w) A' (.call f ⟨args, []⟩) (Ret s foot P) s)
    (hf : ∀ y ∈ foot, y ≠ L ∧ g.get? y = none)
    (h : ∀ v h' tk, Fr g L h' m → (∀ b o, s.heap.get? b = some o → b ∉ foot → h'.get? b = some o) → P v h' → Q v { s with heap := h', toks := tk }) (hk : scope.kind = .function) :
    wpAny (model PP w) ((mkA d u outer).deeper (envOf name scope L a cd)) (call f args) Q E s := by
  obtain ⟨C1, k1, n1⟩ := cx_call (n := n) (name := name) (scope := scope) (a := a) (cd := cd) B F N X T hd'.1 hd'.2 hk
  exact use_spec (sp _ _ C1 k1 fun p hp => (n1 p hp).2) fun v h' tk k z => h v h' tk (fr_keep F k hf) k z

theorem fr_push1 {g h : Heap} {L : Addr} {m : Str → Option Value} (F : Fr g L h m) : h.objs.size ≠ L ∧ g.get? h.objs.size = none :=
  ⟨Ne.symm (Nat.ne_of_lt F.ns.lt), next_is_new F⟩

theorem for_news {w : World} {A : Around} {env : Env} {g : Heap} {L I : Addr} {fp : List Addr} {n : Nat} {P : Nat → Value → Prop} {St : Nat → Heap → Prop} {target : Expr} {body : List Stmt} {R : Result → Shared → Prop} {s : Shared}
    {m₀ : Str → Option Value} {news₀ : List (Addr × Obj)}
    (W : Walks PP w A I fp [I] n P St) (J : Nat → (Str → Option Value) → List (Addr × Obj) → Prop)
    (hI : I ≠ L ∧ g.get? I = none) (F₀ : Fr g L s.heap m₀) (N₀ : News g L s.heap news₀) (off₀ : ∀ p ∈ news₀, p.1 ≠ I) (J₀ : J 0 m₀ news₀) (S₀ : St 0 s.heap)
    (hlive : ∀ i h, St i h → ∃ o, h.get? I = some o)
    (hSt : ∀ i h h' o m' news', St i h → h.get? I = some o → h'.get? I = some o → Fr g L h' m' → News g L h' news' → J i m' news' → St i h')
    (turn : ∀ i v oI h tk m news, i < n → P i v → J i m news → Fr g L h m → News g L h ((I, oI) :: news) → (∀ p ∈ news, p.1 ≠ I) →
      wpAny (model PP w) A (assign target env v) (fun _ s₂ => wpAny (model PP w) A (execs body env) (fun f s₃ => match f with
        | .next | .cont => Stop (NextI g L I oI s (J (i + 1)) s₃)
        | .brk => R (.ok .next) s₃
        | .ret v => R (.ok (.ret v)) s₃) (fun _ _ => False) s₂) (fun _ _ => False) { s with heap := h, toks := tk })
    (done : ∀ h tk m news, J n m news → Fr g L h m → News g L h news → R (.ok .next) { s with heap := h, toks := tk })
    (ht : ∀ v, letOwnedTupleGo target (.ref I) v = pure () := by intro _; rfl) :
    codeAny (model PP w) A (.forLoop target (.ref I) body [] env) R s := by
  refine codeAny_forLoop (fun k s' => ∃ h tk m news i, s' = { s with heap := h, toks := tk } ∧ Fr g L h m ∧ News g L h news ∧ (∀ p ∈ news, p.1 ≠ I) ∧ J i m news ∧ St i h ∧ i ≤ n ∧ k = n + 1 - i) ?_ (n + 1)
    ⟨s.heap, s.toks, m₀, news₀, 0, rfl, F₀, N₀, off₀, J₀, S₀, Nat.zero_le _, rfl⟩ ht
  rintro k s' ⟨h, tk, m, news, i, rfl, F, N, off, j, st, hi, rfl⟩
  have adv : ∀ h₁ : Heap, (∀ b o, b ∉ [I] → h.get? b = some o → h₁.get? b = some o) → Fr g L h₁ m ∧ News g L h₁ news := fun h₁ hk =>
    ⟨fr_but1 F hI.1 hI.2 fun b o hb e => hk b o (fun q => hb (List.mem_singleton.mp q)) e, fun p hp => ⟨hk _ _ (fun q => off p hp (List.mem_singleton.mp q)) (N p hp).1, (N p hp).2⟩⟩
  by_cases hlt : i < n
  · refine W.item i _ _ _ hlt st fun v h₁ tk₁ hP st₁ hk => ?_
    obtain ⟨F₁, N₁⟩ := adv h₁ hk
    obtain ⟨oI, heI⟩ := hlive _ _ st₁
    refine wpAny_mono (turn i v oI h₁ tk₁ m news hlt hP j F₁ (List.forall_mem_cons.mpr ⟨⟨heI, hI⟩, N₁⟩) off) (fun _ s₂ z => wpAny_mono z (fun f s₃ z => ?_) fun _ _ z => z.elim) fun _ _ z => z.elim
    have fin : (NextI g L I oI s (J (i + 1)) s₃) →
        ∃ k', k' < n + 1 - i ∧ ∃ h tk m news i, s₃ = { s with heap := h, toks := tk } ∧ Fr g L h m ∧ News g L h news ∧ (∀ p ∈ news, p.1 ≠ I) ∧ J i m news ∧ St i h ∧ i ≤ n ∧ k' = n + 1 - i := by
      rintro ⟨h', tk', m', news', rfl, F', N', off', J'⟩
      have N'' : News g L h' news' := fun p hp => N' p (.tail _ hp)
      exact ⟨n + 1 - (i + 1), sb1 hlt, h', tk', m', news', i + 1, rfl, F', N'', off', J', hSt _ _ _ _ _ _ st₁ heI (N' _ (.head _)).1 F' N'' J', hlt, rfl⟩
    rcases f with _ | _ | _ | _
    · exact fin z.go
    · exact z
    · exact fin z.go
    · exact z
  · have : i = n := by omega
    subst this
    refine W.done _ _ _ st fun h₁ tk₁ hk => wpAny_execs_nil ?_
    obtain ⟨F₁, N₁⟩ := adv h₁ hk
    exact done h₁ tk₁ m news j F₁ N₁

theorem for_tuple {w : World} {A : Around} {env : Env} {g : Heap} {L D : Addr} {items : Array Value} {target : Expr} {body : List Stmt} {Q : Flow → Shared → Prop} {E : Value → Shared → Prop} {s : Shared}
    {m₀ : Str → Option Value} {news₀ : List (Addr × Obj)} (hh : A.handled = none) (J : (Str → Option Value) → Addr → Nat → (Str → Option Value) → List (Addr × Obj) → Prop)
    (F₀ : Fr g L s.heap m₀) (N₀ : News g L s.heap news₀) (J₀ : J m₀ D 0 m₀ news₀)
    (hD : ∀ i h m news, Fr g L h m → News g L h news → J m₀ D i m news → h.IsTuple D items)
    (turn : ∀ i v I oI h tk m news, items[i]? = some v → J m₀ D i m news → Fr g L h m → News g L h ((I, oI) :: news) → (∀ p ∈ news, p.1 ≠ I) → (∀ b o, s.heap.get? b = some o → @Ne Nat b I) →
      wpAny (model PP w) A (assign target env v) (fun _ s₂ => wpAny (model PP w) A (execs body env) (fun f s₃ => match f with
        | .next | .cont => Stop (NextI g L I oI s (J m₀ D (i + 1)) s₃)
        | .brk => Q .next s₃
        | .ret v => Q (.ret v) s₃) (fun _ _ => False) s₂) (fun _ _ => False) { s with heap := h, toks := tk })
    (done : ∀ h tk m news, J m₀ D items.size m news → Fr g L h m → News g L h news → Q .next { s with heap := h, toks := tk })
    (ht : ∀ I v, letOwnedTupleGo target (.ref I) v = pure () := by intro _ _; rfl) :
    wpAny (model PP w) A (pyIter (.ref D)) (fun it s₂ => codeAny (model PP w) A (.forLoop target it body [] env) (fun r s' => match r with | .ok f => Q f s' | .error _ => False) s₂) E s := by
  have hT := hD 0 s.heap m₀ news₀ F₀ N₀ J₀
  have hlt : D < s.heap.objs.size := by obtain ⟨_, e, _⟩ := hT; exact Heap.lt_size e
  refine wpAny_pyIter_tuple hT ?_
  have up : ∀ b o, s.heap.get? b = some o → (s.heap.push { cls := .type "tuple_iterator", data := .fields #[.ref D, .int 0 0] }).get? b = some o := fun b o e => Heap.get?_push_of_some _ e
  refine for_news (s := { s with heap := _ }) (Walks.tuple hh s.heap.objs.size D (Nat.ne_of_lt hlt) items) (J m₀ D) (fr_push1 F₀) (F₀.kept up) (N₀.grown up) (fun p hp => Nat.ne_of_lt (Heap.lt_size (N₀ p hp).1)) J₀
    ⟨⟨_, Heap.get?_push_size _ rfl, rfl, rfl⟩, hT.at fun o e => up _ o e⟩ (fun i h st => let ⟨o, e, _⟩ := st.1; ⟨o, e⟩)
    (fun i h h' o m' news' st e e' F' N' j => ⟨st.1.at fun o' q => by rw [e] at q; rw [e', ← q], hD i h' m' news' F' N' j⟩)
    (fun i v oI h tk m news hi hP j F N off => turn i v _ oI h tk m news hP j F N off fun b o e => Nat.ne_of_lt (Heap.lt_size e)) done (ht _)

theorem for_list {w : World} {A : Around} {env : Env} {g : Heap} {L D : Addr} {items : Array Value} {target : Expr} {body : List Stmt} {Q : Flow → Shared → Prop} {E : Value → Shared → Prop} {s : Shared}
    {m₀ : Str → Option Value} {news₀ : List (Addr × Obj)} (hh : A.handled = none) (J : (Str → Option Value) → Addr → Nat → (Str → Option Value) → List (Addr × Obj) → Prop)
    (F₀ : Fr g L s.heap m₀) (N₀ : News g L s.heap news₀) (J₀ : J m₀ D 0 m₀ news₀)
    (hD : ∀ i h m news, Fr g L h m → News g L h news → J m₀ D i m news → h.IsList D items)
    (turn : ∀ i v I oI h tk m news, items[i]? = some v → J m₀ D i m news → Fr g L h m → News g L h ((I, oI) :: news) → (∀ p ∈ news, p.1 ≠ I) → (∀ b o, s.heap.get? b = some o → @Ne Nat b I) →
      wpAny (model PP w) A (assign target env v) (fun _ s₂ => wpAny (model PP w) A (execs body env) (fun f s₃ => match f with
        | .next | .cont => Stop (NextI g L I oI s (J m₀ D (i + 1)) s₃)
        | .brk => Q .next s₃
        | .ret v => Q (.ret v) s₃) (fun _ _ => False) s₂) (fun _ _ => False) { s with heap := h, toks := tk })
    (done : ∀ h tk m news, J m₀ D items.size m news → Fr g L h m → News g L h news → Q .next { s with heap := h, toks := tk })
    (ht : ∀ I v, letOwnedTupleGo target (.ref I) v = pure () := by intro _ _; rfl) :
    wpAny (model PP w) A (pyIter (.ref D)) (fun it s₂ => codeAny (model PP w) A (.forLoop target it body [] env) (fun r s' => match r with | .ok f => Q f s' | .error _ => False) s₂) E s := by
  have hT := hD 0 s.heap m₀ news₀ F₀ N₀ J₀
  have hlt : D < s.heap.objs.size := by obtain ⟨_, e, _⟩ := hT; exact Heap.lt_size e
  refine wpAny_pyIter_list hT ?_
  have up : ∀ b o, s.heap.get? b = some o → (s.heap.push { cls := .type "list_iterator", data := .fields #[.ref D, .int 0 0] }).get? b = some o := fun b o e => Heap.get?_push_of_some _ e
  refine for_news (s := { s with heap := _ }) (Walks.list hh s.heap.objs.size D (Nat.ne_of_lt hlt) items) (J m₀ D) (fr_push1 F₀) (F₀.kept up) (N₀.grown up) (fun p hp => Nat.ne_of_lt (Heap.lt_size (N₀ p hp).1)) J₀
    ⟨⟨_, Heap.get?_push_size _ rfl, rfl, rfl⟩, hT.at fun o e => up _ o e⟩ (fun i h st => let ⟨o, e, _⟩ := st.1; ⟨o, e⟩)
    (fun i h h' o m' news' st e e' F' N' j => ⟨st.1.at fun o' q => by rw [e] at q; rw [e', ← q], hD i h' m' news' F' N' j⟩)
    (fun i v oI h tk m news hi hP j F N off => turn i v _ oI h tk m news hP j F N off fun b o e => Nat.ne_of_lt (Heap.lt_size e)) done (ht _)

theorem fr_norm {g h : Heap} {L : Addr} {m m₀ : Str → Option Value} {k : Str} (F : Fr g L h m) (hm : ∀ y, y ≠ k → m y = m₀ y) : Fr g L h (fun y => if y = k then m k else m₀ y) := by
  have e : (fun y => if y = k then m k else m₀ y) = m := by
    funext y
    by_cases q : y = k
    · rw [if_pos q, q]
    · rw [if_neg q, hm y q]
  rw [e]; exact F
theorem toList_of (vs : List Value) : vs.toArray.toList = vs := rfl
theorem fr_norm2 {g h : Heap} {L : Addr} {m m₀ : Str → Option Value} {k1 k2 : Str} (F : Fr g L h m) (hm : ∀ y, y ≠ k1 → y ≠ k2 → m y = m₀ y) : Fr g L h (fun y => if y = k1 then m k1 else if y = k2 then m k2 else m₀ y) := by
  have e : (fun y => if y = k1 then m k1 else if y = k2 then m k2 else m₀ y) = m := by
    funext y
    by_cases q : y = k1
    · rw [if_pos q, q]
    by_cases q2 : y = k2
    · rw [if_neg q, if_pos q2, q2]
    rw [if_neg q, if_neg q2, hm y q q2]
  rw [e]; exact F
theorem fr_norm5 {g h : Heap} {L : Addr} {m m₀ : Str → Option Value} {k1 k2 k3 k4 k5 : Str} (F : Fr g L h m) (hm : ∀ y, y ≠ k1 → y ≠ k2 → y ≠ k3 → y ≠ k4 → y ≠ k5 → m y = m₀ y) :
    Fr g L h (fun y => if y = k1 then m k1 else if y = k2 then m k2 else if y = k3 then m k3 else if y = k4 then m k4 else if y = k5 then m k5 else m₀ y) := by
  have e : (fun y => if y = k1 then m k1 else if y = k2 then m k2 else if y = k3 then m k3 else if y = k4 then m k4 else if y = k5 then m k5 else m₀ y) = m := by
    funext y
    by_cases q : y = k1
    · rw [if_pos q, q]
    by_cases q2 : y = k2
    · rw [if_neg q, if_pos q2, q2]
    by_cases q3 : y = k3
    · rw [if_neg q, if_neg q2, if_pos q3, q3]
    by_cases q4 : y = k4
    · rw [if_neg q, if_neg q2, if_neg q3, if_pos q4, q4]
    by_cases q5 : y = k5
    · rw [if_neg q, if_neg q2, if_neg q3, if_neg q4, if_pos q5, q5]
    rw [if_neg q, if_neg q2, if_neg q3, if_neg q4, if_neg q5, hm y q q2 q3 q4 q5]
  rw [e]; exact F
@[reducible] noncomputable def ent (P : Params) (k : String) (t : Tok) (v : Value) : DictEntry := ⟨PyData.keyHash P (Str.ofString k), .str (Str.ofString k) t, v⟩
@[reducible] noncomputable def sdict (P : Params) (t1 t2 t3 t4 : Tok) (nd rd np nf : Value) : List DictEntry :=
  [ent P "_node2info" t1 nd, ent P "_ready_nodes" t2 rd, ent P "_npassedout" t3 np, ent P "_nfinished" t4 nf]

structure Nd where
  nm : Str
  ia : Addr
  di : Addr
  sa : Addr
  it : Tok
  np : Int
  ut : Tok
  su : List Value
  ep : Nat

@[reducible] noncomputable def infoObj (r : Nd) : Obj := { cls := .ref 74, dict := some r.di, data := .plain, slots := #[some (.str r.nm r.it), some (.int r.np r.ut), some (.ref r.sa)] }
@[reducible] noncomputable def succObj (r : Nd) : Obj := W.listOf r.su.toArray r.ep
noncomputable def addrs (G : List Nd) : List Addr := G.flatMap fun r => [r.ia, r.di, r.sa]

noncomputable def led (G : List Nd) : List (Addr × Obj) := G.flatMap fun r => [(r.ia, infoObj r), (r.di, dictOf [] 0), (r.sa, succObj r)]

theorem meets_bool_list (l : Addr) (items : Array Value) (hfit : (items.size : Int) < 2 ^ 63) :
    Meets (Builtin.«bool.__new__» ⟨[.type "bool", .ref l], []⟩) (fun _ R s => s.heap.IsList l items ∧ R (.ok (.ret (.bool (!items.isEmpty)))) { s with toks := s.toks + 1 + 1 }) :=
  Meets.of_wp fun prog w A R s hs => by
    obtain ⟨hl, hs⟩ := hs
    obtain ⟨hp, g, d, tk, os⟩ := s
    have f1 := F.conv_sub_bool
    repeat (any_goals (first | assumption | (with_reducible refine wpAny_truthy_list hl hfit ?_) | wp_step))
    all_goals first | exact ⟨_, rfl, hs⟩ | exact hs | skip
theorem call_bool_list {w : World} {A : Around} {E : Value → Shared → Prop} {s : Shared} {l : Addr} {items : Array Value} {Q : Value → Shared → Prop} (hl : s.heap.IsList l items) (hfit : (items.size : Int) < 2 ^ 63)
    (h : Q (.bool (!items.isEmpty)) { s with toks := s.toks + 1 + 1 }) : wpAny (model PP w) A (call (.type "bool") [.ref l]) Q E s :=
  call_bool_1 (meets_bool_list l items hfit) (show s.heap.IsList l items ∧ wants (fun obj s₁ => s₁.TypeIs obj "bool" ∧ Q obj s₁) E _ _ from ⟨hl, rfl, h⟩)
set_option maxRecDepth 100000
theorem fillAll : (fun (_ : OpenLaw) (_ : Params → Frag) => True) PySem.Challenge.rw_il0013_01 hd.heap_39 := by
  k_fill
  k_with "M enter" => ((refine' enterQ (by assumption) (by assumption) (by assumption) ?k6 ?k7 ?k9 ?kB ?_ ?c2 ?c3 ?c4 ?c5; (case k6 => k_is); (case k7 => k_is); (case k9 => first | exact BindsTo.of_eq rfl | exact binds_K (by k_in) rfl (by k_is) rfl rfl rfl | fail "enter: no rule for these arguments"); (case c5 => decide); (case kB => exact locs rfl); (case c2 => exact rfl); (case c3 => exact rfl); (case c4 => exact rfl)))
  k_with "call builtin:dict.get" => ((k_here; k_dflt (refine kdg_get1 (knd := PySem.strKind _ _) (by k_asm) (by k_mem) (by k_asm) (by k_asm) (strKind_is _ _ _ _) _ (by assumption) ?_); (try dsimp only [Option.getD])))
  k_with "call ref" => (((with_reducible show wpAny _ _ (PySem.call (Value.ref 114) _ _) _ _ _); refine stop_here ?_))
  k_with "call ref" => (((with_reducible show wpAny _ _ (PySem.call (Value.ref 121) _ _) _ _ _); refine stop_here ?_))
  k_with "call ref" => (((with_reducible show wpAny _ _ (PySem.call (Value.ref 126) _ _) _ _ _); refine stop_here ?_))
  k_with "call ref" => (((with_reducible show wpAny _ _ (PySem.call (Value.ref 133) _ _) _ _ _); refine stop_here ?_))
  k_with "call ref" => (((with_reducible show wpAny _ _ (PySem.call (Value.ref 140) _ _) _ _ _); refine stop_here ?_))
  k_with "call ref" => (((with_reducible show wpAny _ _ (PySem.call (Value.ref 154) _ _) _ _ _); refine stop_here ?_))
  k_with "call ref" => (((with_reducible show wpAny _ _ (PySem.call (Value.ref 161) _ _) _ _ _); refine stop_here ?_))
  k_with "call ref" => (((with_reducible show wpAny _ _ (PySem.call (Value.ref 180) _ _) _ _ _); refine stop_here ?_))
  k_with "call ref" => (((with_reducible show wpAny _ _ (PySem.call (Value.ref 187) _ _) _ _ _); refine stop_here ?_))
  k_with "call ref" => (((with_reducible show wpAny _ _ (PySem.call (Value.ref 192) _ _) _ _ _); refine stop_here ?_))
  k_with "call ref" => (((with_reducible show wpAny _ _ (PySem.call (Value.ref 199) _ _) _ _ _); refine stop_here ?_))
  k_with "call ref" => (((with_reducible show wpAny _ _ (PySem.call (Value.ref 204) _ _) _ _ _); refine stop_here ?_))
  k_with "call ref" => (((with_reducible show wpAny _ _ (PySem.call (Value.ref 55) _ _) _ _ _); refine stop_here ?_))
  k_with "call ref" => (((with_reducible show wpAny _ _ (PySem.call (Value.ref 46) _ _) _ _ _); refine stop_here ?_))
  k_with "X all" => (((with_reducible first | show ∀ p ∈ led _, _ | show ∀ p ∈ led _ ++ led _, _); first | (with_reducible assumption) | exact ne_of_allLt (by with_reducible first | assumption | exact And.right (by assumption) | exact And.right (And.right (by assumption)) | exact And.right (And.right (And.right (by assumption))) | exact And.right (And.right (And.right (And.right (by assumption)))) | exact And.right (And.right (And.right (And.right (And.right (by assumption))))) | exact And.right (And.right (And.right (And.right (And.right (And.right (by assumption)))))) | exact And.right (And.right (And.right (And.right (And.right (And.right (And.right (by assumption))))))) | exact And.right (And.right (And.right (And.right (And.right (And.right (And.right (And.right (by assumption)))))))) | exact And.right (And.right (And.right (And.right (And.right (And.right (And.right (And.right (And.right (by assumption))))))))) | exact And.right (And.right (And.right (And.right (And.right (And.right (And.right (And.right (And.right (And.right (by assumption)))))))))) | exact And.right (And.right (And.right (And.right (And.right (And.right (And.right (And.right (And.right (And.right (And.right (by assumption))))))))))) | exact And.right (And.right (And.right (And.right (And.right (And.right (And.right (And.right (And.right (And.right (And.right (And.right (by assumption)))))))))))) | exact And.right (And.right (And.right (And.right (And.right (And.right (And.right (And.right (And.right (And.right (And.right (And.right (And.right (by assumption))))))))))))))))
  k_with "M enterV" => ((refine' enterV (by assumption) (by assumption) (by assumption) ?k6 ?k7 ?kV ?kP ?kG ?kB ?_ ?c2 ?c3 ?c4 ?c5; (case k6 => k_is); (case k7 => k_is); (case kV => kl_lit); (case kP => exact rfl); (case kG => exact fun _ => rfl); (case kB => exact fun _ => locs rfl); (case c5 => decide); (case c2 => exact rfl); (case c3 => exact rfl); (case c4 => exact rfl)))
  k_with "X lt" => (first | (with_reducible assumption) | exact Nat.lt_trans (by with_reducible assumption) (by with_reducible assumption))
  k_with "X ord" => (first | (with_reducible assumption) | walk_at "X lt" | (refine Nat.le_of_lt ?_; walk_at "X lt") | exact Nat.le_refl _ | omega)
  k_with "call builtin:len" => ((k_here; (with_reducible show wpAny _ _ (call (Value.builtin "len") [Value.ref _]) _ _ _); k_dflt (first | (refine PyProof.Rows.len_tuple (by exact News.isTup (by k_asm) (by k_mem)) (by (simp only [List.size_toArray]; omega)) ?_) | (refine PyProof.Rows.len_list (by exact News.isList (by k_asm) (by k_mem)) (by (simp only [List.size_toArray]; omega)) ?_))))
  k_with "M enterW" => ((refine' enterW (by assumption) (by assumption) (by assumption) ?k6 ?k7 (bind_var ?kP ?kQ) (by assumption) ?kB ?_ ?c2 ?c3 ?c4 ?c5; (case k6 => k_is); (case k7 => k_is); (case kP => exact rfl); (case kQ => exact rfl); (case kB => exact fun _ => locs rfl); (case c5 => decide); (case c2 => exact rfl); (case c3 => exact rfl); (case c4 => exact rfl)))
  k_with "subscriptTail" => ((k_here; (with_reducible show wpAny _ _ (subscriptTail _ _ (Value.ref _) (Value.str _ _)) _ _ _); k_dflt (refine kda_item (knd := PySem.strKind _ _) (by k_asm) (by k_mem) (by k_asm) (strKind_is _ _ _ _) (by assumption) ?_)))
  k_with "exec For Name Name cons nil" => (refine stop_here ?_)
  k_with "exec For Name Attribute cons nil" => (refine stop_here ?_)
  k_with "exec For Name Call cons nil" => (refine stop_here ?_)
  k_with "exec For" => (refine stop_here ?_)
  k_with "exec While" => (refine stop_here ?_)
  k_with "last exec While" => (refine stop_here ?_)
  k_with "exec While Name" => (refine stop_here ?_)
  k_with "exec While Compare" => (refine stop_here ?_)
  k_with "exec While Constant" => (refine stop_here ?_)
  k_with "call type:bool" => ((k_here; (with_reducible show wpAny _ _ (call (Value.type _) [Value.ref _]) _ _ _); k_dflt (refine call_bool_list (by exact News.isList (by k_asm) (by k_mem)) (by (simp only [List.size_toArray]; omega)) ?_)))
  k_with "M enterC" => ((refine' enterC (by assumption) (by assumption) (by assumption) ?k6 ?k7 ?k9 ?kB ?kD ?_ ?c2 ?c3 ?c4; (case k6 => k_is); (case k7 => k_is); (case k9 => first | exact BindsTo.of_eq rfl | exact binds_K (by k_in) rfl (by k_is) rfl rfl rfl | fail "enter: no rule for these arguments"); (case kB => exact rfl); (case kD => decide +kernel); (case c2 => exact rfl); (case c3 => exact rfl); (case c4 => exact rfl)))
  k_with "X allF" => (((with_reducible show ∀ p ∈ fled _, _); first | (with_reducible assumption) | exact ne_of_allLt (by with_reducible first | assumption | exact And.right (by assumption) | exact And.right (And.right (by assumption)) | exact And.right (And.right (And.right (by assumption))) | exact And.right (And.right (And.right (And.right (by assumption)))) | exact And.right (And.right (And.right (And.right (And.right (by assumption))))) | exact And.right (And.right (And.right (And.right (And.right (And.right (by assumption)))))) | exact And.right (And.right (And.right (And.right (And.right (And.right (And.right (by assumption))))))) | exact And.right (And.right (And.right (And.right (And.right (And.right (And.right (And.right (by assumption)))))))) | exact And.right (And.right (And.right (And.right (And.right (And.right (And.right (And.right (And.right (by assumption))))))))) | exact And.right (And.right (And.right (And.right (And.right (And.right (And.right (And.right (And.right (And.right (by assumption)))))))))) | exact And.right (And.right (And.right (And.right (And.right (And.right (And.right (And.right (And.right (And.right (And.right (by assumption))))))))))))))
  k_with "M enterS" => ((refine' enterSQ (by assumption) (by assumption) (by assumption) ?k6 ?k7 ?k9 ?kB ?_ ?c2 ?c3 ?c4 ?c5; (case k6 => k_is); (case k7 => k_is); (case k9 => first | exact BindsTo.of_eq rfl | exact binds_K (by k_in) rfl (by k_is) rfl rfl rfl | fail "enter: no rule for these arguments"); (case c5 => decide); (case kB => exact locs rfl); (case c2 => exact rfl); (case c3 => exact rfl); (case c4 => exact rfl)))
  k_with "M enterSE" => ((refine' enterS (by assumption) (by assumption) (by assumption) ?k6 ?k7 ?k9 ?kB ?_ ?c2 ?c3 ?c4 ?c5; (case k6 => k_is); (case k7 => k_is); (case k9 => first | exact BindsTo.of_eq rfl | exact binds_K (by k_in) rfl (by k_is) rfl rfl rfl | fail "enter: no rule for these arguments"); (case c5 => decide); (case kB => exact locs rfl); (case c2 => exact rfl); (case c3 => exact rfl); (case c4 => exact rfl)))
  k_with "X mem" => ((repeat (first | exact List.Mem.head _ | assumption | apply List.Mem.tail)))
  k_with "X pos" => (first | exact Nat.succ_pos _ | (with_reducible assumption) | exact Nat.lt_succ_self _ | exact Nat.add_pos_left (by with_reducible assumption) _ | omega | (dsimp only; omega) | (simp only [List.length_cons, List.length_nil]; omega) | (dsimp only; simp only [List.length_cons, List.length_nil]; omega) | exact Nat.succ_pos _ | exact Nat.lt_of_lt_of_le Nat.zero_lt_two (Nat.le_add_left 2 _))
  k_with "M news3" => ((simp only [List.forall_mem_cons]; refine ⟨⟨Sor.self (by assumption), by assumption⟩, ⟨by assumption, by assumption⟩, ⟨by assumption, by assumption⟩, fun _ h => (nomatch h)⟩))
  k_with "Y 1" => (k_here; k_dflt (first
  | (refine in_set _ (by k_asm) (by k_updF) (by k_asm) (by (unfold scanBound; omega)) (strKind_is _ _ _ _) rfl (by with_reducible assumption) ?_)
  | (refine kda_in (knd := PySem.strKind _ _) (by k_asm) (by k_mem) (by k_asm) (by k_asm) (strKind_is _ _ _ _) _ (by with_reducible assumption) ?_)))
  k_with "Y 2" => (k_here; k_dflt (refine add_set (by k_asm) (by k_asm) (by k_updF) (by k_asm) (by (unfold scanBound; omega)) (strKind_is _ _ _ _) rfl (by with_reducible assumption) ?_))
  k_with "Y 3" => (k_here; k_dflt (refine kob_del (knd := PySem.strKind _ _) (by k_asm) (by k_asm) (by k_updF) (by k_asm) (strKind_is _ _ _ _) (by with_reducible assumption) (by (rw [sizeLine_eq]; omega)) ?_))
  k_with "Y 4" => (k_here; (with_reducible show wpAny _ _ (call (Value.builtin "iter") [Value.ref _]) _ _ _); k_dflt (refine fc_iter (by k_asm) (by k_asm) (by exact News.isList (by k_asm) (by k_mem)) ?_))
  k_with "Y 5" => (k_here; (with_reducible show wpAny _ _ (getAttr (Value.ref _) "__next__" true) _ _ _); k_dflt (refine fc_attr (by k_asm) (by k_asm) (by k_mem) ?_))
  k_with "Y 6" => (k_here; (with_reducible show wpAny _ _ (callWith _ (Value.ref _) [] (backTo _ (starEach [] _)) []) _ _ _); k_dflt (refine fc_with (by k_asm) (by k_mem) ?_))
  k_with "Y 7" => (k_here; (with_reducible show wpAny _ _ (subscriptTail _ (PySem.Expr.Slice _ _ none _) (Value.ref _) (Value.ref _)) _ _ _); k_dflt (refine kms_slice_lit (by k_asm) (by k_asm) (by exact News.isList (by k_asm) (by k_mem)) (by kmk_part) (by kmk_part) (by exact rfl) ?_ (by with_unfolding_all rfl) (by kmk_pure) (by with_reducible assumption)))
  k_with "Y 8" => (k_here; (with_reducible show wpAny _ _ (subscriptTail _ _ (Value.ref _) (Value.int _ _)) _ _ _); k_dflt (refine item_last (by exact News.isList (by k_asm) (by k_mem)) ?_ (by with_unfolding_all rfl)))
  k_with "Y 10" => first | (refine plainObj_wpAny_Assign_Attribute ?_ ?_; rotate_left; with_unfolding_all rfl) | refine wpAny_Assign_Name ?_
  k_with "Y 11" => (k_here; (with_reducible show wpAny _ _ (subscriptTail _ _ (Value.ref _) (Value.int _ _)) _ _ _); k_dflt (refine item_at (by exact News.isList (by k_asm) (by k_mem)) (by omega) (by omega) (by with_reducible assumption) ?_ (by with_unfolding_all rfl)))
  k_with "Y 12" => (k_here; (with_reducible show wpAny _ _ (call (Value.builtin "sorted") [Value.ref _]) _ _ _); k_dflt (refine sorted_tuple (by k_asm) (by k_asm) (by exact News.isTup (by k_asm) (by k_mem)) (by with_reducible assumption) (by omega) ?_))
  k_with "Y 13" => (k_here; (with_reducible show wpAny _ _ (call (Value.builtin "str.replace") [Value.str _ _, Value.str _ _, Value.str _ _]) _ _ _); refine replace_lit (by with_reducible assumption) (by walk_at "X pos") (by walk_at "X pos") (by walk_at "X pos") ?_)
  k_with "Y 14" => (k_here; (with_reducible show wpAny _ _ (truthy (Value.ref _)) _ _ _); refine truthy_dK (by with_reducible assumption) (by k_mem) (by with_reducible assumption) (by with_reducible assumption) (by rfl) ?_; (try simp only [List.isEmpty_cons, Bool.not_false]))
  k_with "Y 15" => (k_here; (with_reducible show wpAny _ _ (call (Value.builtin "len") [Value.ref _]) _ _ _); (refine PyProof.Rows.len_list (by exact list_up (by k_asm) (by with_reducible assumption)) (by (simp only [List.size_toArray]; omega)) ?_))
  k_with "Y 16" => (k_here; (with_reducible show wpAny _ _ (subscriptTail _ _ (Value.ref _) (Value.int _ _)) _ _ _); (refine item_at (by exact list_up (by k_asm) (by with_reducible assumption)) (by omega) (by omega) (by with_reducible assumption) ?_ (by with_unfolding_all rfl)))
  k_with "Y 17" => (k_here; (with_reducible show wpAny _ _ (call (Value.builtin "str.find") [Value.str _ _, Value.str _ _, Value.int _ _]) _ _ _); refine find3_lit (by with_reducible assumption) ?_)
  k_with "Y 18" => (k_here; refine item_lit (by with_reducible assumption) (by exact fitsSsize_of (N := 9223372036854775808) (by omega) (by omega) (Int.le_refl _)) (by omega) (by omega) ?_ (by with_unfolding_all rfl) (by intro _; with_unfolding_all rfl))
  k_with "Y 19" => (k_here; (with_reducible show wpAny _ _ (call (Value.builtin "str.find") [Value.str _ _, Value.str _ _]) _ _ _); refine find_lit (by with_reducible assumption) ?_)
  k_with "Y 20" => (k_here; (with_reducible show wpAny _ _ (subscriptTail _ _ (Value.ref _) (Value.int _ _)) _ _ _); k_dflt (refine item_at' (by exact News.isList (by k_asm) (by k_mem)) (by omega) (by omega) (by with_reducible assumption) ?_ (by with_unfolding_all rfl)))
  k_with "Y 21" => (k_here; (with_reducible show wpAny _ _ (subscriptTail _ _ (Value.ref _) (Value.int _ _)) _ _ _); (refine item_at (by exact News.isList (by k_asm) (by k_mem)) (by omega) (by omega) (by with_reducible assumption) ?_ (by with_unfolding_all rfl)))
  k_with "Y 22" => (k_here; (refine slice_upto (by k_asm) (by k_asm) (by k_mem) (by omega) (by omega) ?_ (by with_unfolding_all rfl) (by kmk_pure)))
  k_with "Y 23" => (k_here; k_dflt (refine kda_set (knd := PySem.strKind _ _) (by k_asm) (by k_asm) (by k_updF) (by k_asm) (strKind_is _ _ _ _) (by rw [sizeLine_eq]; omega) ?_))
  k_with "Y 24" => (k_here; (with_reducible show wpAny _ _ (call (Value.type _) [Value.ref _]) _ _ _); k_dflt (refine kde_tupleOf (by k_asm) (by k_asm) (by exact News.isList (by k_asm) (by k_mem)) (by (simp only [List.size_toArray]; omega)) (by exact toList_of _) ?_))
  k_with "Y 25" => (refine neN ?_; (try dsimp only); first | (with_reducible assumption) | (refine Ne.symm ?_; with_reducible assumption) | (refine Nat.ne_of_lt ?_; walk_at "X lt") | (refine Nat.ne_of_gt ?_; walk_at "X lt"))
  k_with "Y 26" => (k_here; (with_reducible show wpAny _ _ (call (Value.builtin _) [Value.ref _]) _ _ _); k_dflt (refine kl_clear (by k_asm) (by k_asm) (by k_upd) (by with_reducible assumption) (by with_reducible assumption) ?_))
  k_with "Y pct" => (k_here; first | refine pct_dq (by with_reducible assumption) ?_ | refine pct_sq (by with_reducible assumption) ?_)
  k_with "X perm" => ((repeat (refine List.forall_mem_cons.mpr ⟨by walk_at "X mem", ?_⟩)); first | (intro p hp; walk_at "X mem"; done) | exact fun _ h => nomatch h)
  trivial
local macro_rules | `(tactic| walk_at $s:str) => `(tactic| k_extra $s)
local macro_rules | `(tactic| k_room) => `(tactic| ((try simp only [depth_under_make, depth_under_kw, depth_in1, depth_deeper, depth_caller]); show _ < 1000; omega))
local macro_rules | `(tactic| walk_at "setItem ref str") => `(tactic| (walk_at "Y 23"; intro h' o' F' N' hd'; (try dsimp only at N')))
local macro_rules | `(tactic| k_all) => `(tactic| walk_at "X all")
local macro_rules | `(tactic| walk_at "call type:tuple") => `(tactic| (walk_at "Y 24"; intro D' h' F' N' l1; (try k_lt l1); (try k_sweep)))
local macro_rules | `(tactic| k_ne) => `(tactic| walk_at "Y 25")
local macro_rules | `(tactic| walk_at "call builtin:list.clear") => `(tactic| (walk_at "Y 26"; intro h' F' N'; (try k_sweep)))


section
structure Sor (w : World) (h : Heap) (x dx nd : Addr) (G : List Nd) (rd np nf : Value) : Prop where
  self : h.get? x = some (instObj 171 dx)
  dict : ∃ t1 t2 t3 t4, h.get? dx = some (dictOf (sdict w.params t1 t2 t3 t4 (.ref nd) rd np nf) 4)
  map : ∃ o, h.get? nd = some o ∧ o.IsDictOf (PySem.strKind PP w) (G.map fun r => (r.nm, Value.ref r.ia))
  info : ∀ r ∈ G, h.get? r.ia = some (infoObj r) ∧ h.get? r.di = some (dictOf [] 0) ∧ h.get? r.sa = some (succObj r)
  apart : (x :: dx :: nd :: addrs G).Nodup

theorem mem_addrs {G : List Nd} {r : Nd} (h : r ∈ G) : r.ia ∈ addrs G ∧ r.di ∈ addrs G ∧ r.sa ∈ addrs G :=
  ⟨List.mem_flatMap.mpr ⟨r, h, by simp⟩, List.mem_flatMap.mpr ⟨r, h, by simp⟩, List.mem_flatMap.mpr ⟨r, h, by simp⟩⟩

theorem Sor.ne {w : World} {h : Heap} {x dx nd : Addr} {G : List Nd} {rd np nf : Value} (S : Sor w h x dx nd G rd np nf) : @Ne Nat x dx ∧ @Ne Nat x nd ∧ @Ne Nat dx nd ∧ (∀ a ∈ addrs G, x ≠ a ∧ dx ≠ a ∧ nd ≠ a) := by
  have := S.apart
  simp only [List.nodup_cons, List.mem_cons, not_or] at this
  refine cps_AAA this ?_
  rintro ⟨a, b, c⟩ ⟨d, e⟩ f _
  clear this
  exact ⟨a, b, d, fun y hy => ⟨fun q => c (q ▸ hy), fun q => e (q ▸ hy), fun q => f (q ▸ hy)⟩⟩

theorem valueAt_none {G : List Nd} {nm : Str} (h : nm ∉ G.map (·.nm)) : valueAt (G.map fun r => (r.nm, Value.ref r.ia)) nm = none := by
  unfold valueAt
  rw [Option.map_eq_none_iff, List.find?_eq_none]
  intro p hp
  with_reducible refine hide ?_
  intro GG hGG
  obtain ⟨r, hr, rfl⟩ := List.mem_map.mp hp
  with_reducible refine hGG ?_
  clear hGG GG
  simp only [decide_eq_true_eq]
  exact fun e => h (e ▸ List.mem_map_of_mem (f := (·.nm)) hr)

theorem valueAt_some {G : List Nd} {r : Nd} (hn : (G.map (·.nm)).Nodup) (hr : r ∈ G) : valueAt (G.map fun r => (r.nm, Value.ref r.ia)) r.nm = some (.ref r.ia) := by
  unfold valueAt
  induction G with
  | nil => cases hr
  | cons q G ih =>
    simp only [List.map_cons, List.find?_cons]
    rw [List.map_cons, List.nodup_cons] at hn
    by_cases e : q.nm = r.nm
    · simp only [e, decide_true, Option.map_some]
      rcases List.mem_cons.mp hr with rfl | hr
      · rfl
      · exact absurd (e ▸ List.mem_map_of_mem (f := (·.nm)) hr) hn.1
    · simp only [e, decide_false]
      rcases List.mem_cons.mp hr with rfl | hr
      · exact absurd rfl e
      · exact ih hn.2 hr

theorem stored_new {G : List Nd} {nm : Str} {v : Value} (h : nm ∉ G.map (·.nm)) : stored (G.map fun r => (r.nm, Value.ref r.ia)) nm v = (G.map fun r => (r.nm, Value.ref r.ia)) ++ [(nm, v)] := by
  unfold stored
  rw [if_neg]
  intro e
  with_reducible refine hide ?_
  intro GG hGG
  obtain ⟨p, hp, q⟩ := List.any_eq_true.mp e
  obtain ⟨r, hr, rfl⟩ := List.mem_map.mp hp
  with_reducible refine hGG ?_
  clear hGG GG
  exact h (of_decide_eq_true q ▸ List.mem_map_of_mem (f := (·.nm)) hr)

theorem kept_of {h g h' : Heap} {L : Addr} {m : Str → Option Value} {l foot : List Addr} (F : Fr g L h' m) (hg : ∀ x o, h.get? x = some o → x ∉ l → g.get? x = some o)
    (hs : ∀ a ∈ l, a ∉ foot → ∀ o, h.get? a = some o → h'.get? a = some o) : ∀ a o, h.get? a = some o → a ∉ foot → h'.get? a = some o := fun a o e q => by
  by_cases hl : a ∈ l
  · exact hs a hl q o e
  · exact F.keep a o (hg a o e hl)
theorem nodup_snoc3 {x dx nd i d l : Addr} {as : List Addr} (h : (x :: dx :: nd :: as).Nodup) (hi : i ∉ x :: dx :: nd :: as) (hd : d ∉ x :: dx :: nd :: as) (hl : l ∉ x :: dx :: nd :: as)
    (n1 : @Ne Nat i d) (n2 : @Ne Nat i l) (n3 : @Ne Nat d l) : (x :: dx :: nd :: (as ++ [i, d, l])).Nodup := by
  have : (x :: dx :: nd :: (as ++ [i, d, l])) = (x :: dx :: nd :: as) ++ [i, d, l] := by simp
  rw [this, List.nodup_append]
  refine ⟨h, ?_, fun a ha b hb e => ?_⟩
  · simp only [List.nodup_cons, List.mem_cons, List.not_mem_nil, or_false, not_or, not_false_eq_true, List.nodup_nil, and_true]
    exact ⟨⟨n1, n2⟩, n3⟩
  · simp only [List.mem_cons, List.not_mem_nil, or_false] at hb
    subst e
    rcases hb with rfl | rfl | rfl
    · exact hi ha
    · exact hd ha
    · exact hl ha

theorem get_new_close {w : World} {h h' : Heap} {x dx nd : Addr} {G : List Nd} {rd np nf : Value} {nm : Str} {t ut : Tok} {i d l : Addr} {o : Obj}
    (S : Sor w h x dx nd G rd np nf) (kp : ∀ a o, h.get? a = some o → a ≠ nd → h'.get? a = some o)
    (e1 : h'.get? i = some { cls := .ref 74, dict := some d, data := .plain, slots := #[some (.str nm t), some (.int 0 ut), some (.ref l)] })
    (e2 : h'.get? d = some (dictOf [] 0)) (e0 : h'.get? l = some (W.listOf #[] 0)) (e5 : h'.get? nd = some o) (hD : o.IsDictOf (PySem.strKind PP w) ((G.map fun r => (r.nm, Value.ref r.ia)) ++ [(nm, .ref i)]))
    (fi : h.get? i = none) (fd : h.get? d = none) (fl : h.get? l = none) (n1 : @Ne Nat i d) (n2 : @Ne Nat i l) (n3 : @Ne Nat d l) :
    ∃ r', Value.ref i = .ref r'.ia ∧ r'.nm = nm ∧ r'.np = 0 ∧ r'.su = [] ∧ Sor w h' x dx nd (G ++ [r']) rd np nf ∧ ∀ a ∈ [r'.ia, r'.di, r'.sa], h.get? a = none := by
  with_reducible refine hide ?_
  intro GG hGG
  obtain ⟨d1, d2, d3, da⟩ := S.ne
  obtain ⟨t1, t2, t3, t4, hdict⟩ := S.dict
  with_reducible refine hGG ?_
  clear hGG GG
  have live : ∀ a ∈ x :: dx :: nd :: addrs G, ∃ o, h.get? a = some o := fun a ha => by
    simp only [List.mem_cons] at ha
    rcases ha with rfl | rfl | rfl | ha
    · exact ⟨_, S.self⟩
    · exact ⟨_, hdict⟩
    · obtain ⟨o, ho, _⟩ := S.map; exact ⟨o, ho⟩
    · with_reducible refine hide ?_
      intro GG hGG
      obtain ⟨r, hr, hm⟩ := List.mem_flatMap.mp ha
      obtain ⟨i1, i2, i3⟩ := S.info r hr
      with_reducible refine hGG ?_
      clear hGG GG
      simp only [List.mem_cons, List.not_mem_nil, or_false] at hm
      rcases hm with rfl | rfl | rfl
      · exact ⟨_, i1⟩
      · exact ⟨_, i2⟩
      · exact ⟨_, i3⟩
  have off : ∀ a, h.get? a = none → a ∉ x :: dx :: nd :: addrs G := fun a q ha => by
    obtain ⟨o, e⟩ := live a ha; rw [q] at e; cases e
  refine ⟨⟨nm, i, d, l, t, 0, ut, [], 0⟩, rfl, rfl, rfl, rfl, ⟨kp _ _ S.self d2, ⟨t1, t2, t3, t4, kp _ _ hdict d3⟩, ⟨o, e5, ?_⟩, fun r hr => ?_, ?_⟩, ?_⟩
  · rw [List.map_append]; exact hD
  · rcases List.mem_append.mp hr with hr | hr
    · with_reducible refine hide ?_
      intro GG hGG
      obtain ⟨i1, i2, i3⟩ := S.info r hr
      obtain ⟨a1, a2, a3⟩ := mem_addrs hr
      with_reducible refine hGG ?_
      clear hGG GG
      exact ⟨kp _ _ i1 (da _ a1).2.2.symm, kp _ _ i2 (da _ a2).2.2.symm, kp _ _ i3 (da _ a3).2.2.symm⟩
    · rw [List.mem_singleton.mp hr]; exact ⟨e1, e2, e0⟩
  · unfold addrs
    rw [List.flatMap_append]
    exact nodup_snoc3 S.apart (off _ fi) (off _ fd) (off _ fl) n1 n2 n3
  · simp only [List.forall_mem_cons]
    exact ⟨fi, fd, fl, fun _ h => (nomatch h)⟩

theorem stored_new' {G : List Nd} {nm : Str} {v : Value} {kvs : List (Str × Value)} (hk : (G.map fun r => (r.nm, Value.ref r.ia)) = kvs) (h : nm ∉ G.map (·.nm)) : stored kvs nm v = kvs ++ [(nm, v)] := hk ▸ stored_new h
set_option maxHeartbeats 4000000 in
theorem get_new {w : World} {A : Around} {b : Heap} {s : Shared} {n : Nat} {x dx nd : Addr} {G : List Nd} {rd np nf : Value} {nm : Str} {t : Tok}
   (C : Cx w (n + 6) A b) (kb : b.StaysIn s.heap) (S : Sor w s.heap x dx nd G rd np nf) (hx : b.get? x = none) (hdx : b.get? dx = none) (hnd : b.get? nd = none) (lo : (nd == sysModules) = false)
   (hv : nm ∉ G.map (·.nm)) (hsz : G.length ≤ 100) :
   codeAny (model PP w) A (.call (.ref 114) ⟨[.ref x, .str nm t], []⟩) (Ret s [nd] fun v h' => ∃ r', v = .ref r'.ia ∧ r'.nm = nm ∧ r'.np = 0 ∧ r'.su = [] ∧ Sor w h' x dx nd (G ++ [r']) rd np nf ∧ ∀ a ∈ [r'.ia, r'.di, r'.sa], s.heap.get? a = none) s := by
  with_reducible refine hide ?_
  intro GG hGG
  refine cps_AAA (S.ne) ?_
  intro d1 d2 d3 da
  refine cps_EEEE (S.dict) ?_
  intro t1 t2 t3 t4 hdict
  obtain ⟨od, hod, hD⟩ := S.map
  with_reducible refine hGG ?_
  clear hGG GG
  have hva := valueAt_none hv
  have hsz' : (G.map fun r => (r.nm, Value.ref r.ia)).length ≤ 100 := by rw [List.length_map]; exact hsz
  generalize hk : (G.map fun r => (r.nm, Value.ref r.ia)) = kvs at *
  have hn : ∀ p ∈ [(x, instObj 171 dx), (dx, dictOf (sdict w.params t1 t2 t3 t4 (.ref nd) rd np nf) 4), (nd, od)], s.heap.get? p.1 = some p.2 ∧ b.get? p.1 = none := by
    simp only [List.forall_mem_cons]
    exact ⟨⟨S.self, hx⟩, ⟨hdict, hdx⟩, ⟨hod, hnd⟩, fun _ h => (nomatch h)⟩
  walk_at "M enter"
  intro g h₁ base outer d u loose mean mg mb F N B X T bg hd hu hg gs ll kh
  dsimp only
  k_fold
  k_steps
  rename Fr g _ _ _ => Ff
  rename News g _ _ _ => Nf
  rename Obj.IsDictOf _ _ (stored kvs nm _) => hDf
  rw [stored_new' hk hv] at hDf
  have e0 := Nf _ (.head _)
  have e1 := Nf _ (.tail _ (.head _))
  have e2 := Nf _ (.tail _ (.tail _ (.head _)))
  have e3 := Nf _ (.tail _ (.tail _ (.tail _ (.head _))))
  have e4 := Nf _ (.tail _ (.tail _ (.tail _ (.tail _ (.head _)))))
  have e5 := Nf _ (.tail _ (.tail _ (.tail _ (.tail _ (.tail _ (.head _))))))
  dsimp only at e0 e1 e2 e3 e4 e5
  have fresh : ∀ a, g.get? a = none → @Ne Nat a x → @Ne Nat a dx → @Ne Nat a nd → s.heap.get? a = none := fun a q q1 q2 q3 => by
    cases e : s.heap.get? a with
    | none => rfl
    | some o => rw [hg a o e (by simp [q1, q2, q3])] at q; cases q
  have kp := kept_of Ff hg (foot := [nd]) (by
    simp only [List.map_cons, List.map_nil, List.forall_mem_cons]
    exact ⟨fun _ o e => Option.some.inj (S.self.symm.trans e) ▸ e3.1, fun _ o e => Option.some.inj (hdict.symm.trans e) ▸ e4.1, fun q => absurd (.head _) q, fun _ h => (nomatch h)⟩)
  exact ⟨_, _, _, rfl, rfl, kp, get_new_close S (fun a o e q => kp a o e (by simpa using q)) e1.1 e2.1 e0.1 e5.1 (hk ▸ hDf) (fresh _ e1.2.2 (by omega) (by omega) (by omega)) (fresh _ e2.2.2 (by omega) (by omega) (by omega)) (fresh _ e0.2.2 (by omega) (by omega) (by omega)) (by omega) (by omega) (by omega)⟩

set_option maxHeartbeats 4000000 in
theorem get_old {w : World} {A : Around} {b : Heap} {s : Shared} {n : Nat} {x dx nd : Addr} {G : List Nd} {rd np nf : Value} {r : Nd} {t : Tok}
   (C : Cx w (n + 6) A b) (kb : b.StaysIn s.heap) (S : Sor w s.heap x dx nd G rd np nf) (hx : b.get? x = none) (hdx : b.get? dx = none) (hnd : b.get? nd = none) (lo : (nd == sysModules) = false)
   (hnn : (G.map (·.nm)).Nodup) (hr : r ∈ G) :
   codeAny (model PP w) A (.call (.ref 114) ⟨[.ref x, .str r.nm t], []⟩) (Ret s [] fun v h' => v = .ref r.ia) s := by
  with_reducible refine hide ?_
  intro GG hGG
  refine cps_AAA (S.ne) ?_
  intro d1 d2 d3 da
  refine cps_EEEE (S.dict) ?_
  intro t1 t2 t3 t4 hdict
  obtain ⟨od, hod, hD⟩ := S.map
  with_reducible refine hGG ?_
  clear hGG GG
  have hva := valueAt_some hnn hr
  generalize hk : (G.map fun r => (r.nm, Value.ref r.ia)) = kvs at *
  have hn : ∀ p ∈ [(x, instObj 171 dx), (dx, dictOf (sdict w.params t1 t2 t3 t4 (.ref nd) rd np nf) 4), (nd, od)], s.heap.get? p.1 = some p.2 ∧ b.get? p.1 = none := by
    walk_at "M news3"
  walk_at "M enter"
  intro g h₁ base outer d u loose mean mg mb F N B X T bg hd hu hg gs ll kh
  dsimp only
  k_fold
  k_steps
  rename Fr g _ _ _ => Ff
  rename News g _ _ _ => Nf
  have e0 := Nf _ (.head _)
  have e1 := Nf _ (.tail _ (.head _))
  have e2 := Nf _ (.tail _ (.tail _ (.head _)))
  have kp := kept_of Ff hg (foot := []) (by
    simp only [List.map_cons, List.map_nil, List.forall_mem_cons]
    exact ⟨fun _ o e => Option.some.inj (S.self.symm.trans e) ▸ e0.1, fun _ o e => Option.some.inj (hdict.symm.trans e) ▸ e1.1, fun _ o e => Option.some.inj (hod.symm.trans e) ▸ e2.1, fun _ h => (nomatch h)⟩)
  exact ⟨_, _, _, rfl, rfl, kp, rfl⟩
end

section
noncomputable def Off (g : Heap) (L : Addr) (as : List Addr) : Prop := ∀ a ∈ as, a ≠ L ∧ g.get? a = none
noncomputable abbrev feet (x dx nd : Addr) (G : List Nd) : List Addr := x :: dx :: nd :: addrs G

theorem led_addrs (G : List Nd) : (led G).map (·.1) = addrs G := by
  unfold led addrs
  rw [List.map_flatMap]; rfl

theorem Sor.led {w : World} {h : Heap} {x dx nd : Addr} {G : List Nd} {rd np nf : Value} (S : Sor w h x dx nd G rd np nf) : ∀ p ∈ Mine.led G, h.get? p.1 = some p.2 := fun p hp => by
  with_reducible refine hide ?_
  intro GG hGG
  obtain ⟨r, hr, hm⟩ := List.mem_flatMap.mp hp
  obtain ⟨i1, i2, i3⟩ := S.info r hr
  with_reducible refine hGG ?_
  clear hGG GG
  simp only [List.mem_cons, List.not_mem_nil, or_false] at hm
  rcases hm with rfl | rfl | rfl
  · exact i1
  · exact i2
  · exact i3

theorem led_append (G G' : List Nd) : led (G ++ G') = led G ++ led G' := List.flatMap_append

theorem apart_facts {x dx nd : Addr} {pre post : List Nd} {r : Nd} (ap : (feet x dx nd (pre ++ r :: post)).Nodup) :
    (∀ p ∈ Mine.led pre ++ Mine.led post, p.1 ≠ x) ∧ (∀ p ∈ Mine.led pre ++ Mine.led post, p.1 ≠ dx) ∧ (∀ p ∈ Mine.led pre ++ Mine.led post, p.1 ≠ nd) ∧ (∀ p ∈ Mine.led pre ++ Mine.led post, p.1 ≠ r.ia) ∧ (∀ p ∈ Mine.led pre ++ Mine.led post, p.1 ≠ r.di) ∧ (∀ p ∈ Mine.led pre ++ Mine.led post, p.1 ≠ r.sa) ∧
      @Ne Nat x r.ia ∧ @Ne Nat x r.di ∧ @Ne Nat x r.sa ∧ @Ne Nat dx r.ia ∧ @Ne Nat dx r.di ∧ @Ne Nat dx r.sa ∧ @Ne Nat nd r.ia ∧ @Ne Nat nd r.di ∧ @Ne Nat nd r.sa ∧ @Ne Nat r.ia r.di ∧ @Ne Nat r.ia r.sa ∧ @Ne Nat r.di r.sa := by
  have nn := ap
  have e : (x :: dx :: nd :: addrs (pre ++ r :: post)).Perm (x :: dx :: nd :: r.ia :: r.di :: r.sa :: ((Mine.led pre ++ Mine.led post).map (·.1))) := by
    refine .cons _ (.cons _ (.cons _ ?_))
    rw [List.map_append, led_addrs, led_addrs]
    unfold addrs
    rw [List.flatMap_append, List.flatMap_cons]
    refine List.perm_append_comm.trans ?_
    show ([r.ia, r.di, r.sa] ++ _ ++ _).Perm ([r.ia, r.di, r.sa] ++ _)
    rw [List.append_assoc]
    exact (List.Perm.append_left _ List.perm_append_comm)
  have nn' := e.nodup_iff.mp nn
  generalize Mine.led pre ++ Mine.led post = tl at *
  simp only [List.nodup_cons, List.mem_cons, not_or] at nn'
  refine cps_AAAAAA nn' ?_
  rintro ⟨a1, a2, a3, a4, a5, a6⟩ ⟨b1, b2, b3, b4, b5⟩ ⟨c1, c2, c3, c4⟩ ⟨e1, e2, e3⟩ ⟨f1, f2⟩ f3 _
  clear nn'
  have off : ∀ a, a ∉ tl.map (·.1) → ∀ p ∈ tl, p.1 ≠ a := fun a q p hp z => q (z ▸ List.mem_map_of_mem (f := (·.1)) hp)
  exact ⟨off _ a6, off _ b5, off _ c4, off _ e3, off _ f2, off _ f3, a3, a4, a5, b2, b3, b4, c1, c2, c3, e1, e2, f1⟩

theorem Sor.open_ {w : World} {h : Heap} {x dx nd : Addr} {pre post : List Nd} {r : Nd} {rd np nf : Value} (S : Sor w h x dx nd (pre ++ r :: post) rd np nf) :
    (∀ p ∈ Mine.led pre ++ Mine.led post, h.get? p.1 = some p.2) ∧ (∀ p ∈ Mine.led pre ++ Mine.led post, p.1 ≠ x) ∧ (∀ p ∈ Mine.led pre ++ Mine.led post, p.1 ≠ dx) ∧ (∀ p ∈ Mine.led pre ++ Mine.led post, p.1 ≠ nd) ∧ (∀ p ∈ Mine.led pre ++ Mine.led post, p.1 ≠ r.ia) ∧ (∀ p ∈ Mine.led pre ++ Mine.led post, p.1 ≠ r.di) ∧ (∀ p ∈ Mine.led pre ++ Mine.led post, p.1 ≠ r.sa) ∧
      @Ne Nat x r.ia ∧ @Ne Nat x r.di ∧ @Ne Nat x r.sa ∧ @Ne Nat dx r.ia ∧ @Ne Nat dx r.di ∧ @Ne Nat dx r.sa ∧ @Ne Nat nd r.ia ∧ @Ne Nat nd r.di ∧ @Ne Nat nd r.sa ∧ @Ne Nat r.ia r.di ∧ @Ne Nat r.ia r.sa ∧ @Ne Nat r.di r.sa := by
  refine ⟨fun p hp => S.led p ?_, apart_facts S.apart⟩
  rw [led_append]
  rcases List.mem_append.mp hp with q | q
  · exact List.mem_append_left _ q
  · exact List.mem_append_right _ (show p ∈ Mine.led (r :: post) from List.mem_append_right _ q)

theorem get_any {w : World} {A : Around} {b : Heap} {s : Shared} {n : Nat} {x dx nd : Addr} {G : List Nd} {rd np nf : Value} {nm : Str} {t : Tok}
   (C : Cx w (n + 6) A b) (kb : b.StaysIn s.heap) (S : Sor w s.heap x dx nd G rd np nf) (hx : b.get? x = none) (hdx : b.get? dx = none) (hnd : b.get? nd = none) (lo : (nd == sysModules) = false)
   (hnn : (G.map (·.nm)).Nodup) (hsz : G.length ≤ 100) :
   codeAny (model PP w) A (.call (.ref 114) ⟨[.ref x, .str nm t], []⟩) (Ret s [nd] fun v h' => ∃ pre r post, v = .ref r.ia ∧ r.nm = nm ∧ Sor w h' x dx nd (pre ++ r :: post) rd np nf ∧
     ((pre ++ r :: post = G ∧ nm ∈ G.map (·.nm)) ∨ (pre = G ∧ post = [] ∧ nm ∉ G.map (·.nm) ∧ r.np = 0 ∧ r.su = [] ∧ ∀ a ∈ [r.ia, r.di, r.sa], s.heap.get? a = none))) s := by
  by_cases hv : nm ∈ G.map (·.nm)
  · with_reducible refine hide ?_
    intro GG hGG
    obtain ⟨r, hr, rfl⟩ := List.mem_map.mp hv
    with_reducible refine hGG ?_
    clear hGG GG
    refine codeAny_mono (get_old C kb S hx hdx hnd lo hnn hr) fun rr s' z => ?_
    with_reducible refine hide ?_
    intro GG hGG
    refine cps_Ret z ?_
    rintro v h' tk rfl rfl k rfl
    clear z
    obtain ⟨pre, post, rfl⟩ := List.append_of_mem hr
    with_reducible refine hGG ?_
    clear hGG GG
    have k' : ∀ b o, s.heap.get? b = some o → h'.get? b = some o := fun b o e => k b o e (by simp)
    refine ⟨_, h', tk, rfl, rfl, fun b o e _ => k' b o e, pre, r, post, rfl, rfl, ?_, .inl ⟨rfl, hv⟩⟩
    with_reducible refine hide ?_
    intro GG hGG
    refine cps_EEEE (S.dict) ?_
    intro y1 y2 y3 y4 hdict
    obtain ⟨o, ho, hD⟩ := S.map
    with_reducible refine hGG ?_
    clear hGG GG
    exact ⟨k' _ _ S.self, ⟨y1, y2, y3, y4, k' _ _ hdict⟩, ⟨o, k' _ _ ho, hD⟩, fun q hq => ⟨k' _ _ (S.info q hq).1, k' _ _ (S.info q hq).2.1, k' _ _ (S.info q hq).2.2⟩, S.apart⟩
  · refine codeAny_mono (get_new C kb S hx hdx hnd lo hv hsz) fun rr s' z => ?_
    refine cps_Ret z ?_
    rintro v h' tk rfl rfl k ⟨r', rfl, e1, e2, e3, S', fr⟩
    clear z
    exact ⟨_, h', tk, rfl, rfl, k, G, r', [], rfl, e1, S', .inr ⟨rfl, rfl, hv, e2, e3, fr⟩⟩

theorem Sor.of_news {w : World} {h : Heap} {x dx nd : Addr} {pre post : List Nd} {r : Nd} {rd np nf : Value} {t1 t2 t3 t4 : Tok} {od : Obj}
    (e1 : h.get? x = some (instObj 171 dx)) (e2 : h.get? dx = some (dictOf (sdict w.params t1 t2 t3 t4 (.ref nd) rd np nf) 4)) (e3 : h.get? nd = some od)
    (hD : od.IsDictOf (PySem.strKind PP w) ((pre ++ r :: post).map fun r => (r.nm, Value.ref r.ia)))
    (e4 : h.get? r.ia = some (infoObj r)) (e5 : h.get? r.di = some (dictOf [] 0)) (e6 : h.get? r.sa = some (succObj r))
    (ht : ∀ p ∈ Mine.led pre ++ Mine.led post, h.get? p.1 = some p.2) (ap : (feet x dx nd (pre ++ r :: post)).Nodup) : Sor w h x dx nd (pre ++ r :: post) rd np nf := by
  refine ⟨e1, ⟨t1, t2, t3, t4, e2⟩, ⟨od, e3, hD⟩, fun q hq => ?_, ap⟩
  rcases List.mem_append.mp hq with hq | hq
  · have z := fun p (hp : p ∈ Mine.led [q]) => ht p (List.mem_append_left _ (List.mem_flatMap.mpr ⟨q, hq, by simpa [Mine.led] using hp⟩))
    exact ⟨z _ (.head _), z _ (.tail _ (.head _)), z _ (.tail _ (.tail _ (.head _)))⟩
  · rcases List.mem_cons.mp hq with rfl | hq
    · exact ⟨e4, e5, e6⟩
    · have z := fun p (hp : p ∈ Mine.led [q]) => ht p (List.mem_append_right _ (List.mem_flatMap.mpr ⟨q, hq, by simpa [Mine.led] using hp⟩))
      exact ⟨z _ (.head _), z _ (.tail _ (.head _)), z _ (.tail _ (.tail _ (.head _)))⟩

theorem Sor.all {w : World} {h : Heap} {x dx nd : Addr} {G : List Nd} {rd np nf : Value} {t1 t2 t3 t4 : Tok} {od : Obj}
    (e1 : h.get? x = some (instObj 171 dx)) (e2 : h.get? dx = some (dictOf (sdict w.params t1 t2 t3 t4 (.ref nd) rd np nf) 4)) (e3 : h.get? nd = some od)
    (hD : od.IsDictOf (PySem.strKind PP w) (G.map fun r => (r.nm, Value.ref r.ia))) (ht : ∀ p ∈ Mine.led G, h.get? p.1 = some p.2) (ap : (feet x dx nd G).Nodup) : Sor w h x dx nd G rd np nf := by
  refine ⟨e1, ⟨t1, t2, t3, t4, e2⟩, ⟨od, e3, hD⟩, fun q hq => ?_, ap⟩
  have z := fun p (hp : p ∈ Mine.led [q]) => ht p (List.mem_flatMap.mpr ⟨q, hq, by simpa [Mine.led] using hp⟩)
  exact ⟨z _ (.head _), z _ (.tail _ (.head _)), z _ (.tail _ (.tail _ (.head _)))⟩

theorem Sor.news {w : World} {g h : Heap} {L x dx nd : Addr} {pre post : List Nd} {r : Nd} {rd np nf : Value} (S : Sor w h x dx nd (pre ++ r :: post) rd np nf) (O : Off g L (feet x dx nd (pre ++ r :: post))) :
    ∃ t1 t2 t3 t4 od, od.IsDictOf (PySem.strKind PP w) ((pre ++ r :: post).map fun r => (r.nm, Value.ref r.ia)) ∧
      News g L h ((x, instObj 171 dx) :: (dx, dictOf (sdict w.params t1 t2 t3 t4 (.ref nd) rd np nf) 4) :: (nd, od) :: (r.ia, infoObj r) :: (r.di, dictOf [] 0) :: (r.sa, succObj r) :: (Mine.led pre ++ Mine.led post)) := by
  with_reducible refine hide ?_
  intro GG hGG
  refine cps_EEEE (S.dict) ?_
  intro t1 t2 t3 t4 hdict
  obtain ⟨od, hod, hD⟩ := S.map
  obtain ⟨i1, i2, i3⟩ := S.info r (by simp)
  obtain ⟨a1, a2, a3⟩ := mem_addrs (G := pre ++ r :: post) (r := r) (by simp)
  with_reducible refine hGG ?_
  clear hGG GG
  refine ⟨t1, t2, t3, t4, od, hD, ?_⟩
  have f : ∀ {a : Addr} {o : Obj}, h.get? a = some o → a ∈ feet x dx nd (pre ++ r :: post) → h.get? a = some o ∧ a ≠ L ∧ g.get? a = none := fun e q => ⟨e, O _ q⟩
  refine List.forall_mem_cons.mpr ⟨f S.self (.head _), List.forall_mem_cons.mpr ⟨f hdict (.tail _ (.head _)), List.forall_mem_cons.mpr ⟨f hod (.tail _ (.tail _ (.head _))), List.forall_mem_cons.mpr ⟨f i1 (.tail _ (.tail _ (.tail _ a1))),
    List.forall_mem_cons.mpr ⟨f i2 (.tail _ (.tail _ (.tail _ a2))), List.forall_mem_cons.mpr ⟨f i3 (.tail _ (.tail _ (.tail _ a3))), fun p hp => ?_⟩⟩⟩⟩⟩⟩
  have hp' : p ∈ Mine.led (pre ++ r :: post) := by
    rw [led_append]
    rcases List.mem_append.mp hp with q | q
    · exact List.mem_append_left _ q
    · exact List.mem_append_right _ (show p ∈ Mine.led (r :: post) from List.mem_append_right _ q)
  exact f (S.led p hp') (.tail _ (.tail _ (.tail _ (led_addrs (pre ++ r :: post) ▸ List.mem_map_of_mem (f := (·.1)) hp'))))

theorem Off.more {g h : Heap} {L : Addr} {m : Str → Option Value} {as bs : List Addr} (O : Off g L as) (F : Fr g L h m) (k : ∀ a ∈ bs, a ∈ as ∨ h.get? a = none) : Off g L bs := fun a ha => by
  rcases k a ha with q | q
  · exact O a q
  · refine cps_EEEA (F.ns) ?_
    intro oL _ _ hL _
    refine And.intro (fun e => by rw [e, hL] at q; cases q) ?_
    cases e : g.get? a with
    | none => rfl
    | some o => have := F.keep a o e; rw [q] at this; cases this

theorem addrs_append (G G' : List Nd) : addrs (G ++ G') = addrs G ++ addrs G' := List.flatMap_append
theorem addrs_turn {pre post : List Nd} {r r' : Nd} (e2 : r'.ia = r.ia) (e3 : r'.di = r.di) (e4 : r'.sa = r.sa) : addrs (pre ++ r' :: post) = addrs (pre ++ r :: post) := by
  unfold addrs
  rw [List.flatMap_append, List.flatMap_append, List.flatMap_cons, List.flatMap_cons, e2, e3, e4]
theorem led_rest {pre post : List Nd} (r : Nd) : ∀ p ∈ led pre ++ led post, p.1 ∈ addrs (pre ++ r :: post) := fun p hp => by
  rw [addrs_append]
  rcases List.mem_append.mp hp with q | q
  · exact List.mem_append_left _ (led_addrs pre ▸ List.mem_map_of_mem (f := (·.1)) q)
  · exact List.mem_append_right _ (show p.1 ∈ [r.ia, r.di, r.sa] ++ addrs post from List.mem_append_right _ (led_addrs post ▸ List.mem_map_of_mem (f := (·.1)) q))

noncomputable def GetRel (h : Heap) (x dx nd : Addr) (G pre : List Nd) (r : Nd) (post : List Nd) (nm : Str) : Prop :=
  ((pre ++ r :: post = G ∧ nm ∈ G.map (·.nm)) ∨ (pre = G ∧ post = [] ∧ nm ∉ G.map (·.nm) ∧ r.np = 0 ∧ r.su = [])) ∧ ∀ y ∈ feet x dx nd (pre ++ r :: post), y ∈ feet x dx nd G ∨ h.get? y = none

theorem get_step {w : World} (n : Nat) {d u : Nat} {outer : List Env} {base g : Heap} {s : Shared} {L a : Addr} {m : Str → Option Value} {name : Str} {scope : Scope} {cd : Value}
    {loose : List Str} {mean : ExcName → Option Value} {mg mb : Str → Option Value} {Q : Value → Shared → Prop} {E : Value → Shared → Prop} {x dx nd : Addr} {G : List Nd} {rd np nf : Value} {nm : Str} {t : Tok}
    (B : Below (mkA d u outer) base outer g) (F : Fr g L s.heap m) (X : (hd.heap_39 w.params).In g) (T : Top hd.view_39 loose mean mg mb g) (hd' : d + 1 + (n + 6) ≤ 900 ∧ u + 3 + 20 * (n + 6) ≤ 9000)
    (S : Sor w s.heap x dx nd G rd np nf) (O : Off g L (feet x dx nd G)) (lo : (nd == sysModules) = false) (hnn : (G.map (·.nm)).Nodup) (hsz : G.length ≤ 100)
    (ex : List (Addr × Obj)) (Nex : News g L s.heap ex) (hex : ∀ p ∈ ex, p.1 ∉ feet x dx nd G)
    (h : ∀ h' tk pre r post t1 t2 t3 t4 od, Fr g L h' m → Sor w h' x dx nd (pre ++ r :: post) rd np nf → Off g L (feet x dx nd (pre ++ r :: post)) → r.nm = nm → GetRel s.heap x dx nd G pre r post nm →
      od.IsDictOf (PySem.strKind PP w) ((pre ++ r :: post).map fun r => (r.nm, Value.ref r.ia)) →
      News g L h' (ex ++ ((x, instObj 171 dx) :: (dx, dictOf (sdict w.params t1 t2 t3 t4 (.ref nd) rd np nf) 4) :: (nd, od) :: (r.ia, infoObj r) :: (r.di, dictOf [] 0) :: (r.sa, succObj r) :: (Mine.led pre ++ Mine.led post))) →
      (∀ p ∈ ex, p.1 ∉ feet x dx nd (pre ++ r :: post)) → Q (.ref r.ia) { s with heap := h', toks := tk }) (hk : scope.kind = .function) :
    wpAny (model PP w) ((mkA d u outer).deeper (envOf name scope L a cd)) (call (.ref 114) [.ref x, .str nm t]) Q E s := by
  with_reducible refine hide ?_
  intro GG hGG
  refine cps_EEEE (S.dict) ?_
  intro y1 y2 y3 y4 hdict
  obtain ⟨od, hod, hD⟩ := S.map
  with_reducible refine hGG ?_
  clear hGG GG
  have N : News g L s.heap [(x, instObj 171 dx), (dx, dictOf (sdict w.params y1 y2 y3 y4 (.ref nd) rd np nf) 4), (nd, od)] := by
    refine List.forall_mem_cons.mpr ⟨⟨S.self, O _ (.head _)⟩, List.forall_mem_cons.mpr ⟨⟨hdict, O _ (.tail _ (.head _))⟩, List.forall_mem_cons.mpr ⟨⟨hod, O _ (.tail _ (.tail _ (.head _)))⟩, fun _ h => nomatch h⟩⟩⟩
  refine use_call (n + 6) B F N X T hd' (fun b' A' C1 k1 n1 => get_any C1 k1 S (n1 _ (.head _)) (n1 _ (.tail _ (.head _))) (n1 _ (.tail _ (.tail _ (.head _)))) lo hnn hsz)
    (fun y hy => by rw [List.mem_singleton.mp hy]; exact O nd (.tail _ (.tail _ (.head _)))) ?_ hk
  intro v h2 tk2 F2 k2 hXX
  refine cps_EEEAAA hXX ?_
  rintro pre r post rfl hrn S2 hG
  clear hXX
  have new2 : ∀ y ∈ feet x dx nd (pre ++ r :: post), y ∈ feet x dx nd G ∨ s.heap.get? y = none := fun y hy => by
    rcases hG with ⟨e, _⟩ | ⟨rfl, rfl, _, _, _, fr⟩
    · rw [e] at hy; exact .inl hy
    · rw [show feet x dx nd (pre ++ [r]) = feet x dx nd pre ++ addrs [r] by simp [feet, addrs_append]] at hy
      rcases List.mem_append.mp hy with q | q
      · exact .inl q
      · exact .inr (fr y (by simpa [addrs] using q))
  have O2 : Off g L (feet x dx nd (pre ++ r :: post)) := O.more F new2
  refine cps_EEEEEA (S2.news O2) ?_
  intro t1 t2 t3 t4 od2 hD2 N2
  refine h h2 tk2 pre r post t1 t2 t3 t4 od2 F2 S2 O2 hrn ⟨?_, new2⟩ hD2 (fun p hp => ?_) (fun p hp hy => ?_)
  · rcases hG with z | ⟨z1, z2, z3, z4, z5, _⟩
    · exact .inl z
    · exact .inr ⟨z1, z2, z3, z4, z5⟩
  · rcases List.mem_append.mp hp with q | q
    · exact ⟨k2 _ _ (Nex p q).1 (fun z => hex p q (by rw [List.mem_singleton.mp z]; exact .tail _ (.tail _ (.head _)))), (Nex p q).2⟩
    · exact N2 p q
  · rcases new2 _ hy with z | z
    · exact hex p hp z
    · rw [(Nex p hp).1] at z; cases z

noncomputable def Nd.view (r : Nd) : Str × Int × List Str := (r.nm, r.np, r.su.map strOf)
noncomputable def view (G : List Nd) : List (Str × Int × List Str) := G.map Nd.view
noncomputable abbrev View := List (Str × Int × List Str)
noncomputable def vens (V : View) (nm : Str) : View := if nm ∈ V.map (·.1) then V else V ++ [(nm, 0, [])]
noncomputable def vmod (V : View) (nm : Str) (f : Str × Int × List Str → Str × Int × List Str) : View := V.map fun e => if e.1 = nm then f e else e
noncomputable def vadd (V : View) (a c : Str) : View := vmod (vens (vmod (vens V a) a fun e => (e.1, e.2.1 + 1, e.2.2)) c) c fun e => (e.1, e.2.1, e.2.2 ++ [a])

theorem view_names (G : List Nd) : (view G).map (·.1) = G.map (·.nm) := by unfold view; rw [List.map_map]; rfl
theorem GetRel.view {h : Heap} {x dx nd : Addr} {G pre post : List Nd} {r : Nd} {nm : Str} (R : GetRel h x dx nd G pre r post nm) (hr : r.nm = nm) : Mine.view (pre ++ r :: post) = vens (Mine.view G) nm := by
  unfold vens
  rw [view_names]
  rcases R.1 with ⟨e, hm⟩ | ⟨rfl, rfl, hm, e1, e2⟩
  · rw [if_pos hm, e]
  · rw [if_neg hm]
    unfold Mine.view
    rw [List.map_append]
    simp [Nd.view, hr, e1, e2]
theorem GetRel.nodup {h : Heap} {x dx nd : Addr} {G pre post : List Nd} {r : Nd} {nm : Str} (R : GetRel h x dx nd G pre r post nm) (hr : r.nm = nm) (hn : (G.map (·.nm)).Nodup) : ((pre ++ r :: post).map (·.nm)).Nodup := by
  rcases R.1 with ⟨e, hm⟩ | ⟨rfl, rfl, hm, e1, e2⟩
  · rw [e]; exact hn
  · rw [List.map_append, List.nodup_append]
    refine ⟨hn, by simp, fun a ha b hb e => hm ?_⟩
    simp only [List.map_cons, List.map_nil, List.mem_cons, List.not_mem_nil, or_false] at hb
    rw [← hr, ← hb, ← e]; exact ha
theorem GetRel.length {h : Heap} {x dx nd : Addr} {G pre post : List Nd} {r : Nd} {nm : Str} (R : GetRel h x dx nd G pre r post nm) : (pre ++ r :: post).length ≤ G.length + 1 := by
  rcases R.1 with ⟨e, hm⟩ | ⟨rfl, rfl, hm, e1, e2⟩
  · rw [e]; omega
  · simp
theorem view_turn {pre post : List Nd} {r r' : Nd} {f : Str × Int × List Str → Str × Int × List Str} (hn : ((pre ++ r :: post).map (·.nm)).Nodup) (e : r'.view = f r.view) :
    view (pre ++ r' :: post) = vmod (view (pre ++ r :: post)) r.nm f := by
  unfold vmod view
  rw [List.map_append, List.map_append, List.map_append, List.map_cons, List.map_cons, List.map_cons]
  rw [List.map_append, List.map_cons, List.nodup_append] at hn
  with_reducible refine hide ?_
  intro GG hGG
  obtain ⟨_, h2, h3⟩ := hn
  with_reducible refine hGG ?_
  clear hGG GG
  rw [List.nodup_cons] at h2
  have same : ∀ l : List Nd, r.nm ∉ l.map (·.nm) → (l.map Nd.view).map (fun e => if e.1 = r.nm then f e else e) = l.map Nd.view := fun l hl => by
    rw [List.map_map]
    refine List.map_congr_left fun q hq => ?_
    show (if q.nm = r.nm then f q.view else q.view) = q.view
    have hne : ¬ q.nm = r.nm := fun z => hl (z ▸ List.mem_map_of_mem (f := (·.nm)) hq)
    rw [if_neg hne]
  have hpre : r.nm ∉ pre.map (·.nm) := fun z => h3 _ z _ (.head _) rfl
  rw [same pre hpre, same post h2.1, e]
  congr 2
  show f r.view = if r.nm = r.nm then f r.view else r.view
  rw [if_pos rfl]

theorem feet_off {x dx nd I : Addr} {pre post : List Nd} {r : Nd} {o1 o2 o3 o4 o5 o6 : Obj}
    (h : ∀ p ∈ (x, o1) :: (dx, o2) :: (nd, o3) :: (r.ia, o4) :: (r.di, o5) :: (r.sa, o6) :: (led pre ++ led post), p.1 ≠ I) : I ∉ feet x dx nd (pre ++ r :: post) := fun hy => by
  simp only [List.forall_mem_cons] at h
  refine cps_AAAAAA h ?_
  intro h1 h2 h3 h4 h5 h6 h7
  clear h
  rcases List.mem_cons.mp hy with q | hy
  · exact h1 q.symm
  rcases List.mem_cons.mp hy with q | hy
  · exact h2 q.symm
  rcases List.mem_cons.mp hy with q | hy
  · exact h3 q.symm
  rw [addrs_append] at hy
  rcases List.mem_append.mp hy with hy | hy
  · with_reducible refine hide ?_
    intro GG hGG
    obtain ⟨p, hp, q⟩ := List.mem_map.mp (led_addrs pre ▸ hy)
    with_reducible refine hGG ?_
    clear hGG GG
    exact h7 p (List.mem_append_left _ hp) q
  · have hy : I ∈ r.ia :: r.di :: r.sa :: addrs post := hy
    rcases List.mem_cons.mp hy with q | hy
    · exact h4 q.symm
    rcases List.mem_cons.mp hy with q | hy
    · exact h5 q.symm
    rcases List.mem_cons.mp hy with q | hy
    · exact h6 q.symm
    with_reducible refine hide ?_
    intro GG hGG
    obtain ⟨p, hp, q⟩ := List.mem_map.mp (led_addrs post ▸ hy)
    with_reducible refine hGG ?_
    clear hGG GG
    exact h7 p (List.mem_append_right _ hp) q

theorem feet_ne {x dx nd D : Addr} {pre post : List Nd} {r : Nd} (h : D ∉ feet x dx nd (pre ++ r :: post)) :
    @Ne Nat x D ∧ @Ne Nat dx D ∧ @Ne Nat nd D ∧ @Ne Nat r.ia D ∧ @Ne Nat r.di D ∧ @Ne Nat r.sa D ∧ ∀ p ∈ led pre ++ led post, p.1 ≠ D := by
  with_reducible refine hide ?_
  intro GG hGG
  obtain ⟨m1, m2, m3⟩ := mem_addrs (G := pre ++ r :: post) (r := r) (by simp)
  with_reducible refine hGG ?_
  clear hGG GG
  exact ⟨fun q => h (q ▸ .head _), fun q => h (q ▸ .tail _ (.head _)), fun q => h (q ▸ .tail _ (.tail _ (.head _))), fun q => h (q ▸ .tail _ (.tail _ (.tail _ m1))), fun q => h (q ▸ .tail _ (.tail _ (.tail _ m2))),
    fun q => h (q ▸ .tail _ (.tail _ (.tail _ m3))), fun p hp q => h (q ▸ .tail _ (.tail _ (.tail _ (led_rest r p hp))))⟩

theorem Sor.of_N {w : World} {g h : Heap} {L x dx nd : Addr} {pre post : List Nd} {r : Nd} {rd np nf : Value} {t1 t2 t3 t4 : Tok} {od : Obj} {ex : List (Addr × Obj)}
    (N : News g L h (ex ++ ((x, instObj 171 dx) :: (dx, dictOf (sdict w.params t1 t2 t3 t4 (.ref nd) rd np nf) 4) :: (nd, od) :: (r.ia, infoObj r) :: (r.di, dictOf [] 0) :: (r.sa, succObj r) :: (Mine.led pre ++ Mine.led post))))
    (hD : od.IsDictOf (PySem.strKind PP w) ((pre ++ r :: post).map fun r => (r.nm, Value.ref r.ia))) (ap : (feet x dx nd (pre ++ r :: post)).Nodup) : Sor w h x dx nd (pre ++ r :: post) rd np nf := by
  have f := fun p hp => (N p (List.mem_append_right _ hp)).1
  exact Sor.of_news (f _ (.head _)) (f _ (.tail _ (.head _))) (f _ (.tail _ (.tail _ (.head _)))) hD (f _ (.tail _ (.tail _ (.tail _ (.head _))))) (f _ (.tail _ (.tail _ (.tail _ (.tail _ (.head _)))))) (f _ (.tail _ (.tail _ (.tail _ (.tail _ (.tail _ (.head _)))))))
    (fun p hp => f p (.tail _ (.tail _ (.tail _ (.tail _ (.tail _ (.tail _ hp))))))) ap
theorem feet_turn {x dx nd : Addr} {pre post : List Nd} {r r' : Nd} (e2 : r'.ia = r.ia) (e3 : r'.di = r.di) (e4 : r'.sa = r.sa) : feet x dx nd (pre ++ r' :: post) = feet x dx nd (pre ++ r :: post) :=
  congrArg (fun l => x :: dx :: nd :: l) (addrs_turn e2 e3 e4)
theorem GetRel.su {h : Heap} {x dx nd : Addr} {G pre post : List Nd} {r : Nd} {nm : Str} {k : Nat} (R : GetRel h x dx nd G pre r post nm) (hs : ∀ q ∈ G, q.su.length ≤ k) : ∀ q ∈ pre ++ r :: post, q.su.length ≤ k := fun q hq => by
  rcases R.1 with ⟨e, hm⟩ | ⟨rfl, rfl, hm, e1, e2⟩
  · exact hs q (e ▸ hq)
  · rcases List.mem_append.mp hq with z | z
    · exact hs q z
    · rw [List.mem_singleton.mp z, e2]; exact Nat.zero_le _
theorem all_turn {pre post : List Nd} {r r' : Nd} {P : Nd → Prop} (h : ∀ q ∈ pre ++ r :: post, P q) (hr : P r → P r') : ∀ q ∈ pre ++ r' :: post, P q := fun q hq => by
  rcases List.mem_append.mp hq with z | z
  · exact h q (List.mem_append_left _ z)
  · rcases List.mem_cons.mp z with rfl | z
    · exact hr (h r (by simp))
    · exact h q (List.mem_append_right _ (.tail _ z))

theorem pull {g h : Heap} {L D : Addr} {o : Obj} {rest : List (Addr × Obj)} {P : Prop} (_ : News g L h ((D, o) :: rest)) (off : ∀ p ∈ rest, p.1 ≠ D) (k : (∀ p ∈ rest, p.1 ≠ D) → P) : P := k off
theorem feet_off' {x dx nd D : Addr} {G : List Nd} {o1 o2 o3 : Obj} (h : ∀ p ∈ (x, o1) :: (dx, o2) :: (nd, o3) :: led G, p.1 ≠ D) : D ∉ feet x dx nd G := fun hy => by
  simp only [List.forall_mem_cons] at h
  refine cps_AAA h ?_
  intro h1 h2 h3 h7
  clear h
  rcases List.mem_cons.mp hy with q | hy
  · exact h1 q.symm
  rcases List.mem_cons.mp hy with q | hy
  · exact h2 q.symm
  rcases List.mem_cons.mp hy with q | hy
  · exact h3 q.symm
  with_reducible refine hide ?_
  intro GG hGG
  obtain ⟨p, hp, q⟩ := List.mem_map.mp (led_addrs G ▸ hy)
  with_reducible refine hGG ?_
  clear hGG GG
  exact h7 p hp q
end

section
noncomputable def OkSu (q : Nd) : Prop := StrsAre q.su (q.su.map strOf)
theorem GetRel.okSu {h : Heap} {x dx nd : Addr} {G pre post : List Nd} {r : Nd} {nm : Str} (R : GetRel h x dx nd G pre r post nm) (hs : ∀ q ∈ G, OkSu q) : ∀ q ∈ pre ++ r :: post, OkSu q := fun q hq => by
  rcases R.1 with ⟨e, hm⟩ | ⟨rfl, rfl, hm, e1, e2⟩
  · exact hs q (e ▸ hq)
  · rcases List.mem_append.mp hq with z | z
    · exact hs q z
    · rw [List.mem_singleton.mp z]; unfold OkSu; rw [e2]; exact .nil
theorem strs_push {vs : List Value} (h : StrsAre vs (vs.map strOf)) (y : Str) (t : Tok) : StrsAre (vs ++ [.str y t]) ((vs ++ [Value.str y t]).map strOf) := by
  induction vs with
  | nil => exact .cons y t .nil
  | cons v vs ih =>
    cases h with
    | cons z u h' => exact .cons z u (ih h')
noncomputable def AddPost (w : World) (x dx nd : Addr) (G : List Nd) (np nf : Value) (a c : Str) (h₀ h' : Heap) : Prop :=
  ∃ G', Sor w h' x dx nd G' .none np nf ∧ view G' = vadd (view G) a c ∧ (∀ y ∈ feet x dx nd G', y ∈ feet x dx nd G ∨ h₀.get? y = none) ∧ (G'.map (·.nm)).Nodup ∧ G'.length ≤ G.length + 2 ∧ ((∀ q ∈ G, OkSu q) → ∀ q ∈ G', OkSu q)

set_option maxHeartbeats 8000000 in
theorem add_spec {w : World} {A : Around} {b : Heap} {s : Shared} {n : Nat} {x dx nd : Addr} {G : List Nd} {np nf : Value} {a c : Str} {ta tc : Tok}
   (C : Cx w (n + 10) A b) (kb : b.StaysIn s.heap) (S : Sor w s.heap x dx nd G .none np nf) (off : ∀ a ∈ feet x dx nd G, b.get? a = none) (lo : (nd == sysModules) = false)
   (hnn : (G.map (·.nm)).Nodup) (hsz : G.length ≤ 90) (hsu : ∀ r ∈ G, r.su.length ≤ 1000) :
   codeAny (model PP w) A (.call (.ref 121) ⟨[.ref x, .str a ta, .str c tc], []⟩) (Ret s (feet x dx nd G) fun v h' => AddPost w x dx nd G np nf a c s.heap h') s := by
  with_reducible refine hide ?_
  intro GG hGG
  refine cps_AAA (S.ne) ?_
  intro d1 d2 d3 da
  refine cps_EEEE (S.dict) ?_
  intro t1 t2 t3 t4 hdict
  obtain ⟨od, hod, hD⟩ := S.map
  with_reducible refine hGG ?_
  clear hGG GG
  have hled := S.led
  have hadr : ∀ p ∈ led G, p.1 ∈ addrs G := fun p hp => led_addrs G ▸ List.mem_map_of_mem (f := (·.1)) hp
  generalize hl : led G = tl at hled hadr
  have hn : ∀ p ∈ ((x, instObj 171 dx) :: (dx, dictOf (sdict w.params t1 t2 t3 t4 (.ref nd) .none np nf) 4) :: (nd, od) :: tl), s.heap.get? p.1 = some p.2 ∧ b.get? p.1 = none := by
    refine List.forall_mem_cons.mpr ⟨⟨S.self, off _ (.head _)⟩, List.forall_mem_cons.mpr ⟨⟨hdict, off _ (.tail _ (.head _))⟩, List.forall_mem_cons.mpr ⟨⟨hod, off _ (.tail _ (.tail _ (.head _)))⟩, fun p hp => ⟨hled p hp, off _ (.tail _ (.tail _ (.tail _ (hadr p hp))))⟩⟩⟩⟩
  walk_at "M enterV"
  intro D L g h₁ base outer d u loose mean mg mb F N B X T bg hd hu hg gs ll fD fL
  dsimp only
  k_fold
  k_steps
  refine ⟨?_⟩
  have O : Off g L (feet x dx nd G) := by
    subst hl
    refine List.forall_mem_cons.mpr ⟨(N _ (.tail _ (.head _))).2, List.forall_mem_cons.mpr ⟨(N _ (.tail _ (.tail _ (.head _)))).2, List.forall_mem_cons.mpr ⟨(N _ (.tail _ (.tail _ (.tail _ (.head _))))).2, fun y hy => ?_⟩⟩⟩
    with_reducible refine hide ?_
    intro GG hGG
    obtain ⟨p, hp, rfl⟩ := List.mem_map.mp (led_addrs G ▸ hy)
    with_reducible refine hGG ?_
    clear hGG GG
    exact (N _ (.tail _ (.tail _ (.tail _ (.tail _ hp))))).2
  have S1 : Sor w h₁ x dx nd G .none np nf := by
    subst hl
    exact Sor.all (N _ (.tail _ (.head _))).1 (N _ (.tail _ (.tail _ (.head _)))).1 (N _ (.tail _ (.tail _ (.tail _ (.head _))))).1 hD (fun p hp => (N _ (.tail _ (.tail _ (.tail _ (.tail _ hp))))).1) S.apart
  have hDf : ∀ y ∈ feet x dx nd G, y ≠ D := fun y hy q => by
    subst hl
    have z : ∀ p ∈ (x, instObj 171 dx) :: (dx, dictOf (sdict w.params t1 t2 t3 t4 (.ref nd) .none np nf) 4) :: (nd, od) :: led G, p.1 ≠ D := fun p hp => Nat.ne_of_lt (ll p hp)
    have e : y ∈ ((x, instObj 171 dx) :: (dx, dictOf (sdict w.params t1 t2 t3 t4 (.ref nd) .none np nf) 4) :: (nd, od) :: led G).map (·.1) := by
      simp only [List.map_cons, led_addrs]; exact hy
    with_reducible refine hide ?_
    intro GG hGG
    obtain ⟨p, hp, rfl⟩ := List.mem_map.mp e
    with_reducible refine hGG ?_
    clear hGG GG
    exact z p hp q
  have ND := N _ (.head _)
  have hgf : ∀ y o, s.heap.get? y = some o → y ∉ feet x dx nd G → g.get? y = some o := fun y o e q => hg y o e (by
    subst hl
    intro z
    simp only [List.map_cons, led_addrs] at z
    exact q z)
  clear N hled hadr hn ll hg hl tl
  refine get_step n B F X T ⟨by omega, by omega⟩ S1 O lo hnn (by omega) [(D, _)] (List.forall_mem_cons.mpr ⟨ND, fun _ h => nomatch h⟩) (List.forall_mem_cons.mpr ⟨fun q => hDf _ q rfl, fun _ h => nomatch h⟩) ?_ rfl
  intro h2 tk2 pre r post y1 y2 y3 y4 od2 F2 S2 O2 hrn R2 hD2 N2 hex
  simp only [List.cons_append, List.nil_append] at N2
  with_reducible refine hide ?_
  intro GG hGG
  refine cps_AAAAAAAAAAAAAAAAAA (S2.open_) ?_
  intro ht z1 z2 z3 z4 z5 z6 a1 a2 a3 b1 b2 b3 c1 c2 c3 f1 f2 f3
  refine cps_AAAAAA (feet_ne (hex _ (.head _))) ?_
  intro g1 g2 g3 g4 g5 g6 g7
  with_reducible refine hGG ?_
  clear hGG GG
  dsimp only at g1 g2 g3 g4 g5 g6 g7
  clear F S1 ht ND
  dsimp only
  k_steps
  rename Fr g _ _ _ => F3
  rename News g _ _ _ => N3
  refine ⟨for_stmt ?_⟩
  k_steps
  refine for_tuple (items := #[Value.str c tc]) rfl (fun m₀ D i m news => (i = 0 ∧ m = m₀ ∧ news = _) ∨ (i = 1 ∧ (D, ({ cls := .type "tuple", data := .seq [Value.str c tc].toArray } : Obj)) ∈ news ∧ ∃ G', (∀ h, News g L h news → Sor w h x dx nd G' .none np nf) ∧
    view G' = vadd (view G) a c ∧ (∀ y ∈ feet x dx nd G', y ∈ feet x dx nd G ∨ s.heap.get? y = none) ∧ (G'.map (·.nm)).Nodup ∧ G'.length ≤ G.length + 2 ∧ ((∀ q ∈ G, OkSu q) → ∀ q ∈ G', OkSu q))) F3 N3 (.inl ⟨rfl, rfl, rfl⟩) ?_ ?_ ?_
  · rintro i h m news F N (⟨rfl, rfl, rfl⟩ | ⟨rfl, hm, _⟩)
    · exact ⟨_, (N _ (.head _)).1, rfl, _, rfl⟩
    · exact ⟨_, (N _ hm).1, rfl, _, rfl⟩
  · rintro i v I oI h tk m news hv (⟨rfl, rfl, rfl⟩ | ⟨rfl, _⟩) F N offI fresh
    · cases hv
      show wpAny _ _ (assign _ _ (Value.str c tc)) _ _ _
      with_reducible refine hideT ?_
      intro Qi hQi
      k_steps
      refine ⟨?_⟩
      rename Fr g _ _ _ => F5
      rename News g _ _ _ => N5
      have ea : ∀ k, feet x dx nd (pre ++ { r with np := r.np + 1, ut := k } :: post) = feet x dx nd (pre ++ r :: post) := fun k => feet_turn rfl rfl rfl
      obtain ⟨k, S4⟩ := (⟨_, Sor.of_N (ex := [(I, oI), (D, _)]) (pre := pre) (post := post) (r := { r with np := r.np + 1, ut := _ }) N5 (by simpa using hD2) (by rw [ea]; exact S2.apart)⟩ :
        ∃ k, Sor w _ x dx nd (pre ++ { r with np := r.np + 1, ut := k } :: post) .none np nf)
      have O4 : Off g L (feet x dx nd (pre ++ { r with np := r.np + 1, ut := k } :: post)) := by rw [ea]; exact O2
      have hI4 : I ∉ feet x dx nd (pre ++ { r with np := r.np + 1, ut := k } :: post) := by
        rw [ea]; exact feet_off fun p hp => offI p (.tail _ hp)
      have hD4 : D ∉ feet x dx nd (pre ++ { r with np := r.np + 1, ut := k } :: post) := by rw [ea]; exact hex _ (.head _)
      have v4 : view (pre ++ { r with np := r.np + 1, ut := k } :: post) = vmod (vens (view G) a) a (fun e => (e.1, e.2.1 + 1, e.2.2)) := by
        rw [← R2.view hrn, ← hrn]
        exact view_turn (R2.nodup hrn hnn) rfl
      have n4 : ((pre ++ { r with np := r.np + 1, ut := k } :: post).map (·.nm)).Nodup := by
        have := R2.nodup hrn hnn
        simpa using this
      have l4 : (pre ++ { r with np := r.np + 1, ut := k } :: post).length ≤ G.length + 1 := by
        have := R2.length
        simpa using this
      have u4 : ∀ q ∈ pre ++ { r with np := r.np + 1, ut := k } :: post, q.su.length ≤ 1000 := all_turn (R2.su hsu) fun z => z
      have w4 : (∀ q ∈ G, OkSu q) → ∀ q ∈ pre ++ { r with np := r.np + 1, ut := k } :: post, OkSu q := fun h => all_turn (R2.okSu h) fun z => z
      have NI := N5 (I, oI) (.head _)
      have NDD := N5 (D, _) (.tail _ (.head _))
      clear N5
      generalize hG4 : pre ++ { r with np := r.np + 1, ut := k } :: post = G4 at *
      refine get_step n B F5 X T ⟨by omega, by omega⟩ S4 O4 lo n4 (by omega) [(I, oI), (D, _)] (List.forall_mem_cons.mpr ⟨NI, List.forall_mem_cons.mpr ⟨NDD, fun _ h => nomatch h⟩⟩) (List.forall_mem_cons.mpr ⟨hI4, List.forall_mem_cons.mpr ⟨hD4, fun _ h => nomatch h⟩⟩) ?_ rfl
      intro h6 tk6 pre6 r6 post6 x1 x2 x3 x4 od6 F6 S6 O6 hrn6 R6 hD6 N6 hex6
      simp only [List.cons_append, List.nil_append] at N6
      clear F5 S4 NI NDD
      with_reducible refine hide ?_
      intro GG hGG
      refine cps_AAAAAAAAAAAAAAAAAA (S6.open_) ?_
      intro ht6 z1 z2 z3 z4 z5 z6 a1 a2 a3 b1 b2 b3 c1 c2 c3 f1 f2 f3
      refine cps_AAAAAA (feet_ne (hex6 _ (.head _))) ?_
      intro g1 g2 g3 g4 g5 g6 g7
      refine cps_AAAAAA (feet_ne (hex6 _ (.tail _ (.head _)))) ?_
      intro i1 i2 i3 i4 i5 i6 i7
      with_reducible refine hGG ?_
      clear hGG GG
      dsimp only at g1 g2 g3 g4 g5 g6 g7 i1 i2 i3 i4 i5 i6 i7
      have hID : @Ne Nat I D := fun q => offI _ (.head _) q.symm
      have hsu6' : r6.su.length ≤ 1000 := R6.su u4 r6 (by simp)
      have hsu6 : r6.su.toArray.size ≤ sizeLine := by rw [List.size_toArray, sizeLine_eq]; omega
      dsimp only
      k_steps
      show Qi _ _
      refine hQi _ _ ?_
      refine ⟨?_⟩
      rename Fr g _ _ _ => F8
      rename News g _ _ _ => N8
      have n6 := R6.nodup hrn6 n4
      simp only [List.push_toArray] at N8
      have eb : feet x dx nd (pre6 ++ { r6 with su := r6.su ++ [Value.str a ta], ep := r6.ep + 1 } :: post6) = feet x dx nd (pre6 ++ r6 :: post6) := feet_turn rfl rfl rfl
      refine ⟨_, _, _, _, rfl, F8, N8, ?_, .inr ⟨by simp, .head _, pre6 ++ { r6 with su := r6.su ++ [Value.str a ta], ep := r6.ep + 1 } :: post6, fun h N => Sor.of_N (ex := [(D, _)]) (pre := pre6) (post := post6) (r := { r6 with su := r6.su ++ [Value.str a ta], ep := r6.ep + 1 }) N (by simpa using hD6) ?_, ?_, ?_, ?_, ?_, fun h => all_turn (R6.okSu (w4 h)) fun z => strs_push z a ta⟩⟩
      · exact List.forall_mem_cons.mpr ⟨Ne.symm hID, List.forall_mem_cons.mpr ⟨g1, List.forall_mem_cons.mpr ⟨g2, List.forall_mem_cons.mpr ⟨g3, List.forall_mem_cons.mpr ⟨g4, List.forall_mem_cons.mpr ⟨g5, List.forall_mem_cons.mpr ⟨g6, g7⟩⟩⟩⟩⟩⟩⟩
      · rw [eb]; exact S6.apart
      · unfold vadd
        rw [view_turn (r := r6) (f := fun e => (e.1, e.2.1, e.2.2 ++ [a])) n6 (by simp [Nd.view, strOf]), R6.view hrn6, v4, hrn6]
      · intro y hy
        rw [eb] at hy
        by_cases q : y ∈ feet x dx nd G
        · exact .inl q
        · refine .inr ?_
          cases e : s.heap.get? y with
          | none => rfl
          | some o => have := hgf y o e q; rw [(O6 y hy).2] at this; cases this
      · simpa using n6
      · have := R6.length
        simp only [List.length_append, List.length_cons] at this ⊢
        omega
    · cases hv
  · rintro h tk m news (⟨q, _⟩ | ⟨_, _, G', hS, hv, hf, hn', hl', hok'⟩) F N
    · cases q
    · dsimp only
      k_steps
      exact ⟨_, h, tk, rfl, rfl, fun b o e q => F.keep b o (hgf b o e q), G', hS h N, hv, hf, hn', hl', hok'⟩
end

section
noncomputable def put (G : List Nd) (N : Str → Int) (U : Str → Tok) : List Nd := G.map fun r => { r with np := N r.nm, ut := U r.nm }
theorem put_addrs (G : List Nd) (N U) : addrs (put G N U) = addrs G := by unfold put addrs; rw [List.flatMap_map]
theorem put_feet {x dx nd : Addr} (G : List Nd) (N U) : feet x dx nd (put G N U) = feet x dx nd G := congrArg (fun l => x :: dx :: nd :: l) (put_addrs G N U)
theorem put_kvs (G : List Nd) (N U) : ((put G N U).map fun r => (r.nm, Value.ref r.ia)) = G.map fun r => (r.nm, Value.ref r.ia) := by unfold put; rw [List.map_map]; rfl
theorem led_split {pre post : List Nd} {r : Nd} {p : Addr × Obj} : p ∈ led (pre ++ r :: post) ↔ p ∈ (r.ia, infoObj r) :: (r.di, dictOf [] 0) :: (r.sa, succObj r) :: (led pre ++ led post) := by
  rw [led_append]
  show p ∈ led pre ++ ([(r.ia, infoObj r), (r.di, dictOf [] 0), (r.sa, succObj r)] ++ led post) ↔ p ∈ [(r.ia, infoObj r), (r.di, dictOf [] 0), (r.sa, succObj r)] ++ (led pre ++ led post)
  simp only [List.mem_append]
  constructor
  · rintro (h | h | h)
    · exact .inr (.inl h)
    · exact .inl h
    · exact .inr (.inr h)
  · rintro (h | h | h)
    · exact .inr (.inl h)
    · exact .inl h
    · exact .inr (.inr h)
theorem put_self (G : List Nd) : ∃ N U, put G N U = G ∨ ¬ (G.map (·.nm)).Nodup := by
  by_cases h : (G.map (·.nm)).Nodup
  · refine ⟨fun k => ((G.find? fun r => r.nm = k).map (·.np)).getD 0, fun k => ((G.find? fun r => r.nm = k).map (·.ut)).getD 0, .inl ?_⟩
    have key : ∀ r ∈ G, G.find? (fun q => q.nm = r.nm) = some r := by
      induction G with
      | nil => exact fun _ h => nomatch h
      | cons q G ih =>
        rw [List.map_cons, List.nodup_cons] at h
        intro r hr
        rw [List.find?_cons]
        by_cases e : q.nm = r.nm
        · simp only [e, decide_true]
          rcases List.mem_cons.mp hr with rfl | hr
          · rfl
          · exact absurd (e ▸ List.mem_map_of_mem (f := (·.nm)) hr) h.1
        · simp only [e, decide_false]
          rcases List.mem_cons.mp hr with rfl | hr
          · exact absurd rfl e
          · exact ih h.2 r hr
    unfold put
    rw [List.map_congr_left (g := fun r => r) fun r hr => ?_, List.map_id']
    show { r with np := ((G.find? fun q => q.nm = r.nm).map (·.np)).getD 0, ut := ((G.find? fun q => q.nm = r.nm).map (·.ut)).getD 0 } = r
    rw [key r hr]
    rfl
  · exact ⟨fun _ => 0, fun _ => 0, .inr h⟩

noncomputable def outs (N : Str → Int) (ss : List Str) : Str → Int := fun k => if k ∈ ss then -1 else N k
theorem outs_nil (N : Str → Int) : outs N [] = N := by funext k; simp [outs]
noncomputable def upd {α : Type} (N : Str → α) (k : Str) (v : α) : Str → α := fun y => if y = k then v else N y
theorem put_upd_off {G : List Nd} {k : Str} {N : Str → Int} {U : Str → Tok} {v : Int} {t : Tok} (h : k ∉ G.map (·.nm)) : put G (upd N k v) (upd U k t) = put G N U := by
  unfold put
  refine List.map_congr_left fun r hr => ?_
  have hne : ¬ r.nm = k := fun z => h (z ▸ List.mem_map_of_mem (f := (·.nm)) hr)
  simp only [upd, if_neg hne]
theorem put_split {pre post : List Nd} {r : Nd} {N : Str → Int} {U : Str → Tok} : put (pre ++ r :: post) N U = put pre N U ++ { r with np := N r.nm, ut := U r.nm } :: put post N U := by
  unfold put; rw [List.map_append, List.map_cons]
theorem put_upd {pre post : List Nd} {r : Nd} {N : Str → Int} {U : Str → Tok} {v : Int} {t : Tok} (hn : ((pre ++ r :: post).map (·.nm)).Nodup) :
    put (pre ++ r :: post) (upd N r.nm v) (upd U r.nm t) = put pre N U ++ { r with np := v, ut := t } :: put post N U := by
  rw [List.map_append, List.map_cons, List.nodup_append] at hn
  with_reducible refine hide ?_
  intro GG hGG
  obtain ⟨_, h2, h3⟩ := hn
  with_reducible refine hGG ?_
  clear hGG GG
  rw [List.nodup_cons] at h2
  have hpre : r.nm ∉ pre.map (·.nm) := fun z => h3 _ z _ (.head _) rfl
  rw [put_split, put_upd_off hpre, put_upd_off h2.1]
  simp [upd]

theorem led_off {G : List Nd} {N U} {a : Addr} (h : a ∉ addrs G) : ∀ p ∈ led (put G N U), p.1 ≠ a := fun p hp q => h (q ▸ put_addrs G N U ▸ led_addrs _ ▸ List.mem_map_of_mem (f := (·.1)) hp)
theorem strs_len {vs : List Value} {ss : List Str} (h : StrsAre vs ss) : vs.length = ss.length := by
  induction h with
  | nil => rfl
  | cons _ _ _ ih => simp [ih]
theorem strs_get {vs : List Value} {ss : List Str} (h : StrsAre vs ss) : ∀ {i : Nat} {v : Value}, vs[i]? = some v → ∃ k t, ss[i]? = some k ∧ v = .str k t := by
  induction h with
  | nil => intro i v e; cases e
  | cons y t _ ih =>
    intro i v e
    cases i with
    | zero => cases e; exact ⟨y, t, rfl, rfl⟩
    | succ i => exact ih e
theorem outs_snoc {N : Str → Int} {ss : List Str} {i : Nat} {k : Str} (h : ss[i]? = some k) : outs N (ss.take (i + 1)) = upd (outs N (ss.take i)) k (-1) := by
  funext y
  rw [List.take_add_one, h]
  simp only [outs, upd, Option.toList_some, List.mem_append, List.mem_singleton]
  by_cases e : y = k
  · simp [e]
  · simp [e]
theorem news_split {g h : Heap} {L : Addr} {ex : List (Addr × Obj)} {pre post : List Nd} {r : Nd} (N : News g L h (ex ++ led (pre ++ r :: post))) :
    News g L h (ex ++ (r.ia, infoObj r) :: (r.di, dictOf [] 0) :: (r.sa, succObj r) :: (led pre ++ led post)) := fun p hp => by
  rcases List.mem_append.mp hp with q | q
  · exact N p (List.mem_append_left _ q)
  · exact N p (List.mem_append_right _ (led_split.mpr q))
theorem news_join {g h : Heap} {L : Addr} {ex : List (Addr × Obj)} {pre post : List Nd} {r : Nd} (N : News g L h (ex ++ (r.ia, infoObj r) :: (r.di, dictOf [] 0) :: (r.sa, succObj r) :: (led pre ++ led post))) :
    News g L h (ex ++ led (pre ++ r :: post)) := fun p hp => by
  rcases List.mem_append.mp hp with q | q
  · exact N p (List.mem_append_left _ q)
  · exact N p (List.mem_append_right _ (led_split.mp q))

theorem split_facts {x dx nd : Addr} {G pre post : List Nd} {r : Nd} (N : Str → Int) (U : Str → Tok) (hG : G = pre ++ r :: post) (ap : (feet x dx nd G).Nodup) :
    (∀ p ∈ led (put pre N U) ++ led (put post N U), p.1 ≠ x) ∧ (∀ p ∈ led (put pre N U) ++ led (put post N U), p.1 ≠ dx) ∧ (∀ p ∈ led (put pre N U) ++ led (put post N U), p.1 ≠ nd) ∧ (∀ p ∈ led (put pre N U) ++ led (put post N U), p.1 ≠ r.ia) ∧
      (∀ p ∈ led (put pre N U) ++ led (put post N U), p.1 ≠ r.di) ∧ (∀ p ∈ led (put pre N U) ++ led (put post N U), p.1 ≠ r.sa) ∧
      @Ne Nat x r.ia ∧ @Ne Nat x r.di ∧ @Ne Nat x r.sa ∧ @Ne Nat dx r.ia ∧ @Ne Nat dx r.di ∧ @Ne Nat dx r.sa ∧ @Ne Nat nd r.ia ∧ @Ne Nat nd r.di ∧ @Ne Nat nd r.sa ∧ @Ne Nat r.ia r.di ∧ @Ne Nat r.ia r.sa ∧ @Ne Nat r.di r.sa := by
  subst hG
  exact apart_facts (r := { r with np := N r.nm, ut := U r.nm }) (by rw [← put_split, put_feet]; exact ap)
theorem split_factsK {x dx nd : Addr} {G pre post : List Nd} {r : Nd} (N : Str → Int) (U : Str → Tok) (hG : G = pre ++ r :: post) (ap : (feet x dx nd G).Nodup) {K : Prop}
    (k : (∀ p ∈ led (put pre N U) ++ led (put post N U), p.1 ≠ x) → (∀ p ∈ led (put pre N U) ++ led (put post N U), p.1 ≠ dx) → (∀ p ∈ led (put pre N U) ++ led (put post N U), p.1 ≠ nd) → (∀ p ∈ led (put pre N U) ++ led (put post N U), p.1 ≠ r.ia) → (∀ p ∈ led (put pre N U) ++ led (put post N U), p.1 ≠ r.di) → (∀ p ∈ led (put pre N U) ++ led (put post N U), p.1 ≠ r.sa) → @Ne Nat x r.ia → @Ne Nat x r.di → @Ne Nat x r.sa → @Ne Nat dx r.ia → @Ne Nat dx r.di → @Ne Nat dx r.sa → @Ne Nat nd r.ia → @Ne Nat nd r.di → @Ne Nat nd r.sa → @Ne Nat r.ia r.di → @Ne Nat r.ia r.sa → @Ne Nat r.di r.sa → K) : K := by
  refine cps_AAAAAAAAAAAAAAAAA (split_facts N U hG ap) ?_
  intro z1 z2 z3 z4 z5 z6 a1 a2 a3 b1 b2 b3 c1 c2 c3 f1 f2 f3
  exact k z1 z2 z3 z4 z5 z6 a1 a2 a3 b1 b2 b3 c1 c2 c3 f1 f2 f3
theorem split_ne {x dx nd D : Addr} {G pre post : List Nd} {r : Nd} (N : Str → Int) (U : Str → Tok) (hG : G = pre ++ r :: post) (h : D ∉ feet x dx nd G) :
    @Ne Nat x D ∧ @Ne Nat dx D ∧ @Ne Nat nd D ∧ @Ne Nat r.ia D ∧ @Ne Nat r.di D ∧ @Ne Nat r.sa D ∧ ∀ p ∈ led (put pre N U) ++ led (put post N U), p.1 ≠ D := by
  subst hG
  exact feet_ne (r := { r with np := N r.nm, ut := U r.nm }) (by rw [← put_split, put_feet]; exact h)
theorem split_neK {x dx nd D : Addr} {G pre post : List Nd} {r : Nd} (N : Str → Int) (U : Str → Tok) (hG : G = pre ++ r :: post) (h : D ∉ feet x dx nd G) {K : Prop}
    (k : @Ne Nat x D → @Ne Nat dx D → @Ne Nat nd D → @Ne Nat r.ia D → @Ne Nat r.di D → @Ne Nat r.sa D → (∀ p ∈ led (put pre N U) ++ led (put post N U), p.1 ≠ D) → K) : K := by
  refine cps_AAAAAA (split_ne N U hG h) ?_
  intro g1 g2 g3 g4 g5 g6 g7
  exact k g1 g2 g3 g4 g5 g6 g7
theorem news_at {g h : Heap} {L : Addr} {ex : List (Addr × Obj)} {G pre post : List Nd} {r : Nd} {N : Str → Int} {U : Str → Tok} (hG : G = pre ++ r :: post) (M : News g L h (ex ++ led (put G N U))) :
    News g L h (ex ++ (r.ia, ({ cls := .ref 74, dict := some r.di, data := .plain, slots := #[some (.str r.nm r.it), some (.int (N r.nm) (U r.nm)), some (.ref r.sa)] } : Obj)) :: (r.di, dictOf [] 0) :: (r.sa, W.listOf r.su.toArray r.ep) :: (led (put pre N U) ++ led (put post N U))) := by
  subst hG
  rw [put_split] at M
  exact news_split (r := { r with np := N r.nm, ut := U r.nm }) M
theorem news_back {g h : Heap} {L : Addr} {ex : List (Addr × Obj)} {G pre post : List Nd} {r : Nd} {N : Str → Int} {U : Str → Tok} {v : Int} {t : Tok} (hG : G = pre ++ r :: post) (hnn : (G.map (·.nm)).Nodup)
    (M : News g L h (ex ++ (r.ia, ({ cls := .ref 74, dict := some r.di, data := .plain, slots := #[some (.str r.nm r.it), some (.int v t), some (.ref r.sa)] } : Obj)) :: (r.di, dictOf [] 0) :: (r.sa, W.listOf r.su.toArray r.ep) :: (led (put pre N U) ++ led (put post N U)))) :
    News g L h (ex ++ led (put G (upd N r.nm v) (upd U r.nm t))) := by
  subst hG
  rw [put_upd hnn]
  exact news_join (r := { r with np := v, ut := t }) M

set_option maxHeartbeats 8000000 in
theorem ready_spec {w : World} {A : Around} {b : Heap} {s : Shared} {n : Nat} {x dx nd rl : Addr} {G : List Nd} {N : Str → Int} {U : Str → Tok} {npo : Int} {u1 : Tok} {nf : Value} {vs : List Value} {ss : List Str} {ep : Nat}
   (C : Cx w (n + 6) A b) (kb : b.StaysIn s.heap) (S : Sor w s.heap x dx nd (put G N U) (.ref rl) (.int npo u1) nf) (hrl : s.heap.get? rl = some (W.listOf vs.toArray ep))
   (off : ∀ a ∈ rl :: feet x dx nd G, b.get? a = none) (hrf : rl ∉ feet x dx nd G) (hnn : (G.map (·.nm)).Nodup) (hsz : vs.length ≤ 100) (hne : vs ≠ []) (hvs : StrsAre vs ss) (hss : ∀ k ∈ ss, k ∈ G.map (·.nm)) :
   codeAny (model PP w) A (.call (.ref 133) ⟨[.ref x], []⟩) (Ret s (rl :: feet x dx nd G) fun v h' => ∃ t U' u1' ep', v = .ref t ∧ s.heap.get? t = none ∧ h'.get? t = some ({ cls := .type "tuple", data := .seq vs.toArray } : Obj) ∧
     Sor w h' x dx nd (put G (outs N ss) U') (.ref rl) (.int (npo + vs.length) u1') nf ∧ h'.get? rl = some (W.listOf #[] ep')) s := by
  with_reducible refine hide ?_
  intro GG hGG
  refine cps_AAA (S.ne) ?_
  intro d1 d2 d3 da
  refine cps_EEEE (S.dict) ?_
  intro t1 t2 t3 t4 hdict
  obtain ⟨od, hod, hD⟩ := S.map
  with_reducible refine hGG ?_
  clear hGG GG
  rw [put_kvs] at hD
  have hled := S.led
  have hadr : ∀ p ∈ led (put G N U), p.1 ∈ addrs G := fun p hp => put_addrs G N U ▸ led_addrs _ ▸ List.mem_map_of_mem (f := (·.1)) hp
  have e1 : @Ne Nat rl x := fun q => hrf (q ▸ .head _)
  have e2 : @Ne Nat rl dx := fun q => hrf (q ▸ .tail _ (.head _))
  have e3 : @Ne Nat rl nd := fun q => hrf (q ▸ .tail _ (.tail _ (.head _)))
  have e4 : ∀ p ∈ led (put G N U), p.1 ≠ rl := fun p hp q => hrf (q ▸ .tail _ (.tail _ (.tail _ (hadr p hp))))
  have hn : ∀ p ∈ ((rl, W.listOf vs.toArray ep) :: (x, instObj 171 dx) :: (dx, dictOf (sdict w.params t1 t2 t3 t4 (.ref nd) (.ref rl) (.int npo u1) nf) 4) :: (nd, od) :: led (put G N U)), s.heap.get? p.1 = some p.2 ∧ b.get? p.1 = none := by
    refine List.forall_mem_cons.mpr ⟨⟨hrl, off _ (.head _)⟩, List.forall_mem_cons.mpr ⟨⟨S.self, off _ (.tail _ (.head _))⟩, List.forall_mem_cons.mpr ⟨⟨hdict, off _ (.tail _ (.tail _ (.head _)))⟩, List.forall_mem_cons.mpr ⟨⟨hod, off _ (.tail _ (.tail _ (.tail _ (.head _))))⟩, fun p hp => ⟨hled p hp, off _ (.tail _ (.tail _ (.tail _ (.tail _ (hadr p hp)))))⟩⟩⟩⟩⟩
  walk_at "M enter"
  intro g h₁ base outer d u loose mean mg mb F N B X T bg hd hu hg gs ll kh
  dsimp only
  k_fold
  k_steps
  rename Fr g _ _ _ => F2
  rename News g _ _ _ => N2
  refine pull N2 (by first | k_all | fail) fun hDf => ?_
  have hDx := put_feet G N U ▸ feet_off' (fun p hp => hDf p (.tail _ hp))
  have hDr := hDf _ (.head _)
  clear hDf
  refine ⟨for_stmt ?_⟩
  k_steps
  refine for_tuple (items := vs.toArray) rfl (fun m₀ D i m news => (∀ y, y ≠ Str.ofString "node" → m y = m₀ y) ∧ ∃ U', news = (D, ({ cls := .type "tuple", data := .seq vs.toArray } : Obj)) :: (rl, W.listOf vs.toArray ep) :: (x, instObj 171 dx) :: (dx, dictOf (sdict w.params t1 t2 t3 t4 (.ref nd) (.ref rl) (.int npo u1) nf) 4) :: (nd, od) :: led (put G (outs N (ss.take i)) U'))
    F2 N2 ⟨fun _ _ => rfl, U, by simp only [List.take_zero, outs_nil]⟩ ?_ ?_ ?_
  · intro i h m news F N hXX
    with_reducible refine hide ?_
    intro GG hGG
    obtain ⟨_, U', rfl⟩ := hXX
    with_reducible refine hGG ?_
    clear hGG GG
    exact ⟨_, (N _ (.head _)).1, rfl, _, rfl⟩
  · intro i v I oI h tk m news hv hXX
    with_reducible refine hide ?_
    intro GG hGG
    obtain ⟨hm, U', rfl⟩ := hXX
    with_reducible refine hGG ?_
    clear hGG GG
    intro F N3 offI fresh
    with_reducible refine hideT ?_
    intro Qi hQi
    have F3 := fr_norm F hm
    clear F
    with_reducible refine hide ?_
    intro GG hGG
    refine cps_EEA (strs_get hvs (by simpa using hv)) ?_
    rintro k t hk rfl
    obtain ⟨r, hr, rfl⟩ := List.mem_map.mp (hss k (List.mem_of_getElem? hk))
    obtain ⟨pre, post, rfl⟩ := List.append_of_mem hr
    have hva := valueAt_some hnn hr
    have ap : (feet x dx nd (put pre (outs N (ss.take i)) U' ++ { r with np := outs N (ss.take i) r.nm, ut := U' r.nm } :: put post (outs N (ss.take i)) U')).Nodup := by
      rw [← put_split, put_feet, ← put_feet (N := N) (U := U)]; exact S.apart
    refine cps_AAAAAAAAAAAAAAAAA (apart_facts ap) ?_
    intro z1 z2 z3 z4 z5 z6 a1 a2 a3 b1 b2 b3 c1 c2 c3 f1 f2 f3
    with_reducible refine hGG ?_
    clear hGG GG
    rw [put_split] at N3 offI
    with_reducible refine hide ?_
    intro GG hGG
    refine cps_AAAAAA (feet_ne (pre := put pre (outs N (ss.take i)) U') (post := put post (outs N (ss.take i)) U') (r := { r with np := outs N (ss.take i) r.nm, ut := U' r.nm }) (by rw [← put_split, put_feet]; exact hDx)) ?_
    intro g1 g2 g3 g4 g5 g6 g7
    refine cps_AAAAAA (feet_ne (pre := put pre (outs N (ss.take i)) U') (post := put post (outs N (ss.take i)) U') (r := { r with np := outs N (ss.take i) r.nm, ut := U' r.nm }) (by rw [← put_split, put_feet]; exact hrf)) ?_
    intro j1 j2 j3 j4 j5 j6 j7
    refine cps_AAAAAA (feet_ne (feet_off' fun p hp => offI p (.tail _ (.tail _ hp)))) ?_
    intro i1 i2 i3 i4 i5 i6 i7
    with_reducible refine hGG ?_
    clear hGG GG
    have iD := offI _ (.head _)
    have iR := offI _ (.tail _ (.head _))
    dsimp only at g1 g2 g3 g4 g5 g6 g7 i1 i2 i3 i4 i5 i6 i7 j1 j2 j3 j4 j5 j6 j7 iD iR hDr a1 a2 a3 b1 b2 b3 c1 c2 c3 f1 f2 f3
    have iD' := neN iD
    have iR' := neN iR
    have hDr' := neN hDr
    have N4 := news_split (ex := [_, _, _, _, _, _]) N3
    simp only [List.cons_append, List.nil_append] at N4
    dsimp only [infoObj, succObj] at N4
    clear N3 N2 F2
    k_steps
    rename Fr g _ _ _ => F5
    rename News g _ _ _ => N5
    show Qi _ _
    refine hQi _ _ ?_
    refine ⟨?_⟩
    have N6 := news_join (ex := [(I, oI), _, _, _, _, _]) (pre := put pre (outs N (ss.take i)) U') (post := put post (outs N (ss.take i)) U') (r := { r with np := -1, ut := _ }) N5
    rw [← put_upd hnn, ← outs_snoc hk] at N6
    simp only [List.cons_append, List.nil_append] at N6
    refine ⟨_, _, _, _, rfl, F5, N6, ?_, fun y hy => by simp [hy], _, rfl⟩
    rw [outs_snoc hk, put_upd hnn]
    exact fun p hp => by
      simp only [List.mem_cons] at hp
      rcases hp with rfl | rfl | rfl | rfl | rfl | hp
      · exact iD
      · exact iR
      · exact i1
      · exact i2
      · exact i3
      · rcases List.mem_cons.mp (led_split.mp hp) with rfl | hp
        · exact i4
        · rcases List.mem_cons.mp hp with rfl | hp
          · exact i5
          · rcases List.mem_cons.mp hp with rfl | hp
            · exact i6
            · exact i7 p hp
  intro h tk m news hXX
  with_reducible refine hide ?_
  intro GG hGG
  obtain ⟨hm, U', rfl⟩ := hXX
  with_reducible refine hGG ?_
  clear hGG GG
  intro F N3
  have F3 := fr_norm F hm
  have htk : ss.take vs.toArray.size = ss := by rw [List.size_toArray, strs_len hvs, List.take_length]
  rw [htk] at N3
  clear F F2 N2 hm
  have l1 := led_off (N := outs N ss) (U := U') (fun q => hrf (.tail _ (.tail _ (.tail _ q))))
  have l2 := led_off (N := outs N ss) (U := U') (fun q => hDx (.tail _ (.tail _ (.tail _ q))))
  have l3 := led_off (G := G) (N := outs N ss) (U := U') (fun q => (da _ (by rw [put_addrs]; exact q)).2.1 rfl)
  have g1 : @Ne Nat _ x := fun q => hDx (q ▸ .head _)
  have g2 : @Ne Nat _ dx := fun q => hDx (q ▸ .tail _ (.head _))
  have g3 : @Ne Nat _ nd := fun q => hDx (q ▸ .tail _ (.tail _ (.head _)))
  have g4 := neN hDr
  have hne' : vs.toArray.toList.length ≠ 0 := by
    show vs.length ≠ 0
    exact fun q => hne (List.length_eq_zero_iff.mp q)
  have hsz' : vs.toArray.toList.length ≤ sizeLine := by
    show vs.length ≤ sizeLine
    rw [sizeLine_eq]; omega
  dsimp only at g4
  have hgf : ∀ y o, s.heap.get? y = some o → y ∉ rl :: feet x dx nd G → g.get? y = some o := fun y o e q => hg y o e (by
    intro z
    simp only [List.map_cons, led_addrs, put_addrs] at z
    exact q z)
  clear hg hled hadr
  dsimp only
  k_steps
  rename Fr g _ _ _ => F7
  rename News g _ _ _ => N7
  have e0 := N7 _ (.head _)
  have e1' := N7 _ (.tail _ (.head _))
  have e2' := N7 _ (.tail _ (.tail _ (.head _)))
  have e3' := N7 _ (.tail _ (.tail _ (.tail _ (.head _))))
  have e4' := N7 _ (.tail _ (.tail _ (.tail _ (.tail _ (.head _)))))
  refine ⟨_, _, _, rfl, rfl, fun b o e q => F7.keep b o (hgf b o e q), _, U', _, _, rfl, ?_, e0.1, Sor.all e2'.1 e3'.1 e4'.1 ?_ (fun p hp => (N7 p (.tail _ (.tail _ (.tail _ (.tail _ (.tail _ hp)))))).1) ?_, e1'.1⟩
  · cases e : s.heap.get? _ with
    | none => rfl
    | some o =>
      have := hgf _ o e (fun q => by
        rcases List.mem_cons.mp q with q | q
        · exact hDr q.symm
        · exact hDx q)
      rw [e0.2.2] at this; cases this
  · rw [put_kvs]; exact hD
  · rw [put_feet, ← put_feet (N := N) (U := U)]; exact S.apart
end

section
noncomputable abbrev St2 := (Str → Int) × List Str
noncomputable def decr (a : St2) (k : Str) : St2 := (upd a.1 k (a.1 k - 1), if a.1 k - 1 = 0 then a.2 ++ [k] else a.2)
noncomputable def fin1 (succ : Str → List Str) (a : St2) (k : Str) : St2 := (succ k).foldl decr (upd a.1 k (-2), a.2)
noncomputable def finAll (succ : Str → List Str) (a : St2) (ks : List Str) : St2 := ks.foldl (fin1 succ) a
noncomputable def succOf (G : List Nd) (k : Str) : List Str := ((G.find? fun r => r.nm = k).map fun r => r.su.map strOf).getD []
noncomputable def SuOk (G : List Nd) : Prop := ∀ r ∈ G, StrsAre r.su (r.su.map strOf) ∧ (∀ k ∈ r.su.map strOf, k ∈ G.map (·.nm)) ∧ r.su.length ≤ 1000

theorem find_self {G : List Nd} (h : (G.map (·.nm)).Nodup) : ∀ r ∈ G, G.find? (fun q => q.nm = r.nm) = some r := by
  induction G with
  | nil => exact fun _ h => nomatch h
  | cons q G ih =>
    rw [List.map_cons, List.nodup_cons] at h
    intro r hr
    rw [List.find?_cons]
    by_cases e : q.nm = r.nm
    · simp only [e, decide_true]
      rcases List.mem_cons.mp hr with rfl | hr
      · rfl
      · exact absurd (e ▸ List.mem_map_of_mem (f := (·.nm)) hr) h.1
    · simp only [e, decide_false]
      rcases List.mem_cons.mp hr with rfl | hr
      · exact absurd rfl e
      · exact ih h.2 r hr
theorem succ_self {G : List Nd} (h : (G.map (·.nm)).Nodup) {r : Nd} (hr : r ∈ G) : succOf G r.nm = r.su.map strOf := by
  unfold succOf; rw [find_self h r hr]; rfl

theorem strs_snoc {vs : List Value} {ss : List Str} (h : StrsAre vs ss) (y : Str) (t : Tok) : StrsAre (vs ++ [.str y t]) (ss ++ [y]) := by
  induction h with
  | nil => exact .cons y t .nil
  | cons z u _ ih => exact .cons z u ih
theorem not_addr {x dx nd a : Addr} {G : List Nd} (h : a ∉ feet x dx nd G) : a ∉ addrs G := fun q => h (.tail _ (.tail _ (.tail _ q)))

inductive DnJ (w : World) (D rl x dx nd : Addr) (t1 t2 t3 t4 : Tok) (od : Obj) (npo : Value) (nfi : Int) (vs : List Value) (G : List Nd) (M : Str → Int) (S : List Str) (b i : Nat) (news : List (Addr × Obj)) : Prop
  | mk (U' : Str → Tok) (rv' : List Value) (ep' : Nat) (u' : Tok) (h : StrsAre rv' S) (hl : rv'.length ≤ b)
      (e : news = (D, ({ cls := .type "tuple", data := .seq vs.toArray } : Obj)) :: (rl, W.listOf rv'.toArray ep') :: (x, instObj 171 dx) :: (dx, dictOf (sdict w.params t1 t2 t3 t4 (.ref nd) (.ref rl) npo (.int (nfi + i) u')) 4) :: (nd, od) :: led (put G M U'))
inductive DnK (w : World) (I D rl x dx nd : Addr) (t1 t2 t3 t4 : Tok) (oI od : Obj) (npo nf : Value) (vs : List Value) (G : List Nd) (M : Str → Int) (S : List Str) (b : Nat) (news : List (Addr × Obj)) : Prop
  | mk (U' : Str → Tok) (rv' : List Value) (ep' : Nat) (h : StrsAre rv' S) (hl : rv'.length ≤ b)
      (e : news = (I, oI) :: (D, ({ cls := .type "tuple", data := .seq vs.toArray } : Obj)) :: (rl, W.listOf rv'.toArray ep') :: (x, instObj 171 dx) :: (dx, dictOf (sdict w.params t1 t2 t3 t4 (.ref nd) (.ref rl) npo nf) 4) :: (nd, od) :: led (put G M U'))
set_option maxHeartbeats 8000000 in
theorem done_spec {w : World} {A : Around} {b : Heap} {s : Shared} {n : Nat} {x dx nd rl : Addr} {G : List Nd} {N : Str → Int} {U : Str → Tok} {npo : Value} {nfi : Int} {u2 : Tok} {vs rv : List Value} {ss R : List Str} {ep : Nat}
   (C : Cx w (n + 6) A b) (kb : b.StaysIn s.heap) (S : Sor w s.heap x dx nd (put G N U) (.ref rl) npo (.int nfi u2)) (hrl : s.heap.get? rl = some (W.listOf rv.toArray ep)) (hrv : StrsAre rv R)
   (off : ∀ a ∈ rl :: feet x dx nd G, b.get? a = none) (hrf : rl ∉ feet x dx nd G) (hnn : (G.map (·.nm)).Nodup) (hsz : vs.length ≤ 100) (hrz : rv.length + 1000 * vs.length ≤ 200000) (hvs : StrsAre vs ss) (hss : ∀ k ∈ ss, k ∈ G.map (·.nm))
   (hok : SuOk G) (hout : ∀ i k, ss[i]? = some k → (finAll (succOf G) (N, R) (ss.take i)).1 k = -1) (lo : (nd == sysModules) = false) :
   codeAny (model PP w) A (.call (.ref 154) ⟨.ref x :: vs, []⟩) (Ret s (rl :: feet x dx nd G) fun v h' => v = .none ∧ ∃ U' rv' ep' u', Sor w h' x dx nd (put G (finAll (succOf G) (N, R) ss).1 U') (.ref rl) npo (.int (nfi + ss.length) u') ∧
     h'.get? rl = some (W.listOf rv'.toArray ep') ∧ StrsAre rv' (finAll (succOf G) (N, R) ss).2) s := by
  with_reducible refine hide ?_
  intro GG hGG
  refine cps_AAA (S.ne) ?_
  intro d1 d2 d3 da
  refine cps_EEEE (S.dict) ?_
  intro t1 t2 t3 t4 hdict
  obtain ⟨od, hod, hD⟩ := S.map
  with_reducible refine hGG ?_
  clear hGG GG
  rw [put_kvs] at hD
  have hled := S.led
  have hadr : ∀ p ∈ led (put G N U), p.1 ∈ addrs G := fun p hp => put_addrs G N U ▸ led_addrs _ ▸ List.mem_map_of_mem (f := (·.1)) hp
  have e1 : @Ne Nat rl x := fun q => hrf (q ▸ .head _)
  have e2 : @Ne Nat rl dx := fun q => hrf (q ▸ .tail _ (.head _))
  have e3 : @Ne Nat rl nd := fun q => hrf (q ▸ .tail _ (.tail _ (.head _)))
  have hn : ∀ p ∈ ((rl, W.listOf rv.toArray ep) :: (x, instObj 171 dx) :: (dx, dictOf (sdict w.params t1 t2 t3 t4 (.ref nd) (.ref rl) npo (.int nfi u2)) 4) :: (nd, od) :: led (put G N U)), s.heap.get? p.1 = some p.2 ∧ b.get? p.1 = none := by
    refine List.forall_mem_cons.mpr ⟨⟨hrl, off _ (.head _)⟩, List.forall_mem_cons.mpr ⟨⟨S.self, off _ (.tail _ (.head _))⟩, List.forall_mem_cons.mpr ⟨⟨hdict, off _ (.tail _ (.tail _ (.head _)))⟩, List.forall_mem_cons.mpr ⟨⟨hod, off _ (.tail _ (.tail _ (.tail _ (.head _))))⟩, fun p hp => ⟨hled p hp, off _ (.tail _ (.tail _ (.tail _ (.tail _ (hadr p hp)))))⟩⟩⟩⟩⟩
  have hvz : vs.length ≤ sizeLine := by rw [sizeLine_eq]; omega
  walk_at "M enterW"
  intro D L g h₁ base outer d u loose mean mg mb F N₁ B X T bg hd hu hg gs ll fD fL
  have hDf : ∀ p ∈ (x, instObj 171 dx) :: (dx, dictOf (sdict w.params t1 t2 t3 t4 (.ref nd) (.ref rl) npo (.int nfi u2)) 4) :: (nd, od) :: led (put G N U), p.1 ≠ D := fun p hp => Nat.ne_of_lt (ll p (.tail _ hp))
  have hDx : D ∉ feet x dx nd G := put_feet G N U ▸ feet_off' hDf
  have hDr : @Ne Nat rl D := Nat.ne_of_lt (ll _ (.head _))
  have hgf : ∀ y o, s.heap.get? y = some o → y ∉ rl :: feet x dx nd G → g.get? y = some o := fun y o e q => hg y o e (by
    intro z
    simp only [List.map_cons, led_addrs, put_addrs] at z
    exact q z)
  clear hg hled hadr hDf ll hn
  dsimp only
  show wpAny _ _ _ _ _ _
  k_fold
  k_steps
  rename Fr g _ _ _ => F2
  rename News g _ _ _ => N2
  refine ⟨for_stmt ?_⟩
  k_steps
  refine for_tuple (items := vs.toArray) rfl (fun m₀ D i m news => (∀ y, y ≠ Str.ofString "node" → y ≠ Str.ofString "nodeinfo" → y ≠ Str.ofString "stat" → y ≠ Str.ofString "successor" → y ≠ Str.ofString "successor_info" → m y = m₀ y) ∧
    DnJ w D rl x dx nd t1 t2 t3 t4 od npo nfi vs G (finAll (succOf G) (N, R) (ss.take i)).1 (finAll (succOf G) (N, R) (ss.take i)).2 (rv.length + 1000 * i) i news)
    F2 N2 ⟨fun _ _ _ _ _ _ => rfl, U, rv, ep, u2, hrv, by omega, by simp only [List.take_zero, finAll, List.foldl_nil, Int.natCast_zero, Int.add_zero]⟩ ?_ ?_ ?_
  · intro i h m news F M hXX
    obtain ⟨_, U', rv', ep', u', _, _, rfl⟩ := hXX
    exact ⟨_, (M _ (.head _)).1, rfl, _, rfl⟩
  · intro i v I oI h tk m news hv hXX
    obtain ⟨hm, U', rv', ep', u', hrv', hrl', rfl⟩ := hXX
    intro F M offI fresh
    have F3 := fr_norm5 F hm
    clear F hm
    with_reducible refine hide ?_
    intro GG hGG
    refine cps_EEA (strs_get hvs (by simpa using hv)) ?_
    rintro k t hk rfl
    obtain ⟨r, hr, rfl⟩ := List.mem_map.mp (hss k (List.mem_of_getElem? hk))
    obtain ⟨pre, post, hG⟩ := List.append_of_mem hr
    with_reducible refine hGG ?_
    clear hGG GG
    have hva := valueAt_some hnn hr
    have hst := hout i _ hk
    have ap : (feet x dx nd G).Nodup := by rw [← put_feet (N := N) (U := U)]; exact S.apart
    have iD : @Ne Nat D I := offI _ (.head _)
    have iR : @Ne Nat rl I := offI _ (.tail _ (.head _))
    have hIx : I ∉ feet x dx nd G := put_feet G _ _ ▸ feet_off' fun p hp => offI p (.tail _ (.tail _ hp))
    generalize hA : finAll (succOf G) (N, R) (ss.take i) = a at *
    with_reducible refine hideT ?_
    intro Qi hQi
    with_reducible refine hide ?_
    intro GG hGG
    with_reducible refine split_factsK a.1 U' hG ap ?_
    intro z1 z2 z3 z4 z5 z6 a1 a2 a3 b1 b2 b3 c1 c2 c3 f1 f2 f3
    with_reducible refine split_neK a.1 U' hG hDx ?_
    intro g1 g2 g3 g4 g5 g6 g7
    with_reducible refine split_neK a.1 U' hG hrf ?_
    intro j1 j2 j3 j4 j5 j6 j7
    with_reducible refine split_neK a.1 U' hG hIx ?_
    intro i1 i2 i3 i4 i5 i6 i7
    with_reducible refine hGG ?_
    clear hGG GG
    have M4 := news_at (ex := [_, _, _, _, _, _]) hG M
    simp only [List.cons_append, List.nil_append, hst] at M4
    clear M N2 F2 offI fresh
    k_steps
    refine ⟨for_stmt ?_⟩
    k_steps
    rename Fr g _ _ _ => F6
    rename News g _ _ _ => N5
    have N6 := news_back (ex := [(I, oI), _, _, _, _, _]) hG hnn N5
    simp only [List.cons_append, List.nil_append] at N6
    clear N5
    refine for_list (items := r.su.toArray) rfl (fun m₀ _ j m news => (∀ y, y ≠ Str.ofString "successor" → y ≠ Str.ofString "successor_info" → m y = m₀ y) ∧
      DnK w I D rl x dx nd t1 t2 t3 t4 oI od npo (.int (nfi + i) u') vs G (((r.su.map strOf).take j).foldl decr (upd a.1 r.nm (-2), a.2)).1 (((r.su.map strOf).take j).foldl decr (upd a.1 r.nm (-2), a.2)).2 (rv'.length + j) news)
      F6 N6 ⟨fun _ _ _ => rfl, _, rv', ep', by simpa using hrv', Nat.le_refl _, by simp only [List.take_zero, List.foldl_nil]; exact rfl⟩ ?_ ?_ ?_
    · intro j h m news F M hXX
      obtain ⟨_, U'', rv'', ep'', _, _, rfl⟩ := hXX
      have M' := news_at (ex := [_, _, _, _, _, _]) hG M
      exact ⟨_, (M' (r.sa, _) (.tail _ (.tail _ (.tail _ (.tail _ (.tail _ (.tail _ (.tail _ (.tail _ (.head _)))))))))).1, rfl, _, rfl⟩
    · intro j v I2 oI2 h tk m₂ news hv2 hXX
      obtain ⟨hm2, U'', rv'', ep'', hrv'', hrl'', rfl⟩ := hXX
      intro F M offI2 fresh2
      have F7 := fr_norm2 F hm2
      with_reducible refine hide ?_
      intro GG hGG
      refine cps_EEA (strs_get (hok r hr).1 (by simpa using hv2)) ?_
      rintro k2 tk2 hk2 rfl
      have hjl : j < 1000 := by
        have := (List.getElem?_eq_some_iff.mp hk2).1
        have := (hok r hr).2.2
        simp only [List.length_map] at *
        omega
      obtain ⟨r2, hr2, rfl⟩ := List.mem_map.mp ((hok r hr).2.1 k2 (List.mem_of_getElem? hk2))
      obtain ⟨pre2, post2, hG2⟩ := List.append_of_mem hr2
      with_reducible refine hGG ?_
      clear hGG GG
      have hva2 := valueAt_some hnn hr2
      have iI2 : @Ne Nat I I2 := offI2 _ (.head _)
      have iD2 : @Ne Nat D I2 := offI2 _ (.tail _ (.head _))
      have iR2 : @Ne Nat rl I2 := offI2 _ (.tail _ (.tail _ (.head _)))
      have hIx2 : I2 ∉ feet x dx nd G := put_feet G _ _ ▸ feet_off' fun p hp => offI2 p (.tail _ (.tail _ (.tail _ hp)))
      have hil : i < 100 := by
        have := (List.getElem?_eq_some_iff.mp hk).1
        rw [← strs_len hvs] at this
        omega
      have hroom : rv''.toArray.size ≤ sizeLine := by rw [List.size_toArray, sizeLine_eq]; omega
      have hkk : ((r.su.map strOf).take (j + 1)).foldl decr (upd a.1 r.nm (-2), a.2) = decr (((r.su.map strOf).take j).foldl decr (upd a.1 r.nm (-2), a.2)) r2.nm := by
        rw [List.take_add_one, hk2]; simp
      rw [hkk]
      generalize ((r.su.map strOf).take j).foldl decr (upd a.1 r.nm (-2), a.2) = c at *
      with_reducible refine hideT ?_
      intro Qj hQj
      clear z1 z2 z3 z4 z5 z6 a1 a2 a3 b1 b2 b3 c1 c2 c3 f1 f2 f3 g1 g2 g3 g4 g5 g6 g7 j1 j2 j3 j4 j5 j6 j7 i1 i2 i3 i4 i5 i6 i7 hm2 hkk
      with_reducible refine hide ?_
      intro GG hGG
      with_reducible refine split_factsK c.1 U'' hG2 ap ?_
      intro z1 z2 z3 z4 z5 z6 a1 a2 a3 b1 b2 b3 c1 c2 c3 f1 f2 f3
      with_reducible refine split_neK c.1 U'' hG2 hDx ?_
      intro g1 g2 g3 g4 g5 g6 g7
      with_reducible refine split_neK c.1 U'' hG2 hrf ?_
      intro j1 j2 j3 j4 j5 j6 j7
      with_reducible refine split_neK c.1 U'' hG2 hIx ?_
      intro i1 i2 i3 i4 i5 i6 i7
      with_reducible refine split_neK c.1 U'' hG2 hIx2 ?_
      intro k1 k2 k3 k4 k5 k6 k7
      with_reducible refine hGG ?_
      clear hGG GG
      have M4 := news_at (ex := [_, _, _, _, _, _, _]) hG2 M
      simp only [List.cons_append, List.nil_append] at M4
      clear M F F6 offI2 fresh2
      k_steps
      · show Qj _ _
        refine hQj _ _ ?_
        refine ⟨?_⟩
        rename Fr g _ _ _ => F9
        rename News g _ _ _ => N9
        have he : c.1 r2.nm - 1 = 0 := by assumption
        simp only [List.push_toArray] at N9
        have N10 := news_back (ex := [_, _, _, _, _, _, _]) hG2 hnn N9
        simp only [List.cons_append, List.nil_append] at N10
        refine ⟨_, _, _, _, rfl, F9, N10, ?_, fun y h1 h2 => by simp [h1, h2], _, _, _, ?_, ?_, rfl⟩
        · exact List.forall_mem_cons.mpr ⟨iI2, List.forall_mem_cons.mpr ⟨iD2, List.forall_mem_cons.mpr ⟨iR2, List.forall_mem_cons.mpr ⟨k1, List.forall_mem_cons.mpr ⟨k2, List.forall_mem_cons.mpr ⟨k3, led_off (not_addr hIx2)⟩⟩⟩⟩⟩⟩
        · simp only [decr, he, if_true]; exact strs_snoc hrv'' _ _
        · simp only [List.length_append, List.length_singleton]; omega
      · show Qj _ _
        refine hQj _ _ ?_
        refine ⟨?_⟩
        rename Fr g _ _ _ => F9
        rename News g _ _ _ => N9
        have he : ¬ c.1 r2.nm - 1 = 0 := by assumption
        have N10 := news_back (ex := [_, _, _, _, _, _, _]) hG2 hnn N9
        simp only [List.cons_append, List.nil_append] at N10
        refine ⟨_, _, _, _, rfl, F9, N10, ?_, fun y h1 h2 => by simp [h1, h2], _, _, _, ?_, ?_, rfl⟩
        · exact List.forall_mem_cons.mpr ⟨iI2, List.forall_mem_cons.mpr ⟨iD2, List.forall_mem_cons.mpr ⟨iR2, List.forall_mem_cons.mpr ⟨k1, List.forall_mem_cons.mpr ⟨k2, List.forall_mem_cons.mpr ⟨k3, led_off (not_addr hIx2)⟩⟩⟩⟩⟩⟩
        · simp only [decr, he, if_false]; exact hrv''
        · omega
    · intro h tk m₂ news hXX
      obtain ⟨hm2, U'', rv'', ep'', hrv'', hrl'', rfl⟩ := hXX
      intro F M
      have F7 := fr_norm2 F hm2
      have htk : (r.su.map strOf).take r.su.toArray.size = r.su.map strOf := by rw [List.size_toArray]; exact List.take_of_length_le (by simp)
      rw [htk] at M hrv''
      have hnx : finAll (succOf G) (N, R) (ss.take (i + 1)) = (r.su.map strOf).foldl decr (upd a.1 r.nm (-2), a.2) := by
        rw [List.take_add_one, hk]
        unfold finAll at hA ⊢
        rw [List.foldl_append, hA]
        simp only [Option.toList_some, List.foldl_cons, List.foldl_nil, fin1, succ_self hnn hr]
      have hsl : rv''.length ≤ rv'.length + 1000 := by
        have := (hok r hr).2.2
        rw [List.size_toArray] at hrl''
        omega
      rw [hnx] at hQi
      generalize (r.su.map strOf).foldl decr (upd a.1 r.nm (-2), a.2) = c at *
      have l3 := led_off (G := G) (N := c.1) (U := U'') (fun q => (da dx (by rw [put_addrs]; exact q)).2.1 rfl)
      clear z1 z2 z3 z4 z5 z6 F hm2
      dsimp only
      k_steps
      show Qi _ _
      refine hQi _ _ ?_
      refine ⟨?_⟩
      rename Fr g _ _ _ => F9
      rename News g _ _ _ => N9
      have e : nfi + (i : Int) + 1 = nfi + ((i + 1 : Nat) : Int) := by omega
      rw [e] at N9
      refine ⟨_, _, _, _, rfl, F9, N9, ?_, fun y h1 h2 h3 h4 h5 => by simp [h1, h2, h3, h4, h5], U'', rv'', ep'', _, hrv'', by omega, rfl⟩
      exact List.forall_mem_cons.mpr ⟨iD, List.forall_mem_cons.mpr ⟨iR, List.forall_mem_cons.mpr ⟨i1, List.forall_mem_cons.mpr ⟨i2, List.forall_mem_cons.mpr ⟨i3, led_off (not_addr hIx)⟩⟩⟩⟩⟩
  · intro h tk m news hXX
    obtain ⟨hm, U', rv', ep', u', hrv', hrl', rfl⟩ := hXX
    intro F M
    have F3 := fr_norm5 F hm
    have htk : ss.take vs.toArray.size = ss := by rw [List.size_toArray, strs_len hvs, List.take_length]
    rw [htk] at M hrv'
    have hz : vs.toArray.size = ss.length := by rw [List.size_toArray, strs_len hvs]
    rw [hz] at M
    dsimp only
    k_steps
    refine ⟨_, _, _, rfl, rfl, fun b o e q => F.keep b o (hgf b o e q), rfl, U', rv', ep', u', Sor.all (M _ (.tail _ (.tail _ (.head _)))).1 (M _ (.tail _ (.tail _ (.tail _ (.head _))))).1 (M _ (.tail _ (.tail _ (.tail _ (.tail _ (.head _)))))).1 ?_ (fun p hp => (M p (.tail _ (.tail _ (.tail _ (.tail _ (.tail _ hp)))))).1) ?_, (M _ (.tail _ (.head _))).1, hrv'⟩
    · rw [put_kvs]; exact hD
    · rw [put_feet, ← put_feet (N := N) (U := U)]; exact S.apart
end

section
set_option maxHeartbeats 4000000 in
theorem active_spec {w : World} {A : Around} {b : Heap} {s : Shared} {n : Nat} {x dx nd rl : Addr} {G : List Nd} {vs : List Value} {ep : Nat} {np nf : Int} {u1 u2 : Tok}
   (C : Cx w (n + 6) A b) (kb : b.StaysIn s.heap) (S : Sor w s.heap x dx nd G (.ref rl) (.int np u1) (.int nf u2)) (hrl : s.heap.get? rl = some (W.listOf vs.toArray ep)) (hrf : rl ∉ feet x dx nd G)
   (off : ∀ a ∈ rl :: feet x dx nd G, b.get? a = none) (hsz : vs.length ≤ 1000) :
   codeAny (model PP w) A (.call (.ref 140) ⟨[.ref x], []⟩) (Ret s [] fun v h' => v = .bool (decide (nf < np) || !vs.isEmpty)) s := by
  with_reducible refine hide ?_
  intro GG hGG
  refine cps_AAA (S.ne) ?_
  intro d1 d2 d3 da
  refine cps_EEEE (S.dict) ?_
  intro t1 t2 t3 t4 hdict
  with_reducible refine hGG ?_
  clear hGG GG
  have hn : ∀ p ∈ [(rl, W.listOf vs.toArray ep), (x, instObj 171 dx), (dx, dictOf (sdict w.params t1 t2 t3 t4 (.ref nd) (.ref rl) (.int np u1) (.int nf u2)) 4)], s.heap.get? p.1 = some p.2 ∧ b.get? p.1 = none :=
    List.forall_mem_cons.mpr ⟨⟨hrl, off _ (.head _)⟩, List.forall_mem_cons.mpr ⟨⟨S.self, off _ (.tail _ (.head _))⟩, List.forall_mem_cons.mpr ⟨⟨hdict, off _ (.tail _ (.tail _ (.head _)))⟩, fun _ h => nomatch h⟩⟩⟩
  walk_at "M enter"
  intro g h₁ base outer d u loose mean mg mb F N B X T bg hd hu hg gs ll kh
  dsimp only
  k_fold
  k_steps
  all_goals (rename Fr g _ _ _ => Ff)
  all_goals (rename News g _ _ _ => Nf)
  all_goals have kp := kept_of Ff hg (foot := []) (by
    simp only [List.map_cons, List.map_nil, List.forall_mem_cons]
    exact ⟨fun _ o e => Option.some.inj (hrl.symm.trans e) ▸ (Nf _ (.head _)).1, fun _ o e => Option.some.inj (S.self.symm.trans e) ▸ (Nf _ (.tail _ (.head _))).1, fun _ o e => Option.some.inj (hdict.symm.trans e) ▸ (Nf _ (.tail _ (.tail _ (.head _)))).1, fun _ h => (nomatch h)⟩)
  · exact ⟨_, _, _, rfl, rfl, kp, by
      have h : nf < np := by assumption
      simp [h]⟩
  · exact ⟨_, _, _, rfl, rfl, kp, by
      have h : ¬ nf < np := by assumption
      simp [h]⟩
end

section
noncomputable def CEnd (g : Heap) (L I D : Addr) (m : Str → Option Value) (oI : Obj) (s : Shared) (ys : List Value) (J : List Value → List (Addr × Obj) → Prop) (y : Option Value) (s' : Shared) : Prop :=
  Stop (∃ h' tk' news', s' = { s with heap := h', toks := tk' } ∧ Fr g L h' m ∧ News g L h' ((I, oI) :: (D, LCg.lst ys) :: news') ∧ (∀ p ∈ news', p.1 ≠ I) ∧ (∀ p ∈ news', p.1 ≠ D) ∧ J (ys ++ y.toList) news')
end

section
theorem for_dict {w : World} {A : Around} {env : Env} {g : Heap} {L D : Addr} {od : Obj} {kvs : List (Str × Value)} {target : Expr} {body : List Stmt} {Q : Flow → Shared → Prop} {E : Value → Shared → Prop} {s : Shared}
    {m₀ : Str → Option Value} {news₀ : List (Addr × Obj)} (hh : A.handled = none) (lo : (D == sysModules) = false) (hod : od.IsDictOf (PySem.strKind PP w) kvs) (J : (Str → Option Value) → Nat → (Str → Option Value) → List (Addr × Obj) → Prop)
    (F₀ : Fr g L s.heap m₀) (N₀ : News g L s.heap news₀) (J₀ : J m₀ 0 m₀ news₀)
    (hD : ∀ i m news, J m₀ i m news → (D, od) ∈ news)
    (turn : ∀ i v t I oI h tk m news, kvs[i]? = some v → J m₀ i m news → Fr g L h m → News g L h ((I, oI) :: news) → (∀ p ∈ news, p.1 ≠ I) → (∀ b o, s.heap.get? b = some o → b < I) →
      wpAny (model PP w) A (assign target env (.str v.1 t)) (fun _ s₂ => wpAny (model PP w) A (execs body env) (fun f s₃ => match f with
        | .next | .cont => Stop (NextI g L I oI s (J m₀ (i + 1)) s₃)
        | .brk => Q .next s₃
        | .ret v => Q (.ret v) s₃) (fun _ _ => False) s₂) (fun _ _ => False) { s with heap := h, toks := tk })
    (done : ∀ h tk m news, J m₀ kvs.length m news → Fr g L h m → News g L h news → Q .next { s with heap := h, toks := tk })
    (ht : ∀ I v, letOwnedTupleGo target (.ref I) v = pure () := by intro _ _; rfl) :
    wpAny (model PP w) A (pyIter (.ref D)) (fun it s₂ => codeAny (model PP w) A (.forLoop target it body [] env) (fun r s' => match r with | .ok f => Q f s' | .error _ => False) s₂) E s := by
  with_reducible refine hide ?_
  intro GG hGG
  obtain ⟨ep, hat'⟩ := (kda_dict N₀ (hD _ _ _ J₀) hod).dictAt
  refine cps_EEA (id hat') ?_
  intro o' es ho' hat
  with_reducible refine hGG ?_
  clear hGG GG
  have hoo : o' = od := Option.some.inj (ho'.symm.trans (N₀ _ (hD _ _ _ J₀)).1)
  subst hoo
  have hlt : D < s.heap.objs.size := Heap.lt_size (N₀ _ (hD _ _ _ J₀)).1
  refine wpAny_pyIter_dict lo hat' ?_
  have up : ∀ b o, s.heap.get? b = some o → (s.heap.push { cls := .type "dict_keyiterator", data := .fields #[.ref D, .int 0 0, .int kvs.length 0, .int ep 0] }).get? b = some o := fun b o e => Heap.get?_push_of_some _ e
  refine for_news (s := { s with heap := _ }) ((Walks.dictKeys (knd := PySem.strKind PP w) hh s.heap.objs.size D (Nat.ne_of_lt hlt) kvs ep)) (J m₀) (fr_push1 F₀) (F₀.kept up) (N₀.grown up) (fun p hp => Nat.ne_of_lt (Heap.lt_size (N₀ p hp).1)) J₀
    ⟨⟨_, Heap.get?_push_size _ rfl, rfl, rfl⟩, o', es, up _ _ ho', hat⟩ (fun i h st => let ⟨o, e, _⟩ := st.1; ⟨o, e⟩)
    (fun i h h' o m' news' st e e' F' N' j => ⟨st.1.at fun o' q => by rw [e] at q; rw [e', ← q], o', es, (N' _ (hD i m' news' j)).1, hat⟩)
    (fun i v oI h tk m news hi hP j F N off => ?_) done (ht _)
  with_reducible refine hide ?_
  intro GG hGG
  refine cps_EEA hP ?_
  intro k x hx hk
  clear hP
  obtain ⟨t, rfl⟩ := Value.isStrOf_shape hk
  with_reducible refine hGG ?_
  clear hGG GG
  exact turn i (k, x) t _ oI h tk m news hx j F N off fun b o e => Heap.lt_size e

theorem for_dictQ {w : World} {A : Around} {env : Env} {g : Heap} {L D : Addr} {od : Obj} {kvs : List (Str × Value)} {target : Expr} {body : List Stmt} {Q : Flow → Shared → Prop} {E : Value → Shared → Prop} {s : Shared}
    {m₀ : Str → Option Value} {news₀ : List (Addr × Obj)} (hh : A.handled = none) (lo : (D == sysModules) = false) (hod : od.IsDictOf (PySem.strKind PP w) kvs) (J : (Str → Option Value) → Nat → (Str → Option Value) → List (Addr × Obj) → Prop)
    (F₀ : Fr g L s.heap m₀) (N₀ : News g L s.heap news₀) (J₀ : J m₀ 0 m₀ news₀)
    (hD : ∀ i m news, J m₀ i m news → (D, od) ∈ news)
    (turn : ∀ i v t I oI h tk m news, kvs[i]? = some v → J m₀ i m news → Fr g L h m → News g L h ((I, oI) :: news) → (∀ p ∈ news, p.1 ≠ I) → (∀ b o, s.heap.get? b = some o → b < I) →
      ∀ Q' : Flow → Shared → Prop, (∀ f s₃, (match f with
        | .next | .cont => (NextI g L I oI s (J m₀ (i + 1)) s₃)
        | .brk => Q .next s₃
        | .ret v => Q (.ret v) s₃) → Q' f s₃) →
      wpAny (model PP w) A (assign target env (.str v.1 t)) (fun _ s₂ => wpAny (model PP w) A (execs body env) Q' (fun _ _ => False) s₂) (fun _ _ => False) { s with heap := h, toks := tk })
    (done : ∀ h tk m news, J m₀ kvs.length m news → Fr g L h m → News g L h news → Q .next { s with heap := h, toks := tk })
    (ht : ∀ I v, letOwnedTupleGo target (.ref I) v = pure () := by intro _ _; rfl) :
    wpAny (model PP w) A (pyIter (.ref D)) (fun it s₂ => codeAny (model PP w) A (.forLoop target it body [] env) (fun r s' => match r with | .ok f => Q f s' | .error _ => False) s₂) E s :=
  for_dict hh lo hod J F₀ N₀ J₀ hD (fun i v t I oI h tk m news a b c d e f => turn i v t I oI h tk m news a b c d e f _ (fun r s₃ z => by
    cases r with
    | next => exact ⟨z⟩
    | cont => exact ⟨z⟩
    | brk => exact z
    | ret v => exact z)) done ht
theorem while_news {w : World} {A : Around} {env : Env} {g : Heap} {L : Addr} {test : Expr} {body orelse : List Stmt} {pos : Pos} {Q : Flow → Shared → Prop} {E : Value → Shared → Prop} {s : Shared} {m : Str → Option Value} {news : List (Addr × Obj)}
    (J : (Str → Option Value) → Nat → (Str → Option Value) → List (Addr × Obj) → Prop) {n₀ : Nat} (F : Fr g L s.heap m) (N : News g L s.heap news) (hJ : J m n₀ m news)
    (turn : ∀ n m₁ news₁ h₁ tk₁, Fr g L h₁ m₁ → News g L h₁ news₁ → J m n m₁ news₁ →
      wpAny (model PP w) A (isTrue test env (eval test env)) (fun b s₂ =>
        if b = true then wpAny (model PP w) A (execs body env) (fun f s₃ => match f with
          | .next | .cont => Stop (NextW g L n s (J m) s₃)
          | .brk => Q .next s₃
          | .ret v => Q (.ret v) s₃) (fun _ _ => False) s₂ else wpAny (model PP w) A (execs orelse env) (fun f s₃ => Q f s₃) (fun _ _ => False) s₂) (fun _ _ => False) { s with heap := h₁, toks := tk₁ }) :
    wpAny (model PP w) A (exec (.While test body orelse pos) env) Q E s := by
  refine wpAny_While (codeAny_whileLoop (fun n s' => ∃ h₁ tk₁ m₁ news₁, s' = { s with heap := h₁, toks := tk₁ } ∧ Fr g L h₁ m₁ ∧ News g L h₁ news₁ ∧ J m n m₁ news₁) ?_ n₀ ⟨s.heap, s.toks, m, news, rfl, F, N, hJ⟩)
  intro n s' hXX
  refine cps_EEEEAAA hXX ?_
  rintro h₁ tk₁ m₁ news₁ rfl F₁ N₁ J₁
  clear hXX
  refine wpAny_mono (turn n m₁ news₁ h₁ tk₁ F₁ N₁ J₁) (fun b s₂ h₂ => ?_) fun _ _ z => z.elim
  cases b with
  | false =>
    simp only [Bool.false_eq_true, if_false] at h₂ ⊢
    exact wpAny_mono h₂ (fun _ _ z => z) fun _ _ z => z.elim
  | true =>
    simp only [if_true] at h₂ ⊢
    refine wpAny_mono h₂ (fun f s₃ z => ?_) fun _ _ z => z.elim
    rcases f with _ | _ | _ | _
    · obtain ⟨h', tk', m', news', n', rfl, F', N', hn, J'⟩ := z.go
      exact ⟨n', hn, h', tk', m', news', rfl, F', N', J'⟩
    · exact z
    · obtain ⟨h', tk', m', news', n', rfl, F', N', hn, J'⟩ := z.go
      exact ⟨n', hn, h', tk', m', news', rfl, F', N', J'⟩
    · exact z
section
variable {w : World} {A : Around} {E : Value → Shared → Prop} {s : Shared} {h₀ : Heap} {L sa : Addr} {m : Str → Option Value} {news : List (Addr × Obj)} {g : Obj → List (Addr × Obj)} {so : Obj} {S : Str → Bool} {n : Nat} {k : Str} {key : Value}
theorem while_newsQ {w : World} {A : Around} {env : Env} {g : Heap} {L : Addr} {test : Expr} {body orelse : List Stmt} {pos : Pos} {Q : Flow → Shared → Prop} {E : Value → Shared → Prop} {s : Shared} {m : Str → Option Value} {news : List (Addr × Obj)}
    (J : (Str → Option Value) → Nat → (Str → Option Value) → List (Addr × Obj) → Prop) {n₀ : Nat} (F : Fr g L s.heap m) (N : News g L s.heap news) (hJ : J m n₀ m news)
    (turn : ∀ n m₁ news₁ h₁ tk₁, Fr g L h₁ m₁ → News g L h₁ news₁ → J m n m₁ news₁ →
      ∀ Q' : Flow → Shared → Prop, (∀ f s₃, (match f with
          | .next | .cont => (NextW g L n s (J m) s₃)
          | .brk => Q .next s₃
          | .ret v => Q (.ret v) s₃) → Q' f s₃) →
      wpAny (model PP w) A (isTrue test env (eval test env)) (fun b s₂ =>
        if b = true then wpAny (model PP w) A (execs body env) Q' (fun _ _ => False) s₂ else wpAny (model PP w) A (execs orelse env) Q (fun _ _ => False) s₂) (fun _ _ => False) { s with heap := h₁, toks := tk₁ }) :
    wpAny (model PP w) A (exec (.While test body orelse pos) env) Q E s :=
  while_news J F N hJ (fun n m₁ news₁ h₁ tk₁ a b c => turn n m₁ news₁ h₁ tk₁ a b c _ (fun r s₃ z => by
    cases r with
    | next => exact ⟨z⟩
    | cont => exact ⟨z⟩
    | brk => exact z
    | ret v => exact z))
theorem in_set {Q : Value → Shared → Prop} (b : Bool) (N : News h₀ L s.heap news) (U : UpdF sa so news g) (hso : so.SetObjOf (PySem.strKind PP w) S n) (hb : n < scanBound) (hkey : (PySem.strKind PP w).is k key = true) (hsc : key.scannable = true) (hbb : S k = b) (h : Q (.bool b) { s with toks := s.toks + 1 }) :
    wpAny (model PP w) A (compareOp .In key (.ref sa)) Q E s := kse_in N U hso hb hkey hsc (by rw [hbb]; exact h)

end
end

section
open PyProof.Rows.TI (Frs SameUp)

structure CxS (w : World) (n : Nat) (A : Around) (b h : Heap) (outer : List Env) (frs : List (Addr × Obj)) : Prop where
  stack : A.frames = some outer
  fr : Frs outer frs
  at_ : ∀ p ∈ frs, h.get? p.1 = some p.2 ∧ b.get? p.1 = none
  hand : A.handled = none
  guards : A.guards = some []
  depth : A.depth + n ≤ 900
  units : A.units + 20 * n ≤ 9000
  kin : (hd.heap_39 w.params).In b
  top : ∃ loose mean mg mb, Top hd.view_39 loose mean mg mb b

theorem CxS.is {w : World} {n : Nat} {A : Around} {b h : Heap} {outer : List Env} {frs : List (Addr × Obj)} (C : CxS w n A b h outer frs) : ∃ d u, A = mkA d u outer ∧ d + n ≤ 900 ∧ u + 20 * n ≤ 9000 := by
  with_reducible refine hide ?_
  intro GG hGG
  obtain ⟨hd, d, fr, gs, u⟩ := A
  with_reducible refine hGG ?_
  clear hGG GG
  have h1 := C.hand
  have h2 := C.guards
  have h3 := C.stack
  simp only at h1 h2 h3
  subst h1 h2 h3
  exact ⟨d, u, rfl, C.depth, C.units⟩

inductive RetT (h : Heap) (gs : Array GenState) (d : Drawn) (os : OsState) (foot : List Addr) (frs : List (Addr × Obj)) (P : Value → Heap → Prop) (r : Result) (s' : Shared) : Prop
  | mk (v : Value) (h' : Heap) (tk : Tok) (frs' : List (Addr × Obj)) (e1 : r = .ok (.ret v)) (e2 : s' = ⟨h', gs, d, tk, os⟩) (su : SameUp frs frs') (up : ∀ p ∈ frs', h'.get? p.1 = some p.2)
      (k : ∀ b o, h.get? b = some o → b ∉ foot → b ∉ frs.map (·.1) → h'.get? b = some o) (p : P v h')
@[reducible] noncomputable def RetS (s : Shared) (foot : List Addr) (frs : List (Addr × Obj)) (P : Value → Heap → Prop) (r : Result) (s' : Shared) : Prop := RetT s.heap s.gens s.drawn s.os foot frs P r s'

theorem enterS {w : World} {n : Nat} {A : Around} {b : Heap} {s : Shared} {outer : List Env} {frs news : List (Addr × Obj)} {R : Result → Shared → Prop}
    {name qual : Str} {params : Arguments} {body : List Stmt} {scope : Scope} {dV kV doc pm cdv ct oc : Value} {an od : Option Addr} {osl : Array (Option Value)} {f : Addr} {args : Args} {binds : List (Str × Value)}
    (C : CxS w (n + 2) A b s.heap outer frs) (kb : b.StaysIn s.heap) (hn : ∀ p ∈ news, s.heap.get? p.1 = some p.2 ∧ b.get? p.1 = none)
    (ho : (hd.heap_39 w.params).lookup f = some ⟨oc, od, .func (fnOf name qual params body scope dV kV doc pm an cdv ct), osl⟩) (hcd : codeIn (hd.heap_39 w.params) cdv qual = true)
    (hbind : BindsTo s (fnOf name qual params body scope dV kV doc pm an cdv ct) args binds) (hloc : ∀ y ∈ binds, scope.names.lookup y.1 = some .local)
    (h : ∀ g h₁ d u loose mean mg mb, A = mkA d u outer → Fr g s.heap.objs.size h₁ (fun y => binds.reverse.lookup y) → News g s.heap.objs.size h₁ (news ++ frs) → (hd.heap_39 w.params).In g → Top hd.view_39 loose mean mg mb g →
      b.StaysIn g → d + n + 2 ≤ 900 → u + 20 * n + 40 ≤ 9000 → (∀ x o, s.heap.get? x = some o → x ∉ (news ++ frs).map (·.1) → g.get? x = some o) → g.StaysIn s.heap →
      (∀ p ∈ news ++ frs, p.1 < s.heap.objs.size) → s.heap.StaysIn h₁ →
      wpAny (model PP w) ((mkA d u outer).deeper (envOf qual scope s.heap.objs.size f cdv)) (execs body (envOf qual scope s.heap.objs.size f cdv))
        (fun fl s' => R (.ok (.ret (match fl with | .ret v => v | _ => .none))) s')
        (fun e s' => wpAny (model PP w) ((mkA d u outer).deeper (envOf qual scope s.heap.objs.size f cdv)) (leaving (envOf qual scope s.heap.objs.size f cdv) e) (fun _ s'' => R (.error e) s'') (fun e' s'' => R (.error e') s'') s')
        { s with heap := h₁, toks := s.toks + binds.length })
    (hco : scope.isCoroutine = false) (hgen : scope.isGenerator = false) (hk : scope.kind = .function)
    (hcell : ∀ x ∈ scope.names, x.2 ≠ .cell) : codeAny (model PP w) A (.call (.ref f) args) R s := by
  with_reducible refine hide ?_
  intro GG hGG
  refine cps_EEAA (C.is) ?_
  rintro d u rfl hd hu
  refine cps_EEEE (C.top) ?_
  intro loose mean mg mb T
  with_reducible refine hGG ?_
  clear hGG GG
  have X := C.kin.keeps kb
  have hn' : ∀ p ∈ news ++ frs, s.heap.get? p.1 = some p.2 ∧ b.get? p.1 = none := fun p hp => (List.mem_append.mp hp).elim (hn p) (C.at_ p)
  refine codeAny_call_def (fd := fnOf name qual params body scope dV kV doc pm an cdv ct) (body := body) (binds := binds) (by show d < 1000; omega) (X _ _ ho) rfl (T.nolimit.keeps kb) (codeRec_of X hcd) rfl hbind hcell hloc (fun h₁ hns hk₁ => ?_) hco hgen hk
  have nm : ∀ x o, b.get? x = some o → x ∉ (news ++ frs).map (·.1) := fun x o e q => by
    with_reducible refine hide ?_
    intro GG hGG
    obtain ⟨p, hp, rfl⟩ := List.mem_map.mp q
    with_reducible refine hGG ?_
    clear hGG GG
    rw [(hn' p hp).2] at e; cases e
  have st : b.StaysIn (hideAll s.heap ((news ++ frs).map (·.1))) := fun x o e => hideAll_get _ (kb x o e) (nm x o e)
  exact h _ h₁ d u loose mean mg mb rfl ⟨hns, fun x o e => hk₁ x o (of_hideAll _ e), Nat.le_of_eq (hideAll_size _ _)⟩
    (fun p hp => ⟨hk₁ _ _ (hn' p hp).1, Nat.ne_of_lt (Heap.lt_size (hn' p hp).1), hideAll_none _ (List.mem_map_of_mem hp)⟩) (C.kin.keeps st) (T.keeps st) st hd (by omega)
    (fun x o e q => hideAll_get _ e q) (fun x o e => of_hideAll _ e) (fun p hp => Heap.lt_size (hn' p hp).1) hk₁

theorem enterSQ {w : World} {n : Nat} {A : Around} {b : Heap} {s : Shared} {outer : List Env} {frs news : List (Addr × Obj)} {R : Result → Shared → Prop}
    {name qual : Str} {params : Arguments} {body : List Stmt} {scope : Scope} {dV kV doc pm cdv ct oc : Value} {an od : Option Addr} {osl : Array (Option Value)} {f : Addr} {args : Args} {binds : List (Str × Value)}
    (C : CxS w (n + 2) A b s.heap outer frs) (kb : b.StaysIn s.heap) (hn : ∀ p ∈ news, s.heap.get? p.1 = some p.2 ∧ b.get? p.1 = none)
    (ho : (hd.heap_39 w.params).lookup f = some ⟨oc, od, .func (fnOf name qual params body scope dV kV doc pm an cdv ct), osl⟩) (hcd : codeIn (hd.heap_39 w.params) cdv qual = true)
    (hbind : BindsTo s (fnOf name qual params body scope dV kV doc pm an cdv ct) args binds) (hloc : ∀ y ∈ binds, scope.names.lookup y.1 = some .local)
    (h : ∀ g h₁ d u loose mean mg mb, A = mkA d u outer → Fr g s.heap.objs.size h₁ (fun y => binds.reverse.lookup y) → News g s.heap.objs.size h₁ (news ++ frs) → (hd.heap_39 w.params).In g → Top hd.view_39 loose mean mg mb g →
      b.StaysIn g → d + n + 2 ≤ 900 → u + 20 * n + 40 ≤ 9000 → (∀ x o, s.heap.get? x = some o → x ∉ (news ++ frs).map (·.1) → g.get? x = some o) → g.StaysIn s.heap →
      (∀ p ∈ news ++ frs, p.1 < s.heap.objs.size) → s.heap.StaysIn h₁ →
      wpAny (model PP w) ((mkA d u outer).deeper (envOf qual scope s.heap.objs.size f cdv)) (execs body (envOf qual scope s.heap.objs.size f cdv))
        (fun fl s' => R (.ok (.ret (match fl with | .ret v => v | _ => .none))) s') (fun _ _ => False)
        { s with heap := h₁, toks := s.toks + binds.length })
    (hco : scope.isCoroutine = false) (hgen : scope.isGenerator = false) (hk : scope.kind = .function)
    (hcell : ∀ x ∈ scope.names, x.2 ≠ .cell) : codeAny (model PP w) A (.call (.ref f) args) R s :=
  enterS C kb hn ho hcd hbind hloc (fun g h₁ d u loose mean mg mb e F N X T bg hd hu hg gs hl kh => wpAny_mono (h g h₁ d u loose mean mg mb e F N X T bg hd hu hg gs hl kh) (fun _ _ z => z) fun _ _ z => z.elim) hco hgen hk hcell

theorem rebaseS {w : World} {g h : Heap} {L : Addr} {m : Str → Option Value} {outer : List Env} {frs : List (Addr × Obj)} {loose : List Str} {mean : ExcName → Option Value} {mg mb : Str → Option Value} (d u : Nat)
    (F : Fr g L h m) (Fs : Frs outer frs) (hf : News g L h frs) (hlt : ∀ p ∈ frs, p.1 < L) (X : (hd.heap_39 w.params).In g) (T : Top hd.view_39 loose mean mg mb g)
    (touched : List (Addr × Obj)) (ht : News g L h touched) (hap : ∀ p ∈ frs, p.1 ∉ touched.map (·.1)) :
    ∃ g1, Fr g1 L h m ∧ News g1 L h touched ∧ g.StaysIn g1 ∧ (∀ b o, b < L → h.get? b = some o → b ∉ touched.map (·.1) → g1.get? b = some o) ∧ (∀ b o, g1.get? b = some o → h.get? b = some o ∧ b < L) ∧
      (∀ p ∈ frs, g1.get? p.1 = some p.2) ∧ Below (mkA d u outer) g outer g1 ∧ (hd.heap_39 w.params).In g1 ∧ Top hd.view_39 loose mean mg mb g1 := by
  refine cps_EAAAA (rebase F touched ht) ?_
  intro g1 F1 N1 k1 K1 K2
  have hfr : ∀ p ∈ frs, g1.get? p.1 = some p.2 := fun p hp => K1 p.1 p.2 (hlt p hp) (hf p hp).1 (hap p hp)
  exact ⟨g1, F1, N1, k1, K1, K2, hfr, ⟨rfl, k1, Fs.fun fun p hp => ⟨hfr p hp, (hf p hp).2.2⟩⟩, X.keeps k1, T.keeps k1⟩

theorem back_down {g g1 h h' : Heap} {L : Addr} {m m' : Str → Option Value} {frs news : List (Addr × Obj)} (F : Fr g L h m) (k1 : g.StaysIn g1) (F1 : Fr g1 L h' m') (N1 : News g1 L h' news) (hf : News g L h frs) (hfr : ∀ p ∈ frs, g1.get? p.1 = some p.2) :
    Fr g L h' m' ∧ News g L h' (news ++ frs) := by
  refine ⟨fr_down F F1 k1, fun p hp => (List.mem_append.mp hp).elim (fun hp => ⟨(N1 p hp).1, (N1 p hp).2.1, kts_none k1 (N1 p hp).2.2⟩) fun hp => ⟨F1.keep _ _ (hfr p hp), (hf p hp).2⟩⟩

theorem catch_here {w : World} {E : Value → Shared → Prop} {s' : Shared} {g h : Heap} {d u : Nat} {outer : List Env} {L a e : Addr} {m : Str → Option Value} {name : Str} {scope : Scope} {cd : Value}
    {b₀ : Stmt} {suite : List Stmt} {pos np : Pos} {rest : List ExceptHandler} {Q : Flow → Shared → Prop} {frs new : List (Addr × Obj)} {loose : List Str} {mean : ExcName → Option Value} {mg mb : Str → Option Value} {x : Str} {X T' : String}
    (hx : Heap.NewExc h s'.heap e X) (Fs : Frs outer frs) (F : Fr g L h m) (N : News g L h (new ++ frs)) (hap : ∀ p ∈ new, p.1 ∉ L :: frs.map (·.1)) (XB : (hd.heap_39 w.params).In g) (TB : Top hd.view_39 loose mean mg mb g)
    (ex : nsIn (hd.heap_39 w.params) mainGlobals x = some none) (hv : bootBuiltins x = some (.type T')) (hn' : x ≠ "__name__")
    (hexc : isSubtype (.type T') (.type "BaseException") = pure true) (hnt : isSubtype (.type ((Manifest.find? T').elim "type" fun y => y.metatype)) (.type "tuple") = pure false) (hsub : isSubtype (.type X) (.type T') = pure true)
    (k : ∀ h' frs', SameUp frs frs' → Frs outer frs' → Fr g L h' m → News g L h' (new ++ frs') →
      wpAny (model PP w) (((mkA d u outer).deeper (envOf name scope L a cd)).mark (some (.ref e))) (execs (b₀ :: suite) (envOf name scope L a cd)) Q E { s' with heap := h' })
    (hk : scope.kind = .function := by rfl) (hxk : (envOf name scope L a cd).kindOf x = some .globalImplicit := by rfl) (hdb : (x == ("__debug__" : Str)) = false := by decide)
    (hE : PassesOwnAt (model PP w) (((mkA d u outer).deeper (envOf name scope L a cd)).mark (some (.ref e))) ((mkA d u outer).deeper (envOf name scope L a cd)) (envOf name scope L a cd) E := by passes_own) :
    wpAny (model PP w) ((mkA d u outer).deeper (envOf name scope L a cd)) (noteFrame (.ref e) (envOf name scope L a cd))
      (fun _ s₂ => wpAny (model PP w) ((mkA d u outer).deeper (envOf name scope L a cd)) (setFlight (.ref e) none) (fun _ s₃ =>
        wpAny (model PP w) ((mkA d u outer).deeper (envOf name scope L a cd)) (handleBy (.ref e) (envOf name scope L a cd) (.ExceptHandler (some (.Name x np)) none (b₀ :: suite) pos :: rest)) Q E s₃) E s₂) E s' := by
  refine TLg.noted_newA rfl Fs hx F N hap (fun h4 frs' SU Fs' H => ?_) hk
  refine TT.HeldNA.land (s' := { s' with heap := h4 }) H fun h5 H5 => ?_
  refine wpAny_handleBy_builtin (X := X) (T := T') (b := true) hexc hnt hsub (wpAny_passesOwnAt hE (name_B (s := { s' with heap := h5 }) H5.held.fr XB (topRead_of TB) ex hv hn' ⟨rfl, TT.HeldNA.isA (s' := { s' with heap := h5 }) H5, ?_⟩ hk hxk hdb))
  rw [if_pos rfl]
  exact TT.HeldNA.lands (s' := { s' with heap := h5 }) H5 fun h' F' N' => wpAny_passesOwnAt hE (k h' frs' SU Fs' F' N')

theorem sameUp_map {a b : List (Addr × Obj)} (h : SameUp a b) : b.map (·.1) = a.map (·.1) := by
  induction a generalizing b with
  | nil => cases b with
    | nil => rfl
    | cons _ _ => exact False.elim h
  | cons p ps ih =>
    cases b with
    | nil => exact False.elim h
    | cons q qs =>
      with_reducible refine hide ?_
      intro GG hGG
      obtain ⟨x1, _, x3⟩ := h
      with_reducible refine hGG ?_
      clear hGG GG
      rw [List.map_cons, List.map_cons, x1, ih x3]
end

section
@[reducible] noncomputable def boundO (i : Addr) : Obj := { cls := .type "method-wrapper", data := .fields #[.builtin "list_iterator.__next__", .ref i] }
@[reducible] noncomputable def iterO (sa : Addr) (p : Nat) : Obj := { cls := .type "list_iterator", data := .fields #[.ref sa, .int p 0] }

section
variable {w : World} {A : Around} {E : Value → Shared → Prop} {s : Shared}
theorem call_iter_list {l : Addr} {items : Array Value} {Q : Value → Shared → Prop} (hl : s.heap.IsList l items) (h : Q (.ref s.heap.objs.size) { s with heap := s.heap.push (iterO l 0) }) :
    wpAny (model PP w) A (call (.builtin "iter") [.ref l]) Q E s := by
  refine PySem.Calls.call_function_entry (by decide +kernel) (by decide +kernel) kdk_entry_iter (kdk_args_iter _) ?_
  unfold Builtin.«iter»
  refine wpAny_bind (m := someArgs "iter" 1 2 _) (wpAny_of_eq (a := [Value.ref l]) (by first | rfl | kernel_rfl!) ?_)
  show wpAny _ _ (pyIter (.ref l) >>= _) _ _ _
  exact wpAny_bind (wpAny_pyIter_list hl (wpAny_pure ⟨_, rfl, h⟩))

theorem check_next (it : Addr) : checkBoundCall "list_iterator.__next__" ⟨[.ref it], []⟩ = pure () := by first | kernel_rfl | rfl

theorem call_bound {x it : Addr} {Q : Value → Shared → Prop} (ho : s.heap.get? x = some (boundO it))
    (h : wpAny (model PP w) A.in1 (Builtin.«list_iterator.__next__» ⟨[.ref it], []⟩) (fun fin s' => ∃ v, fin = .done (.ret v) ∧ Q v s') E s) :
    wpAny (model PP w) A (call (.ref x) []) Q E s := by
  refine wpAny_call (codeAny_of_tree ?_)
  show wpAny _ A.in1 (callAny (.ref x) ⟨[], []⟩) _ _ s
  simp only [callAny]
  refine wpAny_bind (wpAny_load ho ?_)
  simp only [boundO, show (Value.type "method-wrapper" == Value.type "method" || Value.type "method-wrapper" == Value.type "builtin_function_or_method" || Value.type "method-wrapper" == Value.type "method-wrapper") = true by decide, if_true]
  refine KFB.if_so (by decide) ?_
  refine wpAny_bind (wpAny_of_eq (a := ()) (check_next it) ?_)
  refine wpAny_bind (wpAny_pure (wpAny_pure ?_))
  refine ⟨Code.quiet_builtin _ (by decide +kernel), codeAny_builtin entry_listiter_next ?_⟩
  rw [Around.under_plainId (by decide +kernel)]
  refine wpAny_mono h (fun fin s' z => ?_) fun _ _ z => z
  with_reducible refine hide ?_
  intro GG hGG
  obtain ⟨v, rfl, hv⟩ := z
  with_reducible refine hGG ?_
  clear hGG GG
  exact hv

theorem next_item {it l : Addr} {i : Nat} {items : Array Value} {x : Value} {Q : Value → Shared → Prop} (ho : s.heap.get? it = some (iterO l i)) (hl : s.heap.IsList l items) (hx : items[i]? = some x)
    (hQ : ∀ h', h'.get? it = some (iterO l (i + 1)) → Heap.SameBut it s.heap h' → Q x { s with heap := h' }) :
    wpAny (model PP w) A (Builtin.«list_iterator.__next__» ⟨[.ref it], []⟩) (fun fin s' => ∃ v, fin = .done (.ret v) ∧ Q v s') E s := by
  refine cps_EAAE hl ?_
  intro ol hol _ nl hdl
  clear hl
  show wpAny _ _ (field (.ref it) 0 >>= _) _ _ s
  refine wpAny_bind (wpAny_field ho rfl (x := .ref l) rfl ?_)
  show wpAny _ _ (if (Value.ref l == Value.none) = true then _ else _) _ _ s
  rw [if_neg (show ¬ ((Value.ref l == Value.none) = true) from Bool.false_ne_true)]
  show wpAny _ _ (field (.ref it) 1 >>= _) _ _ s
  refine wpAny_bind (wpAny_field ho rfl (x := .int i 0) rfl ?_)
  show wpAny _ _ (seqItems? (.ref l) >>= _) _ _ s
  refine wpAny_bind (wpAny_seqItems hol hdl ?_)
  simp only [Int.toNat_natCast, hx]
  refine wpAny_bind (wpAny_setField ho rfl (by simp) (wpAny_pure ⟨x, rfl, hQ _ ?_ (Heap.SameBut.update ..)⟩))
  rw [Heap.get?_update_self _ ho (Obj.isFreed_of_fields (Obj.data_mapFields rfl _))]
  simp [Obj.mapFields, rawInt]

theorem next_end {it l : Addr} {i : Nat} {items : Array Value} {Q : Value → Shared → Prop} (hh : A.handled = none) (ho : s.heap.get? it = some (iterO l i)) (hl : s.heap.IsList l items) (hx : items[i]? = none)
    (hE : ∀ h₁ o h' e, h₁.get? it = some o → Heap.SameBut it s.heap h₁ → Heap.NewExc h₁ h' e "StopIteration" → E (.ref e) { s with heap := h' }) :
    wpAny (model PP w) A (Builtin.«list_iterator.__next__» ⟨[.ref it], []⟩) (fun fin s' => ∃ v, fin = .done (.ret v) ∧ Q v s') E s := by
  refine cps_EAAE hl ?_
  intro ol hol _ nl hdl
  clear hl
  show wpAny _ _ (field (.ref it) 0 >>= _) _ _ s
  refine wpAny_bind (wpAny_field ho rfl (x := .ref l) rfl ?_)
  show wpAny _ _ (if (Value.ref l == Value.none) = true then _ else _) _ _ s
  rw [if_neg (show ¬ ((Value.ref l == Value.none) = true) from Bool.false_ne_true)]
  show wpAny _ _ (field (.ref it) 1 >>= _) _ _ s
  refine wpAny_bind (wpAny_field ho rfl (x := .int i 0) rfl ?_)
  show wpAny _ _ (seqItems? (.ref l) >>= _) _ _ s
  refine wpAny_bind (wpAny_seqItems hol hdl ?_)
  simp only [Int.toNat_natCast, hx]
  refine wpAny_bind (wpAny_rule (wpAny_bind (wpAny_setField ho rfl (by simp) ?_)))
  show wpAny _ _ (newExc (.type "StopIteration") [] >>= _) _ _ _
  refine wpAny_bind ?_
  simp only [newExc, newTuple]
  refine wpAny_bind (wpAny_newObj_type ?_ (by size_fits))
  refine wpAny_bind (m := firstArgMember _ _) (wpAny_of_eq (a := Value.none) (by first | rfl | (simp only [firstArgMember]; rfl)) ?_)
  refine wpAny_newObj_type ?_ (by size_fits)
  simp only [raiseNew]
  refine wpAny_bind (wpAny_handled ?_)
  rw [hh]
  refine wpAny_bind (wpAny_pure (wpAny_throw ?_))
  refine hE _ _ _ _ (Heap.get?_update_self _ ho (Obj.isFreed_of_fields (Obj.data_mapFields rfl _))) (Heap.SameBut.update ..) ⟨fun b o e => Heap.get?_push_of_some _ (Heap.get?_push_of_some _ e), ?_, ⟨_, _, Heap.get?_push_size _ rfl, rfl, rfl⟩⟩
  cases q : (s.heap.update it (Obj.mapFields (·.setIfInBounds 0 Value.none))).get? _ with
  | none => rfl
  | some o =>
    have := Heap.lt_size q
    have this := this
    simp only [Heap.size_push] at this
    exact absurd (Nat.lt_of_succ_lt this) (Nat.lt_irrefl _)
end
end

section
theorem li_ga : Slot "list_iterator" "__getattribute__" "object.__getattribute__" :=
  .of (owner := "object") (n := "__getattribute__") (by rw [typeLookup_type, builtinLookup_eq_fast]; kernel_rfl) (by decide +kernel) (by decide +kernel) (by decide +kernel)
    (by first | exact .inl (by decide +kernel) | exact .inr (by decide +kernel)) (by rw [isSubtype_type]; kernel_rfl)
theorem li_ga_entry : entryFor table "object.__getattribute__" = some Builtin.«object.__getattribute__» := entryFor_of_tree (by kernel_rfl)
theorem li_ga_args (a b : Value) : argsOk "object.__getattribute__" ⟨[a, b], []⟩ := by unfold argsOk; kernel_rfl
theorem li_next : typeLookup (.type "list_iterator") "__next__" = pure (some (.builtin "list_iterator.__next__")) := slot_listiter_next.lookup
theorem li_next_type : typeOf (.builtin "list_iterator.__next__") = pure (.type "wrapper_descriptor") := by show builtinType _ = _; rw [builtinType_eq_fast]; kernel_rfl
theorem wd_get : Slot "wrapper_descriptor" "__get__" "wrapper_descriptor.__get__" :=
  .of (owner := "wrapper_descriptor") (n := "__get__") (by rw [typeLookup_type, builtinLookup_eq_fast]; kernel_rfl) (by decide +kernel) (by decide +kernel) (by decide +kernel)
    (by first | exact .inl (by decide +kernel) | exact .inr (by decide +kernel)) (by rw [isSubtype_type]; kernel_rfl)
theorem wd_set : typeLookup (.type "wrapper_descriptor") "__set__" = pure none := by rw [typeLookup_type, builtinLookup_eq_fast]; kernel_rfl
theorem wd_del : typeLookup (.type "wrapper_descriptor") "__delete__" = pure none := by rw [typeLookup_type, builtinLookup_eq_fast]; kernel_rfl
theorem wd_entry : entryFor table "wrapper_descriptor.__get__" = some Builtin.«wrapper_descriptor.__get__» := entryFor_of_tree (by kernel_rfl)
theorem wd_args (a b c : Value) : argsOk "wrapper_descriptor.__get__" ⟨[a, b, c], []⟩ := by unfold argsOk; kernel_rfl
theorem li_getattr_none : typeLookup (.type "list_iterator") "__getattr__" = pure none := by rw [typeLookup_type, builtinLookup_eq_fast]; kernel_rfl
theorem li_sub : isSubtype (.type "list_iterator") (.type "list_iterator") = pure true := by rw [isSubtype_type]; kernel_rfl

section
variable {w : World} {A : Around} {E : Value → Shared → Prop} {s : Shared}
theorem wd_body {I sa : Addr} {p : Nat} {Q : Value → Shared → Prop} (hI : s.heap.get? I = some (iterO sa p)) (h : Q (.ref s.heap.objs.size) { s with heap := s.heap.push (boundO I) }) :
    wpAny (model PP w) A (Builtin.«wrapper_descriptor.__get__» ⟨[.builtin "list_iterator.__next__", .ref I, .type "list_iterator"], []⟩) (fun fin s' => ∃ v, fin = .done (.ret v) ∧ Q v s') E s := by
  unfold Builtin.«wrapper_descriptor.__get__»
  refine wpAny_bind (wpAny_of_eq (a := (.builtin "list_iterator.__next__", some (.ref I), some (.type "list_iterator"))) (by first | rfl | kernel_rfl) ?_)
  have hT : s.TypeIs (.ref I) "list_iterator" := ⟨_, hI, rfl⟩
  refine wpAny_bind ?_
  refine wpAny_bind (wpAny_of_eq (a := ((Str.ofString "__next__"), Value.type "list_iterator")) (by first | rfl | kernel_rfl) ?_)
  refine wpAny_bind (wpAny_isInstance hT li_sub ?_)
  refine KFB.if_not rfl ?_
  refine wpAny_pure ?_
  exact wpAny_bind (wpAny_newObj_type (wpAny_pure ⟨_, rfl, h⟩))

theorem ga_body {I sa : Addr} {p : Nat} {u : Tok} {Q : Value → Shared → Prop} (hI : s.heap.get? I = some (iterO sa p)) (h : Q (.ref s.heap.objs.size) { s with heap := s.heap.push (boundO I) }) :
    wpAny (model PP w) A (Builtin.«object.__getattribute__» ⟨[.ref I, .str "__next__" u], []⟩) (fun fin s' => ∃ v, fin = .done (.ret v) ∧ Q v s') E s := by
  with_reducible refine hide ?_
  intro GG hGG
  obtain ⟨hp, g, d, tk, os⟩ := s
  with_reducible refine hGG ?_
  clear hGG GG
  have hT : ∀ tk', (⟨hp, g, d, tk', os⟩ : Shared).TypeIs (.ref I) "list_iterator" := fun _ => ⟨_, hI, rfl⟩
  have f1 := li_next
  have f2 := wd_get.lookup
  have f3 := wd_set
  have f4 := wd_del
  have f5 := li_next_type
  unfold Builtin.«object.__getattribute__»
  repeat (any_goals (first | assumption | exact hT _ | ((with_reducible show wpAny _ _ (call (Value.builtin "wrapper_descriptor.__get__") _) _ _ _); refine wpAny_call_entry wd_get li_next_type wd_entry (wd_body hI ?_) (wd_args _ _ _)) | wp_step))
  exact ⟨_, rfl, h⟩

theorem getAttr_next {I sa : Addr} {p : Nat} {Q : Value → Shared → Prop} (hI : s.heap.get? I = some (iterO sa p)) (h : ∀ tk, Q (.ref s.heap.objs.size) { s with heap := s.heap.push (boundO I), toks := tk }) :
    wpAny (model PP w) A (getAttr (.ref I) "__next__" true) Q E s := by
  with_reducible refine hide ?_
  intro GG hGG
  obtain ⟨hp, g, d, tk, os⟩ := s
  with_reducible refine hGG ?_
  clear hGG GG
  have hT : ∀ tk', (⟨hp, g, d, tk', os⟩ : Shared).TypeIs (.ref I) "list_iterator" := fun _ => ⟨_, hI, rfl⟩
  have f3 := li_ga.lookup
  have f4 := li_ga.bind (.ref I)
  have f5 := li_getattr_none
  unfold getAttr getAttrBy
  repeat (any_goals (first | assumption | exact hT _ | ((with_reducible show wpAny _ _ (call (Value.builtin "object.__getattribute__") _ _) _ _ _); refine wpAny_call_entry li_ga (hT _) li_ga_entry (ga_body hI ?_) (li_ga_args _ _)) | wp_step))
  exact h _
end
section
variable {w : World} {A : Around} {E : Value → Shared → Prop} {s : Shared} {h₀ : Heap} {L : Addr} {m : Str → Option Value} {news : List (Addr × Obj)}
theorem fc_iter {l : Addr} {items : Array Value} {Q : Value → Shared → Prop} (F : Fr h₀ L s.heap m) (N : News h₀ L s.heap news) (hl : s.heap.IsList l items)
    (h : ∀ (I : Addr) h', Fr h₀ L h' m → News h₀ L h' ((I, iterO l 0) :: news) → (∀ p ∈ news, p.1 < I) → Q (.ref I) { s with heap := h' }) : wpAny (model PP w) A (call (.builtin "iter") [.ref l]) Q E s :=
  call_iter_list hl (h _ _ (F.push _) (News.push F N _ rfl) fun p hp => Heap.lt_size (N p hp).1)
theorem fc_attr {I sa : Addr} {p : Nat} {Q : Value → Shared → Prop} (F : Fr h₀ L s.heap m) (N : News h₀ L s.heap news) (hm : (I, iterO sa p) ∈ news)
    (h : ∀ (x : Addr) h' tk, Fr h₀ L h' m → News h₀ L h' ((x, boundO I) :: news) → (∀ p ∈ news, p.1 < x) → Q (.ref x) { s with heap := h', toks := tk }) : wpAny (model PP w) A (getAttr (.ref I) "__next__" true) Q E s :=
  getAttr_next (N _ hm).1 fun tk => h _ _ tk (F.push _) (News.push F N _ rfl) fun p hp => Heap.lt_size (N p hp).1
theorem fc_item {x I sa : Addr} {i : Nat} {items : Array Value} {v : Value} {g : Obj → List (Addr × Obj)} {Q : Value → Shared → Prop} (F : Fr h₀ L s.heap m) (N : News h₀ L s.heap news) (hb : (x, boundO I) ∈ news) (U : UpdF I (iterO sa i) news g) (hl : s.heap.IsList sa items) (hx : items[i]? = some v)
    (h : ∀ h', Fr h₀ L h' m → News h₀ L h' (g (iterO sa (i + 1))) → Q v { s with heap := h' }) : wpAny (model PP w) A (call (.ref x) []) Q E s := by
  refine cps_EEAAA (U.split) ?_
  rintro pre post rfl hg a b
  have hm := N (I, iterO sa i) (List.mem_append_right _ (.head _))
  exact call_bound (N _ hb).1 (next_item hm.1 hl hx fun h' e hs => h h' (F.change hs hm.2.1 hm.2.2) (hg _ ▸ N.setIn a b hs e))
theorem fc_end {x I sa : Addr} {i : Nat} {items : Array Value} {g : Obj → List (Addr × Obj)} {Q : Value → Shared → Prop} (hh : A.in1.handled = none) (F : Fr h₀ L s.heap m) (N : News h₀ L s.heap news) (hb : (x, boundO I) ∈ news) (U : UpdF I (iterO sa i) news g) (hl : s.heap.IsList sa items) (hx : items[i]? = none)
    (h : ∀ h₁ h' e o, Fr h₀ L h₁ m → News h₀ L h₁ (g o) → Heap.NewExc h₁ h' e "StopIteration" → E (.ref e) { s with heap := h' }) : wpAny (model PP w) A (call (.ref x) []) Q E s := by
  refine cps_EEAAA (U.split) ?_
  rintro pre post rfl hg a b
  have hm := N (I, iterO sa i) (List.mem_append_right _ (.head _))
  exact call_bound (N _ hb).1 (next_end hh hm.1 hl hx fun h₁ o h' e eo hs hx => h h₁ h' e o (F.change hs hm.2.1 hm.2.2) (hg _ ▸ N.setIn a b hs eo) hx)
theorem fc_with {x I : Addr} {pos : Pos} {env : Env} {Q : Value → Shared → Prop} (N : News h₀ L s.heap news) (hb : (x, boundO I) ∈ news) (h : wpAny (model PP w) A (call (.ref x) []) Q E s) : wpAny (model PP w) A (callWith pos (.ref x) [] (backTo pos (starEach [] env)) []) Q E s := by
  have ho := (N _ hb).1
  unfold callWith
  refine wpAny_bind (wpAny_holding (PyProof.Rows.evalArgs_none ?_))
  refine wpAny_bind (wpAny_standAt ?_)
  refine wpAny_bind (m := keeperOf (.ref x)) ?_
  unfold keeperOf
  refine wpAny_bind (wpAny_load ho ?_)
  simp only [boundO, show (Value.type "method-wrapper" != Value.type "method") = true by decide, show (Value.type "method-wrapper" == Value.type "builtin_function_or_method" || Value.type "method-wrapper" == Value.type "method-wrapper") = true by decide, if_true]
  refine wpAny_pure ?_
  exact wpAny_bind (wpAny_mono h (fun r s₂ hr => wpAny_bind (wpAny_holding (wpAny_point (wpAny_pure hr)))) fun _ _ x => x)
end
end

section
section
variable {w : World} {A : Around} {E : Value → Shared → Prop} {s : Shared}
theorem items_of_tuple {l : Addr} {vs : List Value} {Q : List Value → Shared → Prop} (hl : s.heap.IsTuple l vs.toArray) (hsz : vs.length ≤ sizeLine)
    (h : Q vs { s with heap := (s.heap.push (seqObj "list" #[] 0)).update s.heap.objs.size (Obj.mapSeq (· ++ vs.toArray)) }) :
    wpAny (model PP w) A (collect (.ref l)) Q E s := by
  refine cps_EAAE (id hl) ?_
  intro o ho hc n hd
  have ho' : (s.heap.push (seqObj "list" #[] 0)).get? l = some o := Heap.get?_push_of_some _ ho
  have own : (s.heap.push (seqObj "list" #[] 0)).get? s.heap.objs.size = some (seqObj "list" #[] 0) := Heap.get?_push_size _ rfl
  unfold collect
  refine wpAny_bind (wpAny_runValue (codeAny_builtin entry_proto_collect' ?_))
  show wpAny _ _ (newList [] >>= fun x => again (.builtin "list.__iadd__" ⟨[x, .ref l], []⟩)) _ _ s
  refine wpAny_bind (wpAny_newList (wpAny_pure ⟨Code.quiet_builtin _ (by decide +kernel), codeAny_builtin entry_list_iadd' ?_⟩))
  show wpAny _ _ (Builtin.List.listExtendWith (.ref s.heap.objs.size) (.ref l) (.ref s.heap.objs.size)) _ _ { s with heap := s.heap.push (seqObj "list" #[] 0) }
  unfold Builtin.List.listExtendWith
  refine wpAny_bind (wpAny_typeOf (T := "tuple") ⟨o, ho', hc⟩ ?_)
  have ht : (Value.type "tuple" == Value.type "tuple") = true := by rfl
  rw [if_pos (by rw [ht]; simp)]
  refine wpAny_bind (listItems_at ho' hd (wpAny_bind (listItems_at own rfl ?_)))
  rw [if_neg (by simp)]
  refine wpAny_bind (listUpdate_at own rfl ?_ (Nat.zero_le _) (by show (#[] ++ vs.toArray).size ≤ sizeLine + 1; simp only [Array.size_append, List.size_toArray, List.length_nil]; omega))
  refine wpAny_pure ?_
  show wpAny (model PP w) A (load s.heap.objs.size >>= fun o => match o.data with
      | .seq xs _ => pure xs.toList
      | _ => unsupported "internal:collect") Q E { s with heap := (s.heap.push (seqObj "list" #[] 0)).update s.heap.objs.size (Obj.mapSeq (· ++ vs.toArray)) }
  refine wpAny_bind (wpAny_load (get?_update_seq own _) ?_)
  show wpAny _ _ (pure ((#[] : Array Value) ++ vs.toArray).toList) Q E _
  rw [show ((#[] : Array Value) ++ vs.toArray).toList = vs by simp]
  exact wpAny_pure h

theorem sorted_tuple {l : Addr} {vs : List Value} {ss : List Str} {g : Heap} {L : Addr} {m : Str → Option Value} {news : List (Addr × Obj)} {Q : Value → Shared → Prop} (F : Fr g L s.heap m) (N : News g L s.heap news) (hl : s.heap.IsTuple l vs.toArray) (hS : StrsAre vs ss) (h64 : vs.length < 64)
    (h : ∀ (h' : Heap) (D : Addr) (vs' : List Value) (ss' : List Str) (e : Nat), Fr g L h' m → News g L h' ((D, W.listOf vs'.toArray e) :: news) → (∀ p ∈ news, p.1 < D) → StrsAre vs' ss' → ss'.Perm ss → sortedS ss' = true → Q (.ref D) { s with heap := h' }) :
    wpAny (model PP w) A (call (.builtin "sorted") [.ref l]) Q E s := by
  refine PySem.Calls.call_function_entry kind_sorted plain_sorted entry_sorted (args_sorted1 _) ?_
  unfold Builtin.«sorted»
  refine wpAny_bind (m := checkCount "sorted" 1 1 _) (wpAny_pure ?_)
  refine wpAny_bind (items_of_tuple hl (by rw [sizeLine_eq]; omega) (wpAny_bind (wpAny_newList ?_)))
  have hsz : ((s.heap.push (seqObj "list" #[] 0)).update s.heap.objs.size (Obj.mapSeq (· ++ vs.toArray))).objs.size = s.heap.objs.size + 1 := by
    rw [Heap.size_update, size_push']
  have own : (((s.heap.push (seqObj "list" #[] 0)).update s.heap.objs.size (Obj.mapSeq (· ++ vs.toArray))).push (seqObj "list" vs.toArray 0)).get? (s.heap.objs.size + 1) = some (seqObj "list" vs.toArray 0) := by
    rw [← hsz]; exact Heap.get?_push_size _ rfl
  show wpAny _ _ _ _ _ { s with heap := ((s.heap.push (seqObj "list" #[] 0)).update s.heap.objs.size (Obj.mapSeq (· ++ vs.toArray))).push (seqObj "list" vs.toArray 0) }
  rw [hsz]
  refine wpAny_bind (wpAny_holding (wpAny_call_entry slot_list_sort ⟨_, own, rfl⟩ entry_list_sort (list_sort_treeK strKind_oneLt own hS.keysOf (fun v₁ v₂ rest e => keyKind_strs (by rw [← e]; exact hS)) h64 fun st' a1 a2 => ⟨_, rfl, ?_⟩) (args_list_sort _)))
  with_reducible refine hide ?_
  intro GG hGG
  refine cps_EAA (sorted_out_str hS a1 a2) ?_
  intro ss' b1 b2 b3
  obtain ⟨e, he⟩ := sortedAll_at s.heap vs ((arrOf st').map (·.2))
  with_reducible refine hGG ?_
  clear hGG GG
  refine wpAny_pure ⟨_, rfl, h _ _ ((arrOf st').map (·.2)).toList ss' e (F.kept fun _ _ => sortedAll_old) (N.kept_cons F (fun _ _ => sortedAll_old) (Nat.le_succ _) ?_) (fun p hp => Nat.lt_succ_of_lt (Heap.lt_size (N p hp).1)) b1 b2 b3⟩
  exact he
end
end

section
inductive Ended (succ : Str → List Str) : List Str → Prop
  | nil : Ended succ []
  | snoc {l : List Str} {k : Str} : Ended succ l → (∀ y ∈ succ k, y ∈ l) → Ended succ (l ++ [k])

structure Fm where
  nm : Str
  tk : Tok
  ia : Addr
  ba : Addr
  sa : Addr
  p : Nat

noncomputable def fled (fs : List Fm) : List (Addr × Obj) := fs.flatMap fun f => [(f.ba, boundO f.ia), (f.ia, iterO f.sa f.p)]
@[reducible] noncomputable def fnames (fs : List Fm) : List Value := (fs.map fun f => Value.str f.nm f.tk).reverse
@[reducible] noncomputable def fbinds (fs : List Fm) : List Value := (fs.map fun f => Value.ref f.ba).reverse

noncomputable def Under (succ : Str → List Str) (fin : List Str) : List Fm → Str → Prop
  | [], _ => True
  | f :: r, nm => (1 ≤ f.p ∧ (succ f.nm)[f.p - 1]? = some nm ∧ ∀ y ∈ (succ f.nm).take (f.p - 1), y ∈ fin) ∧ Under succ fin r f.nm
noncomputable def Inner (succ : Str → List Str) (fin : List Str) : List Fm → Prop
  | [] => True
  | f :: r => (∀ y ∈ (succ f.nm).take f.p, y ∈ fin) ∧ Under succ fin r f.nm

theorem Under.mono {succ : Str → List Str} {fin fin' : List Str} (h : ∀ y ∈ fin, y ∈ fin') : ∀ {fs : List Fm} {nm : Str}, Under succ fin fs nm → Under succ fin' fs nm
  | [], _, _ => trivial
  | _ :: _, _, ⟨⟨a, b, c⟩, d⟩ => ⟨⟨a, b, fun y hy => h y (c y hy)⟩, Under.mono h d⟩

theorem Under.inner {succ : Str → List Str} {fin : List Str} {fs : List Fm} {nm : Str} (h : Under succ fin fs nm) (hn : nm ∈ fin) : Inner succ fin fs := by
  cases fs with
  | nil => trivial
  | cons f r =>
    with_reducible refine hide ?_
    intro GG hGG
    obtain ⟨⟨a, b, c⟩, d⟩ := h
    with_reducible refine hGG ?_
    clear hGG GG
    refine ⟨fun y hy => ?_, d⟩
    have e : f.p = f.p - 1 + 1 := (Nat.sub_add_cancel a).symm
    rw [e, List.take_add_one, List.mem_append, b] at hy
    rcases hy with hy | hy
    · exact c y hy
    · simp at hy; exact hy ▸ hn

theorem Inner.pop {succ : Str → List Str} {fin : List Str} {f : Fm} {r : List Fm} (h : Inner succ fin (f :: r)) : Inner succ (fin ++ [f.nm]) r :=
  (h.2.mono fun _ hy => List.mem_append_left _ hy).inner (by simp)

theorem Inner.item {succ : Str → List Str} {fin : List Str} {f : Fm} {r : List Fm} {nm : Str} (h : Inner succ fin (f :: r)) (hx : (succ f.nm)[f.p]? = some nm) : Under succ fin ({ f with p := f.p + 1 } :: r) nm :=
  ⟨⟨by simp, by simpa using hx, by simpa using h.1⟩, h.2⟩

theorem Inner.all {succ : Str → List Str} {fin : List Str} {f : Fm} {r : List Fm} (h : Inner succ fin (f :: r)) (hx : (succ f.nm).length ≤ f.p) : ∀ y ∈ succ f.nm, y ∈ fin := by
  have := h.1; rwa [List.take_of_length_le hx] at this

noncomputable def Ring (succ : Str → List Str) : Prop := ∃ Z : List Str, Z ≠ [] ∧ ∀ z ∈ Z, ∃ y ∈ Z, z ∈ succ y

theorem Under.ring {succ : Str → List Str} {fin : List Str} : ∀ {pre : List Fm} {q : Fm} {r : List Fm} {nm : Str}, Under succ fin (pre ++ q :: r) nm →
    ∀ z, z = nm ∨ z ∈ pre.map (·.nm) → ∃ y ∈ pre.map (·.nm) ++ [q.nm], z ∈ succ y
  | [], q, r, nm, h, z, hz => by
    rcases hz with rfl | hz
    · exact ⟨q.nm, by simp, List.mem_of_getElem? h.1.2.1⟩
    · cases hz
  | f :: pre, q, r, nm, h, z, hz => by
    have step : ∀ z, z = f.nm ∨ z ∈ pre.map (·.nm) → ∃ y ∈ (f :: pre).map (·.nm) ++ [q.nm], z ∈ succ y := fun z hz => by
      with_reducible refine hide ?_
      intro GG hGG
      obtain ⟨y, hy, e⟩ := Under.ring h.2 z hz
      with_reducible refine hGG ?_
      clear hGG GG
      exact ⟨y, by simp at hy ⊢; exact .inr hy, e⟩
    rcases hz with rfl | hz
    · exact ⟨f.nm, by simp, List.mem_of_getElem? h.1.2.1⟩
    · simp only [List.map_cons, List.mem_cons] at hz
      exact step z hz

theorem ring_of {succ : Str → List Str} {fin : List Str} {fs : List Fm} {nm : Str} (h : Under succ fin fs nm) (hm : nm ∈ fs.map (·.nm)) : Ring succ := by
  with_reducible refine hide ?_
  intro GG hGG
  obtain ⟨q, hq, rfl⟩ := List.mem_map.mp hm
  obtain ⟨pre, r, rfl⟩ := List.append_of_mem hq
  with_reducible refine hGG ?_
  clear hGG GG
  refine ⟨pre.map (·.nm) ++ [q.nm], by simp, fun z hz => h.ring z ?_⟩
  simp only [List.mem_append, List.mem_singleton] at hz
  exact hz.symm

structure FcAt (w : World) (G : List Nd) (fin : List Str) (fs : List Fm) (sn : List Str) (so dob : Obj) (kvs : List (Str × Value)) : Prop where
  set : so.SetObjOf (PySem.strKind PP w) (fun k => decide (k ∈ sn)) sn.length
  dict : dob.IsDictOf (PySem.strKind PP w) kvs
  kv : ∀ k, (valueAt kvs k).isSome = true ↔ k ∈ fs.map (·.nm)
  kvi : ∀ k v, valueAt kvs k = some v → ∃ (i : Nat) (u : Tok), v = .int i u ∧ i < 1000
  kvz : kvs.length ≤ sn.length
  snn : sn.Nodup
  sub : ∀ k ∈ sn, k ∈ G.map (·.nm)
  mem : ∀ k, k ∈ sn ↔ k ∈ fin ∨ k ∈ fs.map (·.nm)
  ended : Ended (succOf G) fin
  nd : (fs.map (·.nm)).Nodup
  disj : ∀ k ∈ fs.map (·.nm), k ∉ fin
  fsa : ∀ f ∈ fs, ∃ r ∈ G, r.nm = f.nm ∧ r.sa = f.sa
  sep : ((fled fs).map (·.1)).Nodup

noncomputable def todo (sn : List Str) : List Nd → Nat
  | [] => 0
  | q :: G => (if q.nm ∈ sn then 0 else q.su.length + 3) + todo sn G
noncomputable def left (G : List Nd) (sn : List Str) (fs : List Fm) : Nat := todo sn G + (fs.map fun f => (succOf G f.nm).length + 1 - f.p).sum

theorem todo_mono (sn : List Str) (k : Str) (G : List Nd) : todo (sn ++ [k]) G ≤ todo sn G := by
  induction G with
  | nil => exact Nat.le_refl _
  | cons q G ih =>
    unfold todo
    by_cases h1 : q.nm ∈ sn
    · rw [if_pos h1, if_pos (List.mem_append_left _ h1)]; omega
    · rw [if_neg h1]
      split <;> omega
theorem todo_push {sn : List Str} {r : Nd} (h : r.nm ∉ sn) {G : List Nd} (hr : r ∈ G) : todo (sn ++ [r.nm]) G + (r.su.length + 3) ≤ todo sn G := by
  induction G with
  | nil => cases hr
  | cons q G ih =>
    unfold todo
    rcases List.mem_cons.mp hr with e | hr
    · subst e
      rw [if_neg h, if_pos (by simp)]
      have := todo_mono sn r.nm G
      omega
    · have := ih hr
      by_cases h1 : q.nm ∈ sn
      · rw [if_pos h1, if_pos (List.mem_append_left _ h1)]; omega
      · rw [if_neg h1]
        split <;> omega

@[reducible] noncomputable def fcup (dA sA iA kA : Addr) (so dob : Obj) (e1 e2 : Nat) (fs : List Fm) : List (Addr × Obj) :=
  (dA, dob) :: (sA, so) :: (iA, W.listOf (fbinds fs).toArray e1) :: (kA, W.listOf (fnames fs).toArray e2) :: fled fs
@[reducible] noncomputable def fclow (w : World) (x dx nd : Addr) (t1 t2 t3 t4 : Tok) (rd np nf : Value) (od : Obj) (G : List Nd) : List (Addr × Obj) :=
  (x, instObj 171 dx) :: (dx, dictOf (sdict w.params t1 t2 t3 t4 (.ref nd) rd np nf) 4) :: (nd, od) :: led G
@[reducible] noncomputable def fcfix (nd : Addr) (od : Obj) (r : Nd) : List (Addr × Obj) := [(nd, od), (r.ia, infoObj r), (r.di, dictOf [] 0), (r.sa, succObj r)]

theorem stay {g g1 h h' : Heap} {L : Addr} {m' : Str → Option Value} {low fix up : List (Addr × Obj)} (N : News g L h low) (hlow : ∀ p ∈ low, p.1 < L) (K1 : ∀ b o, b < L → h.get? b = some o → b ∉ (fix ++ up).map (·.1) → g1.get? b = some o)
    (hfix : ∀ p ∈ fix, h.get? p.1 = some p.2 ∧ h'.get? p.1 = some p.2) {kA : Addr} (hq : ∀ q ∈ low, q.1 < kA) (hup : ∀ p ∈ up, ¬ p.1 < kA) (F1 : Fr g1 L h' m') : News g L h' low := fun p hp => by
  refine ⟨?_, (N p hp).2⟩
  by_cases q : p.1 ∈ (fix ++ up).map (·.1)
  · with_reducible refine hide ?_
    intro GG hGG
    obtain ⟨y, hy, e⟩ := List.mem_map.mp q
    with_reducible refine hGG ?_
    clear hGG GG
    rcases List.mem_append.mp hy with hy | hy
    · obtain ⟨h1, h2⟩ := hfix y hy
      have e' : y.1 = p.1 := e
      rw [e'] at h1 h2
      rw [h2]; exact ((N p hp).1.symm.trans h1).symm
    · have h1 := hup y hy
      have e' : y.1 = p.1 := e
      rw [e'] at h1
      exact absurd (hq p hp) h1
  · exact F1.keep _ _ (K1 p.1 p.2 (hlow p hp) (N p hp).1 q)

theorem FcAt.start {w : World} {G : List Nd} {so dob : Obj} (h1 : so.SetObjOf (PySem.strKind PP w) (fun _ => false) 0) (h2 : dob.IsDictOf (PySem.strKind PP w) []) : FcAt w G [] [] [] so dob [] :=
  ⟨by simpa using h1, h2, fun k => by simp [valueAt], fun k v h => by simp [valueAt] at h, by simp, by simp, by simp, by simp, .nil, by simp, by simp, by simp, by simp [fled]⟩

theorem split_at {G : List Nd} (hnn : (G.map (·.nm)).Nodup) {k : Str} (h : k ∈ G.map (·.nm)) : ∃ r ∈ G, r.nm = k ∧ valueAt (G.map fun r => (r.nm, Value.ref r.ia)) k = some (.ref r.ia) := by
  with_reducible refine hide ?_
  intro GG hGG
  obtain ⟨r, hr, rfl⟩ := List.mem_map.mp h
  with_reducible refine hGG ?_
  clear hGG GG
  exact ⟨r, hr, rfl, valueAt_some hnn hr⟩

theorem led_mem {G : List Nd} {r : Nd} (h : r ∈ G) : (r.ia, infoObj r) ∈ led G ∧ (r.di, dictOf [] 0) ∈ led G ∧ (r.sa, succObj r) ∈ led G :=
  ⟨List.mem_flatMap.mpr ⟨r, h, by simp⟩, List.mem_flatMap.mpr ⟨r, h, by simp⟩, List.mem_flatMap.mpr ⟨r, h, by simp⟩⟩
theorem fclow_addr {w : World} {x dx nd : Addr} {t1 t2 t3 t4 : Tok} {rd np nf : Value} {od : Obj} {G : List Nd} : (fclow w x dx nd t1 t2 t3 t4 rd np nf od G).map (·.1) = feet x dx nd G := by
  simp only [List.map_cons, led_addrs]

theorem fc_base {w : World} {g h : Heap} {L x dx nd : Addr} {m : Str → Option Value} {outer : List Env} {fr up : List (Addr × Obj)} {loose : List Str} {mean : ExcName → Option Value} {mg mb : Str → Option Value} {t1 t2 t3 t4 : Tok} {rd np nf : Value} {od : Obj} {G : List Nd} {r : Nd} (d u : Nat)
    (F : Fr g L h m) (Fs : TI.Frs outer fr) (X : (hd.heap_39 w.params).In g) (T : Top hd.view_39 loose mean mg mb g) {kA : Addr} (hq : ∀ q ∈ fclow w x dx nd t1 t2 t3 t4 rd np nf od G ++ fr, q.1 < kA) (hup : ∀ p ∈ up, ¬ p.1 < kA)
    (N : News g L h (up ++ (fclow w x dx nd t1 t2 t3 t4 rd np nf od G ++ fr))) (hlow : ∀ p ∈ fclow w x dx nd t1 t2 t3 t4 rd np nf od G, p.1 < L) (hfl : ∀ p ∈ fr, p.1 < L) (hfa : ∀ p ∈ fr, p.1 ∉ feet x dx nd G) (hr : r ∈ G) :
    ∃ g1, Fr g1 L h m ∧ News g1 L h ((nd, od) :: (r.ia, infoObj r) :: (r.di, dictOf [] 0) :: (r.sa, succObj r) :: up) ∧ Below (mkA d u outer) g outer g1 ∧ (hd.heap_39 w.params).In g1 ∧ Top hd.view_39 loose mean mg mb g1 ∧
      ∀ h' m' led' up', Fr g1 L h' m' → News g1 L h' led' → (nd, od) ∈ led' → (r.ia, infoObj r) ∈ led' → (r.di, dictOf [] 0) ∈ led' → (r.sa, succObj r) ∈ led' → (∀ p ∈ up', p ∈ led') → Fr g L h' m' ∧ News g L h' (up' ++ (fclow w x dx nd t1 t2 t3 t4 rd np nf od G ++ fr)) := by
  with_reducible refine hide ?_
  intro GG hGG
  obtain ⟨l1, l3, l2⟩ := led_mem hr
  have inl : ∀ p ∈ [(nd, od), (r.ia, infoObj r), (r.di, dictOf [] 0), (r.sa, succObj r)], p ∈ fclow w x dx nd t1 t2 t3 t4 rd np nf od G := fun p hp => by
    simp only [List.mem_cons, List.not_mem_nil, or_false] at hp ⊢
    rcases hp with rfl | rfl | rfl | rfl
    · exact .inr (.inr (.inl rfl))
    · exact .inr (.inr (.inr l1))
    · exact .inr (.inr (.inr l3))
    · exact .inr (.inr (.inr l2))
  have Nf : ∀ p ∈ [(nd, od), (r.ia, infoObj r), (r.di, dictOf [] 0), (r.sa, succObj r)], h.get? p.1 = some p.2 ∧ p.1 ≠ L ∧ g.get? p.1 = none := fun p hp => N p (List.mem_append_right _ (List.mem_append_left _ (inl p hp)))
  have ft : ∀ p ∈ [(nd, od), (r.ia, infoObj r), (r.di, dictOf [] 0), (r.sa, succObj r)], p.1 ∈ feet x dx nd G := fun p hp => fclow_addr (w := w) (t1 := t1) (t2 := t2) (t3 := t3) (t4 := t4) (rd := rd) (np := np) (nf := nf) (od := od) ▸ List.mem_map_of_mem (inl p hp)
  refine cps_EAAAAAAAA (rebaseS d u F Fs (fun p hp => N p (List.mem_append_right _ (List.mem_append_right _ hp))) hfl X T ([(nd, od), (r.ia, infoObj r), (r.di, dictOf [] 0), (r.sa, succObj r)] ++ up)
    (fun p hp => (List.mem_append.mp hp).elim (Nf p) fun hp => N p (List.mem_append_left _ hp)) (fun p hp q => by
      obtain ⟨y, hy, e⟩ := List.mem_map.mp q
      have e' : y.1 = p.1 := e
      rcases List.mem_append.mp hy with hy | hy
      · exact hfa p hp (e' ▸ ft y hy)
      · have := hup y hy
        rw [e'] at this
        exact this (hq p (List.mem_append_right _ hp)))) ?_
  intro g1 F1 N1 k1 K1 K2 Kf B1 X1 T1
  with_reducible refine hGG ?_
  clear hGG GG
  refine ⟨g1, F1, N1, B1, X1, T1, fun h' m' led' up' F' N' h1 h2 h4 h3 hs => ⟨fr_down F F' k1, fun p hp => ?_⟩⟩
  rcases List.mem_append.mp hp with hp | hp
  · exact ⟨(N' p (hs p hp)).1, (N' p (hs p hp)).2.1, kts_none k1 (N' p (hs p hp)).2.2⟩
  rcases List.mem_append.mp hp with hp | hp
  · refine stay (fix := [(nd, od), (r.ia, infoObj r), (r.di, dictOf [] 0), (r.sa, succObj r)]) (up := up) (fun p hp => N p (List.mem_append_right _ (List.mem_append_left _ hp))) hlow K1 (fun q hq' => ⟨(Nf q hq').1, ?_⟩) (fun q hq' => hq q (List.mem_append_left _ hq')) hup F' p hp
    simp only [List.mem_cons, List.not_mem_nil, or_false] at hq'
    rcases hq' with rfl | rfl | rfl | rfl
    · exact (N' _ h1).1
    · exact (N' _ h2).1
    · exact (N' _ h4).1
    · exact (N' _ h3).1
  · exact ⟨F'.keep _ _ (Kf p hp), (N p (List.mem_append_right _ (List.mem_append_right _ hp))).2⟩
theorem nlt {a b : Addr} (h : @LE.le Nat _ b a) : ¬ a < b := Nat.not_lt.mpr h
theorem gtne {a b : Addr} (h : @LT.lt Nat _ b a) : a ≠ b := Ne.symm (Nat.ne_of_lt h)
theorem turn_ne {x dx nd : Addr} {G : List Nd} {r : Nd} (ap : (feet x dx nd G).Nodup) (hr : r ∈ G) : @Ne Nat nd r.ia ∧ @Ne Nat nd r.di ∧ @Ne Nat nd r.sa ∧ @Ne Nat r.ia r.di ∧ @Ne Nat r.ia r.sa ∧ @Ne Nat r.di r.sa := by
  with_reducible refine hide ?_
  intro GG hGG
  obtain ⟨pre, post, rfl⟩ := List.append_of_mem hr
  refine cps_AAAAAAAAAAAAAAAAA (apart_facts ap) ?_
  intro _ _ _ _ _ _ _ _ _ _ _ _ a b c d e f
  with_reducible refine hGG ?_
  clear hGG GG
  exact ⟨a, b, c, d, e, f⟩

theorem left_push {G : List Nd} (hnn : (G.map (·.nm)).Nodup) {r : Nd} (hr : r ∈ G) {sn : List Str} (h : r.nm ∉ sn) {fs : List Fm} (f : Fm) (e : f.nm = r.nm) : left G (sn ++ [r.nm]) (f :: fs) ≤ left G sn fs := by
  have k := todo_push h hr
  unfold left
  rw [List.map_cons, List.sum_cons, e, succ_self hnn hr, List.length_map]
  omega

theorem FcAt.lens {w : World} {G : List Nd} {fin : List Str} {fs : List Fm} {sn : List Str} {so dob : Obj} {kvs : List (Str × Value)} (H : FcAt w G fin fs sn so dob kvs) (hsz : G.length ≤ 90) :
    sn.length ≤ 90 ∧ fs.length ≤ 90 ∧ kvs.length ≤ 90 := by
  have h1 := H.snn.length_le_of_subset (l₂ := G.map (·.nm)) fun k hk => H.sub k hk
  have h2 := H.nd.length_le_of_subset (l₂ := G.map (·.nm)) fun k hk => H.sub k ((H.mem k).mpr (.inr hk))
  have h3 := H.kvz
  rw [List.length_map] at h1 h2
  rw [List.length_map] at h2
  omega

theorem valueAt_stored {kvs : List (Str × Value)} {k : Str} (v : Value) (h : valueAt kvs k = none) (j : Str) : valueAt (kvs ++ [(k, v)]) j = if j = k then some v else valueAt kvs j := by
  unfold valueAt at h ⊢
  rw [List.find?_append]
  by_cases e : j = k
  · subst e
    rw [Option.map_eq_none_iff] at h
    simp [h]
  · cases q : kvs.find? (fun x => decide (x.1 = j)) with
    | none => simp [e, Ne.symm e]
    | some y => simp [e]

theorem FcAt.push {w : World} {G : List Nd} {fin : List Str} {fs : List Fm} {sn : List Str} {so dob so' dob' : Obj} {kvs : List (Str × Value)} (H : FcAt w G fin fs sn so dob kvs) {r : Nd} (hr : r ∈ G) (hn : r.nm ∉ sn) (tk : Tok) (ia ba : Addr) (u : Tok) (hlen : fs.length < 1000) (hfresh : ∀ p ∈ fled fs, p.1 ≠ ia ∧ p.1 ≠ ba) (hib : ba ≠ ia)
    (h1 : so'.SetObjOf (PySem.strKind PP w) (fun k => decide (k ∈ sn ++ [r.nm])) (sn ++ [r.nm]).length) (h2 : dob'.IsDictOf (PySem.strKind PP w) (stored kvs r.nm (.int fs.length u))) :
    FcAt w G fin (⟨r.nm, tk, ia, ba, r.sa, 0⟩ :: fs) (sn ++ [r.nm]) so' dob' (kvs ++ [(r.nm, .int fs.length u)]) := by
  have hnf : r.nm ∉ fs.map (·.nm) := fun q => hn ((H.mem _).mpr (.inr q))
  have hnfin : r.nm ∉ fin := fun q => hn ((H.mem _).mpr (.inl q))
  have hv : valueAt kvs r.nm = none := by
    cases q : valueAt kvs r.nm with
    | none => rfl
    | some v => exact absurd ((H.kv r.nm).mp (by rw [q]; rfl)) hnf
  rw [stored_absent hv] at h2
  refine ⟨h1, h2, fun k => ?_, fun k v e => ?_, ?_, ?_, fun k hk => ?_, fun k => ?_, H.ended, ?_, fun k hk => ?_, fun f hf => ?_, ?_⟩
  · rw [valueAt_stored _ hv, List.map_cons, List.mem_cons]
    by_cases e : k = r.nm
    · simp [e]
    · simp only [e, if_false, false_or]; exact H.kv k
  · rw [valueAt_stored _ hv] at e
    by_cases q : k = r.nm
    · rw [if_pos q] at e
      exact ⟨fs.length, u, (Option.some.inj e).symm, hlen⟩
    · rw [if_neg q] at e
      refine cps_EEA (H.kvi k v e) ?_
      intro i u' e1 e2
      exact ⟨i, u', e1, e2⟩
  · have := H.kvz; simp; omega
  · rw [List.nodup_append]
    exact ⟨H.snn, by simp, fun a ha b hb e => hn (by rw [List.mem_singleton] at hb; rw [← hb, ← e]; exact ha)⟩
  · rcases List.mem_append.mp hk with hk | hk
    · exact H.sub k hk
    · rw [List.mem_singleton.mp hk]; exact List.mem_map_of_mem (f := (·.nm)) hr
  · rw [List.mem_append, List.mem_singleton, H.mem k, List.map_cons, List.mem_cons]
    constructor
    · rintro ((h | h) | h)
      · exact .inl h
      · exact .inr (.inr h)
      · exact .inr (.inl h)
    · rintro (h | h | h)
      · exact .inl (.inl h)
      · exact .inr h
      · exact .inl (.inr h)
  · rw [List.map_cons, List.nodup_cons]; exact ⟨hnf, H.nd⟩
  · rw [List.map_cons, List.mem_cons] at hk
    rcases hk with rfl | hk
    · exact hnfin
    · exact H.disj k hk
  · rcases List.mem_cons.mp hf with rfl | hf
    · exact ⟨r, hr, rfl, rfl⟩
    · exact H.fsa f hf
  · show ((_ :: _ :: fled fs).map (·.1)).Nodup
    simp only [List.map_cons, List.nodup_cons, List.mem_cons, not_or]
    refine ⟨⟨hib, fun q => ?_⟩, fun q => ?_, H.sep⟩
    · with_reducible refine hide ?_
      intro GG hGG
      obtain ⟨p, hp, e⟩ := List.mem_map.mp q
      with_reducible refine hGG ?_
      clear hGG GG
      exact (hfresh p hp).2 e
    · with_reducible refine hide ?_
      intro GG hGG
      obtain ⟨p, hp, e⟩ := List.mem_map.mp q
      with_reducible refine hGG ?_
      clear hGG GG
      exact (hfresh p hp).1 e

theorem ret_keep {g h h' : Heap} {L : Addr} {m : Str → Option Value} {low frs fr : List (Addr × Obj)} (F : Fr g L h' m) (N : News g L h' (low ++ fr)) (hg : ∀ x o, h.get? x = some o → x ∉ (low ++ frs).map (·.1) → g.get? x = some o) (hs : ∀ p ∈ low, h.get? p.1 = some p.2) :
    ∀ b o, h.get? b = some o → b ∉ frs.map (·.1) → h'.get? b = some o := fun b o e q => by
  by_cases hl : b ∈ low.map (·.1)
  · with_reducible refine hide ?_
    intro GG hGG
    obtain ⟨p, hp, rfl⟩ := List.mem_map.mp hl
    with_reducible refine hGG ?_
    clear hGG GG
    rw [← e, hs p hp]; exact (N p (List.mem_append_left _ hp)).1
  · exact F.keep _ _ (hg b o e (by rw [List.map_append, List.mem_append]; exact fun z => z.elim hl q))
theorem set_app {w : World} {so : Obj} {sn : List Str} {k : Str} (h : so.SetObjOf (PySem.strKind PP w) (fun k' => decide (k' ∈ sn) || decide (k' = k)) (if decide (k ∈ sn) = true then sn.length else sn.length + 1)) (hn : k ∉ sn) :
    so.SetObjOf (PySem.strKind PP w) (fun k' => decide (k' ∈ sn ++ [k])) (sn ++ [k]).length := by
  have e1 : (fun k' => decide (k' ∈ sn ++ [k])) = fun k' => decide (k' ∈ sn) || decide (k' = k) := by
    funext k'; simp [Bool.decide_or]
  have e2 : (sn ++ [k]).length = if decide (k ∈ sn) = true then sn.length else sn.length + 1 := by
    rw [if_neg (by simpa using hn)]; simp
  rw [e1, e2]; exact h
end

section
local macro_rules | `(tactic| k_all) => `(tactic| walk_at "X allF")
local macro_rules | `(tactic| walk_at "compareOp In str ref") => `(tactic| walk_at "Y 1")
local macro_rules | `(tactic| walk_at "call builtin:set.add") => `(tactic| (walk_at "Y 2"; intro h' o' F' N' hs'; (try dsimp only at N')))
local macro_rules | `(tactic| walk_at "delItem ref str") => `(tactic| (walk_at "Y 3"; intro h' o' F' N' hd'; (try dsimp only at N')))
local macro_rules | `(tactic| walk_at "call builtin:iter") => `(tactic| (walk_at "Y 4"; intro I' h' F' N' l1; (try k_lt l1); (try k_sweep)))
local macro_rules | `(tactic| walk_at "getAttr ref") => `(tactic| (walk_at "Y 5"; intro I' h' tk' F' N' l1; (try k_lt l1); (try k_sweep)))
local macro_rules | `(tactic| walk_at "callWith ref") => `(tactic| walk_at "Y 6")
local macro_rules | `(tactic| walk_at "call ref") => `(tactic| ((with_reducible show wpAny _ _ (call (Value.ref _) []) _ _ _); refine stop_here ?_))
local macro_rules | `(tactic| walk_at "binaryOp Add ref ref") => `(tactic| refine stop_here ?_)
local macro_rules | `(tactic| walk_at "subscriptTail Name Slice ref ref") => `(tactic| (walk_at "Y 7"; intro D' h' F' N' l1; (try k_lt l1); (try k_sweep)))
section

open PyProof.Rows.TI (Frs SameUp)

noncomputable def fcFn : Stmt := stAt (stBody (stAt PP.main.body 11)) 8
noncomputable def fcWhile : Stmt := stAt (stBody (stAt (stBody (stAt (stBody fcFn) 5)) 1)) 1
@[reducible] noncomputable def fcEnv (L : Addr) : Env := envOf (Str.ofString "TopologicalSorter._find_cycle") (stScope fcFn) L 161 (.ref 160)

@[reducible] noncomputable def fcmap (x nd kA iA sA dA : Addr) (v : Value) : Str → Option Value := fun y => if y = Str.ofString "node" then some v else if y = Str.ofString "node2stacki" then some (.ref dA) else if y = Str.ofString "seen" then some (.ref sA) else
  if y = Str.ofString "itstack" then some (.ref iA) else if y = Str.ofString "stack" then some (.ref kA) else if y = Str.ofString "n2i" then some (.ref nd) else if y = Str.ofString "self" then some (.ref x) else none

theorem valueAt_without (kvs : List (Str × Value)) (a k : Str) : valueAt (without kvs a) k = if k = a then none else valueAt kvs k := by
  unfold valueAt without
  induction kvs with
  | nil => simp
  | cons q kvs ih =>
    rw [List.filter_cons]
    by_cases h : q.1 = a
    · simp only [h, ne_eq, not_true, decide_false, Bool.false_eq_true, if_false, ih, List.find?_cons]
      by_cases e : k = a
      · simp [e]
      · simp [e, Ne.symm e]
    · simp only [ne_eq, h, not_false_eq_true, decide_true, if_true, List.find?_cons]
      by_cases e : q.1 = k
      · simp only [e, decide_true, Option.map_some]
        rw [if_neg (fun z => h (e.trans z))]
      · simp only [e, decide_false, ih]

theorem FcAt.popd {w : World} {G : List Nd} {fin : List Str} {f : Fm} {fs : List Fm} {sn : List Str} {so dob dob' : Obj} {kvs : List (Str × Value)} (H : FcAt w G fin (f :: fs) sn so dob kvs) (hd : dob'.IsDictOf (PySem.strKind PP w) (without kvs f.nm)) (hall : ∀ y ∈ succOf G f.nm, y ∈ fin) :
    FcAt w G (fin ++ [f.nm]) fs sn so dob' (without kvs f.nm) := by
  have nd := H.nd
  rw [List.map_cons, List.nodup_cons] at nd
  have sep : (f.ba :: f.ia :: (fled fs).map (·.1)).Nodup := H.sep
  simp only [List.nodup_cons] at sep
  have hmem := H.mem
  have hkv := H.kv
  have hdis := H.disj
  simp only [List.map_cons, List.mem_cons] at hmem hkv hdis
  refine ⟨H.set, hd, fun k => ?_, fun k v e => ?_, Nat.le_trans (List.length_filter_le _ _) H.kvz, H.snn, H.sub, fun k => ?_, .snoc H.ended hall, nd.2, fun k hk => ?_, fun q hq => H.fsa q (.tail _ hq), sep.2.2⟩
  · rw [valueAt_without]
    by_cases e : k = f.nm
    · rw [if_pos e, e]; simp; exact fun x hx => fun q => nd.1 (q ▸ List.mem_map_of_mem (f := (·.nm)) hx)
    · rw [if_neg e, hkv k]; simp [e]
  · rw [valueAt_without] at e
    by_cases q : k = f.nm
    · rw [if_pos q] at e; cases e
    · rw [if_neg q] at e; exact H.kvi k v e
  · rw [hmem k, List.mem_append, List.mem_singleton]
    constructor
    · rintro (h | h | h)
      · exact .inl (.inl h)
      · exact .inl (.inr h)
      · exact .inr h
    · rintro ((h | h) | h)
      · exact .inl h
      · exact .inr (.inl h)
      · exact .inr (.inr h)
  · rw [List.mem_append, List.mem_singleton]
    rintro (h | h)
    · exact hdis k (.inr hk) h
    · exact nd.1 (h ▸ hk)

theorem item_last {w : World} {A : Around} {E : Value → Shared → Prop} {s : Shared} {value slice : PySem.Expr} {l : Addr} {vs : List Value} {x : Value} {t : Tok} {Q : Value → Shared → Prop} (hl : s.heap.IsList l (vs ++ [x]).toArray) (h : Q x s)
    (hs : subscripted slice false (.ref l) (.int (-1) t) = operate [.ref l, .int (-1) t] (getItem (.ref l) (.int (-1) t)) := by with_unfolding_all rfl) :
    wpAny (model PP w) A (subscriptTail value slice (.ref l) (.int (-1) t)) Q E s := by
  have e : (-1 + ((vs ++ [x]).toArray.size : Int)).toNat = vs.length := by
    rw [List.size_toArray, List.length_append, List.length_singleton]; omega
  exact tail_any hl.typeIs slot_list_getitem.lookup (wpAny_getItem_list_neg hl (by decide) (by rw [List.size_toArray, List.length_append, List.length_singleton]; omega) (by decide) (by rw [e]; simp) h) hs
theorem kl_last_snoc (p : List Value) (y : Value) : kl_last (p ++ [y]).toArray.toList = some (p, y) := by
  show kl_last (p ++ [y]) = some (p, y)
  induction p with
  | nil => rfl
  | cons a p ih =>
    cases p with
    | nil => rfl
    | cons b p =>
      have ih : kl_last (b :: (p ++ [y])) = some (b :: p, y) := ih
      show kl_last (a :: b :: (p ++ [y])) = _
      rw [kl_last, ih]
local macro_rules | `(tactic| walk_at "subscriptTail Name UnaryOp ref int") => `(tactic| walk_at "Y 8")
local macro_rules | `(tactic| walk_at "call builtin:list.pop") => `(tactic| (k_here; k_dflt (((with_reducible show wpAny _ _ (call (Value.builtin _) [Value.ref _]) _ _ _); refine' kl_pop ?F ?N ?e ?U ?z ?_; (case F => k_asm); (case N => k_asm); (case U => k_upd); (case e => exact kl_last_snoc _ _); (case z => with_reducible assumption))); (intro h' F' N'; (try dsimp only [List.nil_append, List.cons_append] at N'))))
theorem isExc_SI : isSubtype (.type "StopIteration") (.type "BaseException") = pure true := by rw [isSubtype_type]; kernel_rfl
theorem notTuple_SI : isSubtype (.type ((Manifest.find? "StopIteration").elim "type" fun y => y.metatype)) (.type "tuple") = pure false := by rw [isSubtype_type]; kernel_rfl
theorem sub_SI : isSubtype (.type "StopIteration") (.type "StopIteration") = pure true := by rw [isSubtype_type]; kernel_rfl
theorem fr_congr {g h : Heap} {L : Addr} {m m' : Str → Option Value} (F : Fr g L h m) (e : ∀ y, m y = m' y) : Fr g L h m' := (funext e) ▸ F
theorem FcAt.step {w : World} {G : List Nd} {fin : List Str} {f : Fm} {fs : List Fm} {sn : List Str} {so dob : Obj} {kvs : List (Str × Value)} (H : FcAt w G fin (f :: fs) sn so dob kvs) (p : Nat) : FcAt w G fin ({ f with p := p } :: fs) sn so dob kvs :=
  ⟨H.set, H.dict, H.kv, H.kvi, H.kvz, H.snn, H.sub, H.mem, H.ended, H.nd, H.disj, fun q hq => by
    rcases List.mem_cons.mp hq with rfl | hq
    · exact H.fsa f (.head _)
    · exact H.fsa q (.tail _ hq), H.sep⟩
inductive FwJ (w : World) (G : List Nd) (frs low : List (Addr × Obj)) (dA sA iA kA I : Addr) (oI : Obj) (sn fin : List Str) (fs : List Fm) (k : Nat) (news : List (Addr × Obj)) : Prop
  | mk (fin' : List Str) (fs' : List Fm) (so dob : Obj) (kvs : List (Str × Value)) (e1 e2 : Nat) (fr : List (Addr × Obj)) (SU : SameUp frs fr) (H : FcAt w G fin' fs' sn so dob kvs) (inn : Inner (succOf G) fin' fs') (tl : ∀ p ∈ fled fs', I < p.1)
      (mu : left G sn fs' ≤ left G sn fs) (tk : ∀ k ∈ fin, k ∈ fin') (ek : k = fs'.length) (e : news = (I, oI) :: fcup dA sA iA kA so dob e1 e2 fs' ++ (low ++ fr))
set_option maxHeartbeats 8000000 in
theorem inner_while {w : World} {g h : Heap} {L x dx nd I kA iA sA dA : Addr} {d u n tk : Nat} {outer : List Env} {frs : List (Addr × Obj)} {loose : List Str} {mean : ExcName → Option Value} {mg mb : Str → Option Value} {t1 t2 t3 t4 : Tok} {rd np nf : Value} {od oI : Obj} {G : List Nd} {v : Value}
   {fin : List Str} {fs : List Fm} {sn : List Str} {so dob : Obj} {kvs : List (Str × Value)} {e1 e2 : Nat} {s : Shared} {Q : Flow → Shared → Prop} {E : Value → Shared → Prop}
   (Fs₀ : Frs outer frs) (X : (hd.heap_39 w.params).In g) (T : Top hd.view_39 loose mean mg mb g) (hd : d + n + 10 ≤ 900) (hu : u + 20 * n + 200 ≤ 9000)
   (ap : (feet x dx nd G).Nodup) (hnn : (G.map (·.nm)).Nodup) (hsz : G.length ≤ 90) (hok : SuOk G) (hnode : ∃ k t, v = .str k t)
   (hlow : ∀ p ∈ fclow w x dx nd t1 t2 t3 t4 rd np nf od G, p.1 < L) (hfl₀ : ∀ p ∈ frs, p.1 < L) (hfa₀ : ∀ p ∈ frs, p.1 ∉ feet x dx nd G)
   (o1 : ∀ q ∈ fclow w x dx nd t1 t2 t3 t4 rd np nf od G ++ frs, q.1 < kA) (o2 : @LT.lt Nat _ kA iA) (o3 : @LT.lt Nat _ iA sA) (o4 : @LT.lt Nat _ sA dA) (o5 : @LT.lt Nat _ dA I)
   (F₀ : Fr g L h (fcmap x nd kA iA sA dA v)) (N₀ : News g L h ((I, oI) :: fcup dA sA iA kA so dob e1 e2 fs ++ (fclow w x dx nd t1 t2 t3 t4 rd np nf od G ++ frs)))
   (H₀ : FcAt w G fin fs sn so dob kvs) (inn₀ : Inner (succOf G) fin fs) (tail₀ : ∀ p ∈ fled fs, I < p.1) (loD : (dA == sysModules) = false)
   (hend : ∀ h' tk' fin' so' dob' kvs' b1 b2 fr', SameUp frs fr' → Fr g L h' (fcmap x nd kA iA sA dA v) → News g L h' ((I, oI) :: fcup dA sA iA kA so' dob' b1 b2 [] ++ (fclow w x dx nd t1 t2 t3 t4 rd np nf od G ++ fr')) →
     FcAt w G fin' [] sn so' dob' kvs' → (∀ k ∈ fin, k ∈ fin') → Q .brk { s with heap := h', toks := tk' })
   (hitem : ∀ h' tk' nm t fin' fs' so' dob' kvs' b1 b2 fr', SameUp frs fr' → Fr g L h' (fcmap x nd kA iA sA dA (.str nm t)) → News g L h' ((I, oI) :: fcup dA sA iA kA so' dob' b1 b2 fs' ++ (fclow w x dx nd t1 t2 t3 t4 rd np nf od G ++ fr')) →
     nm ∈ G.map (·.nm) → FcAt w G fin' fs' sn so' dob' kvs' → Under (succOf G) fin' fs' nm → (∀ p ∈ fled fs', I < p.1) → left G sn fs' < left G sn fs → (∀ k ∈ fin, k ∈ fin') → Q .next { s with heap := h', toks := tk' }) :
   wpAny (model PP w) ((mkA d u outer).deeper (fcEnv L)) (exec fcWhile (fcEnv L)) Q E { s with heap := h, toks := tk } := by
  have o23 := Nat.lt_trans o2 o3
  have o34 := Nat.lt_trans o3 o4
  have o24 := Nat.lt_trans o23 o4
  have o45 := Nat.lt_trans o4 o5
  have o35 := Nat.lt_trans o34 o5
  have o25 := Nat.lt_trans o24 o5
  have eW : fcWhile = .While _ _ _ _ := rfl
  have eS : stScope fcFn = { kind := _, names := _, isGenerator := _, isCoroutine := _, more := _ } := rfl
  rw [fcEnv, eS, eW]
  clear eW eS
  with_reducible refine hide ?_
  intro GG hGG
  obtain ⟨vk, vt, rfl⟩ := hnode
  with_reducible refine hGG ?_
  clear hGG GG
  refine while_newsQ (fun m₁ k m' news => m' = fcmap x nd kA iA sA dA (.str vk vt) ∧ FwJ w G frs (fclow w x dx nd t1 t2 t3 t4 rd np nf od G) dA sA iA kA I oI sn fin fs k news) F₀ N₀ ⟨rfl, fin, fs, so, dob, kvs, e1, e2, frs, SameUp.refl _, H₀, inn₀, tail₀, Nat.le_refl _, fun _ h => h, rfl, rfl⟩ ?_
  clear F₀ N₀ H₀ inn₀ tail₀
  intro k m₂ news₂ h₃ tk₄ F N hXX
  obtain ⟨rfl, fin3, fs3, so3, dob3, kvs3, b1, b2, fr3, SU3, H3, inn3, tail3, mu3, take3, rfl, rfl⟩ := hXX
  intro Qt hQt
  have Fs3 := Fs₀.up SU3
  have hfl3 : ∀ p ∈ fr3, p.1 < L := fun p hp => by
    with_reducible refine hide ?_
    intro GG hGG
    obtain ⟨q, hq, e⟩ := SU3.fwd p hp
    with_reducible refine hGG ?_
    clear hGG GG
    rw [e]; exact hfl₀ q hq
  have hfa3 : ∀ p ∈ fr3, p.1 ∉ feet x dx nd G := fun p hp => by
    with_reducible refine hide ?_
    intro GG hGG
    obtain ⟨q, hq, e⟩ := SU3.fwd p hp
    with_reducible refine hGG ?_
    clear hGG GG
    rw [e]; exact hfa₀ q hq
  have hq3 : ∀ q ∈ fclow w x dx nd t1 t2 t3 t4 rd np nf od G ++ fr3, q.1 < kA := fun q hq => (List.mem_append.mp hq).elim (fun z => o1 q (List.mem_append_left _ z)) fun z => by
    with_reducible refine hide ?_
    intro GG hGG
    obtain ⟨y, hy, e⟩ := SU3.fwd q z
    with_reducible refine hGG ?_
    clear hGG GG
    rw [e]; exact o1 y (List.mem_append_right _ hy)
  have up3 : ∀ p ∈ (I, oI) :: fcup dA sA iA kA so3 dob3 b1 b2 fs3, ¬ p.1 < kA := by
    simp only [fcup, List.forall_mem_cons]
    exact ⟨nlt (by walk_at "X ord"), nlt (by walk_at "X ord"), nlt (by walk_at "X ord"), nlt (by walk_at "X ord"), nlt (by walk_at "X ord"), fun p hp => nlt (Nat.le_of_lt (Nat.lt_trans (by walk_at "X lt") (tail3 p hp)))⟩
  clear o1 hfl₀ hfa₀ Fs₀
  cases fs3 with
  | nil =>
    have hnd : nd < L := hlow (nd, od) (.tail _ (.tail _ (.head _)))
    have F5 := F
    have N5 : News g L h₃ ((I, oI) :: (dA, dob3) :: (sA, so3) :: (iA, W.listOf #[] b1) :: (kA, W.listOf #[] b2) :: (fclow w x dx nd t1 t2 t3 t4 rd np nf od G ++ fr3)) := N
    walk1
    walk1
    refine wpAny_truthy_list (News.isList N5 (by walk_at "X mem")) (by simp) ?_
    rw [if_neg (by simp)]
    k_steps
    exact hend _ _ fin3 so3 dob3 kvs3 b1 b2 fr3 SU3 F5 N5 H3 take3
  | cons f fs3 =>
    with_reducible refine hide ?_
    intro GG hGG
    refine cps_EAA (H3.fsa f (.head _)) ?_
    intro rf hrf ef1 ef2
    obtain ⟨p1, p3, p2⟩ := led_mem hrf
    have u1 : @LT.lt Nat _ nd kA := hq3 (nd, od) (List.mem_append_left _ (.tail _ (.tail _ (.head _))))
    have u2 : @LT.lt Nat _ rf.ia kA := hq3 (rf.ia, infoObj rf) (List.mem_append_left _ (.tail _ (.tail _ (.tail _ p1))))
    have u3 : @LT.lt Nat _ rf.sa kA := hq3 (rf.sa, succObj rf) (List.mem_append_left _ (.tail _ (.tail _ (.tail _ p2))))
    have u4 : @LT.lt Nat _ rf.di kA := hq3 (rf.di, dictOf [] 0) (List.mem_append_left _ (.tail _ (.tail _ (.tail _ p3))))
    refine cps_AAAAA (turn_ne ap hrf) ?_
    intro y1 y2 y3 y4 y5 y6
    refine cps_EAAAAA (fc_base d u (up := (I, oI) :: fcup dA sA iA kA so3 dob3 b1 b2 (f :: fs3)) F Fs3 X T hq3 up3 N hlow hfl3 hfa3 hrf) ?_
    intro g1 F4 N4 B1 X1 T1 back
    with_reducible refine hGG ?_
    clear hGG GG
    have tailf : ∀ p ∈ (f.ba, boundO f.ia) :: (f.ia, iterO f.sa f.p) :: fled fs3, I < p.1 := tail3
    have s1 : @LT.lt Nat _ I f.ba := tailf _ (.head _)
    have s2 : @LT.lt Nat _ I f.ia := tailf _ (.tail _ (.head _))
    have tailr : ∀ p ∈ fled fs3, I < p.1 := fun p hp => tailf p (.tail _ (.tail _ hp))
    have sep' : (f.ba :: f.ia :: (fled fs3).map (·.1)).Nodup := H3.sep
    simp only [List.nodup_cons, List.mem_cons, not_or] at sep'
    with_reducible refine hide ?_
    intro GG hGG
    obtain ⟨⟨s3, s4⟩, s5, -⟩ := sep'
    have s3 : @Ne Nat f.ba f.ia := s3
    have x1 : ∀ p ∈ fled fs3, p.1 ≠ f.ba := fun p hp q => s4 (q ▸ List.mem_map_of_mem (f := (·.1)) hp)
    have x2 : ∀ p ∈ fled fs3, p.1 ≠ f.ia := fun p hp q => s5 (q ▸ List.mem_map_of_mem (f := (·.1)) hp)
    have x3 : ∀ p ∈ fled fs3, p.1 ≠ nd := fun p hp => gtne (Nat.lt_trans (by walk_at "X lt") (tailr p hp))
    have x4 : ∀ p ∈ fled fs3, p.1 ≠ rf.ia := fun p hp => gtne (Nat.lt_trans (by walk_at "X lt") (tailr p hp))
    have x5 : ∀ p ∈ fled fs3, p.1 ≠ rf.di := fun p hp => gtne (Nat.lt_trans (by walk_at "X lt") (tailr p hp))
    have x6 : ∀ p ∈ fled fs3, p.1 ≠ rf.sa := fun p hp => gtne (Nat.lt_trans (by walk_at "X lt") (tailr p hp))
    have x7 : ∀ p ∈ fled fs3, p.1 ≠ I := fun p hp => gtne (tailr p hp)
    have x8 : ∀ p ∈ fled fs3, p.1 ≠ dA := fun p hp => gtne (Nat.lt_trans (by walk_at "X lt") (tailr p hp))
    have x9 : ∀ p ∈ fled fs3, p.1 ≠ sA := fun p hp => gtne (Nat.lt_trans (by walk_at "X lt") (tailr p hp))
    have x10 : ∀ p ∈ fled fs3, p.1 ≠ iA := fun p hp => gtne (Nat.lt_trans (by walk_at "X lt") (tailr p hp))
    have x11 : ∀ p ∈ fled fs3, p.1 ≠ kA := fun p hp => gtne (Nat.lt_trans (by walk_at "X lt") (tailr p hp))
    have e1 : fbinds (f :: fs3) = fbinds fs3 ++ [.ref f.ba] := by simp
    have e2 : fnames (f :: fs3) = fnames fs3 ++ [.str f.nm f.tk] := by simp
    have N4' : News g1 L h₃ ((nd, od) :: (rf.ia, infoObj rf) :: (rf.di, dictOf [] 0) :: (rf.sa, succObj rf) :: (I, oI) :: (dA, dob3) :: (sA, so3) :: (iA, W.listOf (fbinds fs3 ++ [Value.ref f.ba]).toArray b1) :: (kA, W.listOf (fnames fs3 ++ [Value.str f.nm f.tk]).toArray b2) :: (f.ba, boundO f.ia) :: (f.ia, iterO rf.sa f.p) :: fled fs3) := by
      rw [← e1, ← e2, show iterO rf.sa f.p = iterO f.sa f.p by rw [ef2]]; exact N4
    clear F N N4
    obtain ⟨z1', z2', z3'⟩ := H3.lens hsz
    with_reducible refine hGG ?_
    clear hGG GG
    have hFN : (fnames fs3).length = fs3.length := by simp
    have hFB : (fbinds fs3).length = fs3.length := by simp
    rw [List.length_cons] at z2'
    generalize hFNe' : fnames fs3 = FN' at N4' hFN
    generalize hFBe' : fbinds fs3 = FB' at N4' hFB
    have hne : (FN' ++ [Value.str f.nm f.tk]).toArray.isEmpty = false := by simp
    walk1
    walk1
    refine wpAny_truthy_list (News.isList N4' (by walk_at "X mem")) (by rw [List.size_toArray, List.length_append]; simp only [List.length_singleton]; omega) ?_
    rw [hne]
    rw [if_pos (show (!false) = true from rfl)]
    k_steps
    refine ⟨?_⟩
    by_cases hp : f.p < rf.su.length
    · with_reducible refine hide ?_
      intro GG hGG
      obtain ⟨v0, hv0⟩ : ∃ v0, rf.su[f.p]? = some v0 := ⟨_, List.getElem?_eq_getElem hp⟩
      refine cps_EEA (strs_get (hok rf hrf).1 hv0) ?_
      rintro k0 t0 hk0 rfl
      with_reducible refine hGG ?_
      clear hGG GG
      refine' fc_item (items := rf.su.toArray) ?F ?N ?hb ?U ?hl ?hx ?_
      case F => k_asm
      case N => k_asm
      case hb => k_mem
      case U => k_updF
      case hl => exact News.isList (by k_asm) (by k_mem)
      case hx => simpa using hv0
      intro h' F' N'
      try dsimp only at N'
      k_steps
      rename Fr g1 _ _ _ => F5
      rename News g1 _ _ _ => N5
      obtain ⟨F6, N6⟩ := back _ _ _ ((I, oI) :: fcup dA sA iA kA so3 dob3 b1 b2 ({ f with p := f.p + 1 } :: fs3)) F5 N5 (by walk_at "X mem") (by walk_at "X mem") (by walk_at "X mem") (by walk_at "X mem") (by
        have e3 : fbinds ({ f with p := f.p + 1 } :: fs3) = FB' ++ [.ref f.ba] := by rw [← hFBe']; simp
        have e4 : fnames ({ f with p := f.p + 1 } :: fs3) = FN' ++ [.str f.nm f.tk] := by rw [← hFNe']; simp
        rw [fcup, e3, e4]
        intro p hp
        simp only [ef2] at hp ⊢
        have hp : p ∈ (I, oI) :: (dA, dob3) :: (sA, so3) :: (iA, W.listOf (FB' ++ [Value.ref f.ba]).toArray b1) :: (kA, W.listOf (FN' ++ [Value.str f.nm f.tk]).toArray b2) :: (f.ba, boundO f.ia) :: (f.ia, iterO f.sa (f.p + 1)) :: fled fs3 := hp
        exact .tail _ (.tail _ (.tail _ (.tail _ hp))))
      have tailx : ∀ p ∈ (f.ba, boundO f.ia) :: (f.ia, iterO f.sa (f.p + 1)) :: fled fs3, I < p.1 := List.forall_mem_cons.mpr ⟨s1, List.forall_mem_cons.mpr ⟨s2, tailr⟩⟩
      have hsx : (succOf G f.nm)[f.p]? = some k0 := by rw [← ef1, succ_self hnn hrf]; exact hk0
      have hsl : (succOf G f.nm).length = rf.su.length := by rw [← ef1, succ_self hnn hrf, List.length_map]
      show Qt _ _
      refine hQt _ _ ?_
      exact hitem _ _ k0 t0 fin3 ({ f with p := f.p + 1 } :: fs3) so3 dob3 kvs3 b1 b2 fr3 SU3 (fr_congr F6 fun y => by by_cases q : y = Str.ofString "node" <;> simp [fcmap, q]) N6 ((hok rf hrf).2.1 _ (List.mem_of_getElem? hk0)) (H3.step _) (inn3.item hsx) (fun p hp => tailx p hp) (by
        refine Nat.lt_of_lt_of_le ?_ mu3
        unfold left
        rw [List.map_cons, List.sum_cons, List.map_cons, List.sum_cons]
        show _ + ((succOf G f.nm).length + 1 - (f.p + 1) + _) < _
        omega) take3
    · have hx : rf.su.toArray[f.p]? = none := by simp; omega
      refine' fc_end (items := rf.su.toArray) rfl ?F ?N ?hb ?U ?hl hx ?_
      case F => k_asm
      case N => k_asm
      case hb => k_mem
      case U => k_updF
      case hl => exact News.isList (by k_asm) (by k_mem)
      intro h₁ h' e o F' N' hE
      try dsimp only at N'
      obtain ⟨F6, N6⟩ := back _ _ _ ((I, oI) :: (dA, dob3) :: (sA, so3) :: (iA, W.listOf (FB' ++ [Value.ref f.ba]).toArray b1) :: (kA, W.listOf (FN' ++ [Value.str f.nm f.tk]).toArray b2) :: (f.ba, boundO f.ia) :: (f.ia, o) :: fled fs3) F' N' (by walk_at "X mem") (by walk_at "X mem") (by walk_at "X mem") (by walk_at "X mem") (fun p hp => .tail _ (.tail _ (.tail _ (.tail _ hp))))
      rw [← List.append_assoc] at N6
      have up4 : ∀ p ∈ (I, oI) :: (dA, dob3) :: (sA, so3) :: (iA, W.listOf (FB' ++ [Value.ref f.ba]).toArray b1) :: (kA, W.listOf (FN' ++ [Value.str f.nm f.tk]).toArray b2) :: (f.ba, boundO f.ia) :: (f.ia, o) :: fled fs3, ¬ p.1 < kA := by
        simp only [List.forall_mem_cons]
        exact ⟨nlt (by walk_at "X ord"), nlt (by walk_at "X ord"), nlt (by walk_at "X ord"), nlt (by walk_at "X ord"), nlt (by walk_at "X ord"), nlt (by walk_at "X ord"), nlt (by walk_at "X ord"), fun p hp => nlt (Nat.le_of_lt (Nat.lt_trans (by walk_at "X lt") (tailr p hp)))⟩
      refine catch_here hE Fs3 F6 N6 (fun p hp q => ?_) X T (by k_is) PyProof.Rows.Boot.«StopIteration» (by decide) isExc_SI notTuple_SI sub_SI ?_
      · rcases List.mem_cons.mp q with q | q
        · exact (N6 p (List.mem_append_left _ hp)).2.1 q
        · with_reducible refine hide ?_
          intro GG hGG
          obtain ⟨y, hy, e'⟩ := List.mem_map.mp q
          with_reducible refine hGG ?_
          clear hGG GG
          have e' : y.1 = p.1 := e'
          rcases List.mem_append.mp hp with hp | hp
          · exact up4 p hp (e' ▸ hq3 y (List.mem_append_right _ hy))
          · exact hfa3 y hy (e' ▸ fclow_addr (w := w) (t1 := t1) (t2 := t2) (t3 := t3) (t4 := t4) (rd := rd) (np := np) (nf := nf) (od := od) ▸ List.mem_map_of_mem hp)
      clear F' N' F6 N6 F4 N4' B1 X1 T1 back hE
      intro h4 fr4 SU4 Fs4 F4 N4
      rw [List.append_assoc] at N4
      have hfl4 : ∀ p ∈ fr4, p.1 < L := fun p hp => by
        with_reducible refine hide ?_
        intro GG hGG
        obtain ⟨q, hq, e⟩ := SU4.fwd p hp
        with_reducible refine hGG ?_
        clear hGG GG
        rw [e]; exact hfl3 q hq
      have hfa4 : ∀ p ∈ fr4, p.1 ∉ feet x dx nd G := fun p hp => by
        with_reducible refine hide ?_
        intro GG hGG
        obtain ⟨q, hq, e⟩ := SU4.fwd p hp
        with_reducible refine hGG ?_
        clear hGG GG
        rw [e]; exact hfa3 q hq
      have hq4 : ∀ q ∈ fclow w x dx nd t1 t2 t3 t4 rd np nf od G ++ fr4, q.1 < kA := fun q hq => (List.mem_append.mp hq).elim (fun z => hq3 q (List.mem_append_left _ z)) fun z => by
        with_reducible refine hide ?_
        intro GG hGG
        obtain ⟨y, hy, e⟩ := SU4.fwd q z
        with_reducible refine hGG ?_
        clear hGG GG
        rw [e]; exact hq3 y (List.mem_append_right _ hy)
      refine cps_EAAAAA (fc_base d u F4 Fs4 X T hq4 up4 N4 hlow hfl4 hfa4 hrf) ?_
      intro g2 F5 N5 B1 X1 T1 back
      clear F4 N4
      have hdic := H3.dict
      have hz1 : (FB' ++ [Value.ref f.ba]).toArray.toList.length ≤ sizeLine := by rw [sizeLine_eq]; show (FB' ++ [Value.ref f.ba]).length ≤ _; rw [List.length_append, List.length_singleton]; omega
      have hz2 : (FN' ++ [Value.str f.nm f.tk]).toArray.toList.length ≤ sizeLine := by rw [sizeLine_eq]; show (FN' ++ [Value.str f.nm f.tk]).length ≤ _; rw [List.length_append, List.length_singleton]; omega
      have hkv : (valueAt kvs3 f.nm).isSome = true := (H3.kv f.nm).mpr (by simp)
      k_steps
      rename Fr g2 _ _ _ => F7
      rename News g2 _ _ _ => N7
      rename Obj.IsDictOf _ _ (without kvs3 _) => hdel
      rename_i hA7 FA7 NA7 hB7 dob7 FB7 NB7 hC7
      obtain ⟨F8, N8⟩ := back _ _ _ ((I, oI) :: fcup dA sA iA kA so3 dob7 (b1 + 1) (b2 + 1) fs3) F7 N7 (by walk_at "X mem") (by walk_at "X mem") (by walk_at "X mem") (by walk_at "X mem") (by
        rw [fcup, hFBe', hFNe']
        exact List.forall_mem_cons.mpr ⟨by walk_at "X mem", List.forall_mem_cons.mpr ⟨by walk_at "X mem", List.forall_mem_cons.mpr ⟨by walk_at "X mem", List.forall_mem_cons.mpr ⟨by walk_at "X mem", List.forall_mem_cons.mpr ⟨by walk_at "X mem", fun p hp => by walk_at "X mem"⟩⟩⟩⟩⟩)
      have hlen : (succOf G f.nm).length ≤ f.p := by rw [← ef1, succ_self hnn hrf, List.length_map]; omega
      show Qt _ _
      refine hQt _ _ ?_
      refine ⟨_, _, _, _, fs3.length, rfl, F8, N8, by simp, rfl, fin3 ++ [f.nm], fs3, so3, dob7, without kvs3 f.nm, b1 + 1, b2 + 1, fr4, SU3.trans SU4, H3.popd hdel (inn3.all hlen), inn3.pop, tailr, ?_, fun k hk => List.mem_append_left _ (take3 k hk), rfl, rfl⟩
      refine Nat.le_trans ?_ mu3
      unfold left
      rw [List.map_cons, List.sum_cons]
      omega
end
section

open PyProof.Rows.TI (Frs SameUp)

theorem ite_tail {α : Type} {c : Prop} [Decidable c] {a b b' : α} (h : b = b') : (if c then a else b) = if c then a else b' := by rw [h]
inductive FcJ (w : World) (G : List Nd) (frs low : List (Addr × Obj)) (dA sA iA kA : Addr) (i : Nat) (news : List (Addr × Obj)) : Prop
  | mk (fin sn : List Str) (so dob : Obj) (kvs : List (Str × Value)) (e1 e2 : Nat) (fr : List (Addr × Obj)) (SU : SameUp frs fr) (H : FcAt w G fin [] sn so dob kvs) (hf : ∀ k ∈ (G.map (·.nm)).take i, k ∈ fin)
      (e : news = fcup dA sA iA kA so dob e1 e2 [] ++ (low ++ fr))
inductive FcK (w : World) (G : List Nd) (frs low : List (Addr × Obj)) (dA sA iA kA I : Addr) (oI : Obj) (rn : Str) (i n : Nat) (m' : Str → Option Value) (news : List (Addr × Obj)) : Prop
  | mk (nm : Str) (tk : Tok) (fin' : List Str) (fs : List Fm) (sn : List Str) (so dob : Obj) (kvs : List (Str × Value)) (e1 e2 : Nat) (fr : List (Addr × Obj)) (SU : SameUp frs fr) (hm : m' (Str.ofString "node") = some (.str nm tk))
      (hn : nm ∈ G.map (·.nm)) (H : FcAt w G fin' fs sn so dob kvs) (U : Under (succOf G) fin' fs nm) (hf : ∀ k ∈ (G.map (·.nm)).take i, k ∈ fin') (hr : nm = rn ∨ rn ∈ sn) (hl : ∀ p ∈ fled fs, I < p.1) (en : n = left G sn fs)
      (e : news = (I, oI) :: fcup dA sA iA kA so dob e1 e2 fs ++ (low ++ fr))
set_option maxHeartbeats 8000000 in
theorem fc_spec {w : World} {A : Around} {b : Heap} {s : Shared} {n : Nat} {x dx nd : Addr} {G : List Nd} {rd np nf : Value} {outer : List Env} {frs : List (Addr × Obj)}
   (C : CxS w (n + 10) A b s.heap outer frs) (kb : b.StaysIn s.heap) (S : Sor w s.heap x dx nd G rd np nf) (off : ∀ a ∈ feet x dx nd G, b.get? a = none) (lo : (nd == sysModules) = false)
   (hnn : (G.map (·.nm)).Nodup) (hsz : G.length ≤ 90) (hok : SuOk G) (hfa₀ : ∀ p ∈ frs, p.1 ∉ feet x dx nd G) :
   codeAny (model PP w) A (.call (.ref 161) ⟨[.ref x], []⟩) (RetS s [] frs fun v h' => (v = .none ∧ ∃ fin, Ended (succOf G) fin ∧ ∀ k ∈ G.map (·.nm), k ∈ fin) ∨
     ∃ c items ep, v = .ref c ∧ s.heap.get? c = none ∧ h'.get? c = some (W.listOf items ep) ∧ 0 < items.size ∧ items.size ≤ 1000 ∧ Ring (succOf G)) s := by
  with_reducible refine hide ?_
  intro GG hGG
  refine cps_AAA (S.ne) ?_
  intro d1 d2 d3 da
  refine cps_EEEE (S.dict) ?_
  intro t1 t2 t3 t4 hdict
  obtain ⟨od, hod, hD⟩ := S.map
  with_reducible refine hGG ?_
  clear hGG GG
  have hled := S.led
  have ap := S.apart
  have Fs₀ := C.fr
  have hfr₀ := C.at_
  have hadr : ∀ p ∈ led G, p.1 ∈ addrs G := fun p hp => led_addrs G ▸ List.mem_map_of_mem (f := (·.1)) hp
  have hn : ∀ p ∈ fclow w x dx nd t1 t2 t3 t4 rd np nf od G, s.heap.get? p.1 = some p.2 ∧ b.get? p.1 = none := by
    refine List.forall_mem_cons.mpr ⟨⟨S.self, off _ (.head _)⟩, List.forall_mem_cons.mpr ⟨⟨hdict, off _ (.tail _ (.head _))⟩, List.forall_mem_cons.mpr ⟨⟨hod, off _ (.tail _ (.tail _ (.head _)))⟩, fun p hp => ⟨hled p hp, off _ (.tail _ (.tail _ (.tail _ (hadr p hp))))⟩⟩⟩⟩
  walk_at "M enterS"
  intro g h₁ d u loose mean mg mb eA F N X T bg hd hu hg gs ll kh
  subst eA
  dsimp only
  have hlow : ∀ p ∈ fclow w x dx nd t1 t2 t3 t4 rd np nf od G, p.1 < s.heap.objs.size := fun p hp => ll p (List.mem_append_left _ hp)
  have hfl₀ : ∀ p ∈ frs, p.1 < s.heap.objs.size := fun p hp => ll p (List.mem_append_right _ hp)
  have hnd : nd < s.heap.objs.size := hlow (nd, od) (.tail _ (.tail _ (.head _)))
  have hdx : dx < s.heap.objs.size := hlow (dx, _) (.tail _ (.head _))
  have hxl : x < s.heap.objs.size := hlow (x, _) (.head _)
  have hsrc : ∀ p ∈ fclow w x dx nd t1 t2 t3 t4 rd np nf od G, s.heap.get? p.1 = some p.2 := fun p hp => (hn p hp).1
  clear hn hfr₀ C
  show wpAny _ _ _ _ _ _
  k_fold
  k_steps
  rename_i tkA hA kA hB l1 hC tkB iA hD' l2 hE sA hF ledb hsi hss l3 hG dA hH dO loD hdS fsD hdI fiD l4 hI2 F1 N1
  have o1 : ∀ q ∈ fclow w x dx nd t1 t2 t3 t4 rd np nf od G ++ frs, q.1 < kA := l1
  have o2 : @LT.lt Nat _ kA iA := l2.1
  have o3 : @LT.lt Nat _ iA sA := l3.1
  have o4 : @LT.lt Nat _ sA dA := l4.1
  have o23 := Nat.lt_trans o2 o3
  have o34 := Nat.lt_trans o3 o4
  have o24 := Nat.lt_trans o23 o4
  clear hsi hdI fiD fsD l1 l2 l3 l4
  refine ⟨for_stmt ?_⟩
  k_steps
  refine for_dictQ (kvs := (G.map fun r => (r.nm, Value.ref r.ia))) rfl lo hD (fun m₀ i m news => (∀ y, y ≠ Str.ofString "node" → m y = m₀ y) ∧
    FcJ w G frs (fclow w x dx nd t1 t2 t3 t4 rd np nf od G) dA sA iA kA i news) F1 N1 ⟨fun _ _ => rfl, [], [], _, _, [], 0, 0, frs, SameUp.refl _, FcAt.start hss hdS, by simp, rfl⟩ ?_ ?_ ?_
  · intro i m news hXX
    obtain ⟨_, fin, sn, so, dob, kvs, e1, e2, fr, _, _, _, rfl⟩ := hXX
    exact List.mem_append_right _ (List.mem_append_left _ (.tail _ (.tail _ (.head _))))
  · intro i v t I oI h tk m news hv hXX
    obtain ⟨hm, fin, sn₀, so, dob, kvs, e1, e2, fr, SU, H, hfin, rfl⟩ := hXX
    intro F N offI fresh
    intro Qt hQt
    have F3 := fr_norm F hm
    clear F hm
    with_reducible refine hide ?_
    intro GG hGG
    obtain ⟨r, hr, rfl⟩ : ∃ r, G[i]? = some r ∧ v = (r.nm, Value.ref r.ia) := by
      rw [List.getElem?_map] at hv
      cases e : G[i]? with
      | none => rw [e] at hv; cases hv
      | some r => rw [e] at hv; exact ⟨r, rfl, (Option.some.inj hv).symm⟩
    have hrG : r ∈ G := List.mem_of_getElem? hr
    have hrk : r.nm ∈ G.map (·.nm) := List.mem_map_of_mem (f := (·.nm)) hrG
    have hset := H.set
    have o5 : @LT.lt Nat _ dA I := fresh dA _ (N1 _ (.head _)).1
    have o45 := Nat.lt_trans o4 o5
    have o35 := Nat.lt_trans o34 o5
    have o25 := Nat.lt_trans o24 o5
    have Fs := Fs₀.up SU
    have hfl : ∀ p ∈ fr, p.1 < s.heap.objs.size := fun p hp => by
      obtain ⟨q, hq, e⟩ := SU.fwd p hp
      rw [e]; exact hfl₀ q hq
    have hfa : ∀ p ∈ fr, p.1 ∉ feet x dx nd G := fun p hp => by
      obtain ⟨q, hq, e⟩ := SU.fwd p hp
      rw [e]; exact hfa₀ q hq
    have hlen : sn₀.length ≤ 90 := (H.lens hsz).1
    have hq : ∀ q ∈ fclow w x dx nd t1 t2 t3 t4 rd np nf od G ++ fr, q.1 < kA := fun q hq => (List.mem_append.mp hq).elim (fun z => o1 q (List.mem_append_left _ z)) fun z => by
      obtain ⟨y, hy, e⟩ := SU.fwd q z
      rw [e]; exact o1 y (List.mem_append_right _ hy)
    obtain ⟨m1, m3, m2⟩ := led_mem hrG
    have q1 : @LT.lt Nat _ nd kA := hq (nd, od) (List.mem_append_left _ (.tail _ (.tail _ (.head _))))
    have q2 : @LT.lt Nat _ r.ia kA := hq (r.ia, infoObj r) (List.mem_append_left _ (.tail _ (.tail _ (.tail _ m1))))
    have q3 : @LT.lt Nat _ r.sa kA := hq (r.sa, succObj r) (List.mem_append_left _ (.tail _ (.tail _ (.tail _ m2))))
    have q4 : @LT.lt Nat _ r.di kA := hq (r.di, dictOf [] 0) (List.mem_append_left _ (.tail _ (.tail _ (.tail _ m3))))
    refine cps_EAAAAA (fc_base d u (up := (I, oI) :: fcup dA sA iA kA so dob e1 e2 []) F3 Fs X T hq (by
      simp only [fcup, fled, List.flatMap_nil, List.forall_mem_cons]
      exact ⟨nlt (by walk_at "X ord"), nlt (by walk_at "X ord"), nlt (by walk_at "X ord"), nlt (by walk_at "X ord"), nlt (by walk_at "X ord"), fun _ h => nomatch h⟩) N hlow hfl hfa hrG) ?_
    intro g1 F4 N4 B1 X1 T1 back
    with_reducible refine hGG ?_
    clear hGG GG
    have N1' := N1
    clear N1 F1 N F3
    dsimp only [fcup] at N4
    by_cases hin : r.nm ∈ sn₀
    · have hdec : (fun k => decide (k ∈ sn₀)) r.nm = true := by simp [hin]
      dsimp only
      k_steps
      show Qt _ _
      refine hQt _ _ ?_
      rename Fr g1 _ _ _ => F5
      rename News g1 _ _ _ => N5
      obtain ⟨F6, N6⟩ := back _ _ _ ((I, oI) :: fcup dA sA iA kA so dob e1 e2 []) F5 N5 (.head _) (.tail _ (.head _)) (.tail _ (.tail _ (.head _))) (.tail _ (.tail _ (.tail _ (.head _)))) fun p hp => .tail _ (.tail _ (.tail _ (.tail _ hp)))
      refine ⟨_, _, _, _, rfl, F6, N6, offI, fun y h => by simp [h], fin, sn₀, so, dob, kvs, e1, e2, fr, SU, H, fun k hk => ?_, rfl⟩
      rw [List.take_add_one, List.mem_append] at hk
      rcases hk with hk | hk
      · exact hfin k hk
      · simp [List.getElem?_map, hr] at hk; exact hk ▸ ((H.mem _).mp hin).elim id fun z => nomatch z
    · have hdec : (fun k => decide (k ∈ sn₀)) r.nm = false := by simp [hin]
      dsimp only
      k_steps
      rename Fr g1 _ _ _ => F5
      rename News g1 _ _ _ => N5
      obtain ⟨F6, N6⟩ := back _ _ _ ((I, oI) :: fcup dA sA iA kA so dob e1 e2 []) F5 N5 (.head _) (.tail _ (.head _)) (.tail _ (.tail _ (.head _))) (.tail _ (.tail _ (.tail _ (.head _)))) fun p hp => .tail _ (.tail _ (.tail _ (.tail _ hp)))
      clear F5 N5 back B1 X1 T1 offI
      refine ⟨?_⟩
      refine while_newsQ (n₀ := left G sn₀ []) (fun m₁ n m' news => (∀ y, y ≠ Str.ofString "node" → m' y = m₁ y) ∧
        FcK w G frs (fclow w x dx nd t1 t2 t3 t4 rd np nf od G) dA sA iA kA I oI r.nm i n m' news) F6 N6
        ⟨fun _ _ => rfl, r.nm, t, fin, [], sn₀, so, dob, kvs, e1, e2, fr, SU, by simp, hrk, H, trivial, hfin, .inl rfl, (by simp [fled]), rfl, rfl⟩ ?_
      clear F6 N6 H hset
      intro n' m₁ news₁ h₂ tk₂ F N hXX
      obtain ⟨hm₁, nm, tk₃, fin', fs, sn, so', dob', kvs', e1', e2', fr', SU', hnode, hnm, H, und, hfin', hroot, hfs, rfl, rfl⟩ := hXX
      intro Qw hQw
      have F7 := fr_norm F hm₁
      rw [hnode] at F7
      clear F hm₁
      have Fs' := Fs₀.up SU'
      have hfl' : ∀ p ∈ fr', p.1 < s.heap.objs.size := fun p hp => by
        with_reducible refine hide ?_
        intro GG hGG
        obtain ⟨q, hq, e⟩ := SU'.fwd p hp
        with_reducible refine hGG ?_
        clear hGG GG
        rw [e]; exact hfl₀ q hq
      have hfa' : ∀ p ∈ fr', p.1 ∉ feet x dx nd G := fun p hp => by
        with_reducible refine hide ?_
        intro GG hGG
        obtain ⟨q, hq, e⟩ := SU'.fwd p hp
        with_reducible refine hGG ?_
        clear hGG GG
        rw [e]; exact hfa₀ q hq
      have hq' : ∀ q ∈ fclow w x dx nd t1 t2 t3 t4 rd np nf od G ++ fr', q.1 < kA := fun q hq => (List.mem_append.mp hq).elim (fun z => o1 q (List.mem_append_left _ z)) fun z => by
        with_reducible refine hide ?_
        intro GG hGG
        obtain ⟨y, hy, e⟩ := SU'.fwd q z
        with_reducible refine hGG ?_
        clear hGG GG
        rw [e]; exact o1 y (List.mem_append_right _ hy)
      clear q2 q3 q4 m1 m2 m3
      with_reducible refine hide ?_
      intro GG hGG
      refine cps_EAA (split_at hnn hnm) ?_
      rintro r' hr' rfl hva
      obtain ⟨m1, m3, m2⟩ := led_mem hr'
      have q2 : @LT.lt Nat _ r'.ia kA := hq' (r'.ia, infoObj r') (List.mem_append_left _ (.tail _ (.tail _ (.tail _ m1))))
      have q3 : @LT.lt Nat _ r'.sa kA := hq' (r'.sa, succObj r') (List.mem_append_left _ (.tail _ (.tail _ (.tail _ m2))))
      have q4 : @LT.lt Nat _ r'.di kA := hq' (r'.di, dictOf [] 0) (List.mem_append_left _ (.tail _ (.tail _ (.tail _ m3))))
      have up' : ∀ p ∈ (I, oI) :: fcup dA sA iA kA so' dob' e1' e2' fs, ¬ p.1 < kA := by
        simp only [fcup, List.forall_mem_cons]
        exact ⟨nlt (by walk_at "X ord"), nlt (by walk_at "X ord"), nlt (by walk_at "X ord"), nlt (by walk_at "X ord"), nlt (by walk_at "X ord"), fun p hp => nlt (Nat.le_of_lt (Nat.lt_trans (by walk_at "X lt") (hfs p hp)))⟩
      refine cps_EAAAAA (fc_base d u (up := (I, oI) :: fcup dA sA iA kA so' dob' e1' e2' fs) F7 Fs' X T hq' up' N hlow hfl' hfa' hr') ?_
      intro g1 F4 N4 B1 X1 T1 back
      obtain ⟨z1, z2, z3⟩ := H.lens hsz
      refine cps_AAAAA (turn_ne ap hr') ?_
      intro v1 v2 v3 v4 v5 v6
      with_reducible refine hGG ?_
      clear hGG GG
      have hset := H.set
      have hdic := H.dict
      have w1 : ∀ p ∈ fled fs, p.1 ≠ nd := fun p hp => gtne (Nat.lt_trans (by walk_at "X lt") (hfs p hp))
      have w2 : ∀ p ∈ fled fs, p.1 ≠ r'.ia := fun p hp => gtne (Nat.lt_trans (by walk_at "X lt") (hfs p hp))
      have w9 : ∀ p ∈ fled fs, p.1 ≠ r'.di := fun p hp => gtne (Nat.lt_trans (by walk_at "X lt") (hfs p hp))
      have w3 : ∀ p ∈ fled fs, p.1 ≠ r'.sa := fun p hp => gtne (Nat.lt_trans (by walk_at "X lt") (hfs p hp))
      have w4 : ∀ p ∈ fled fs, p.1 ≠ I := fun p hp => gtne (hfs p hp)
      have w5 : ∀ p ∈ fled fs, p.1 ≠ dA := fun p hp => gtne (Nat.lt_trans (by walk_at "X lt") (hfs p hp))
      have w6 : ∀ p ∈ fled fs, p.1 ≠ sA := fun p hp => gtne (Nat.lt_trans (by walk_at "X lt") (hfs p hp))
      have w7 : ∀ p ∈ fled fs, p.1 ≠ iA := fun p hp => gtne (Nat.lt_trans (by walk_at "X lt") (hfs p hp))
      have w8 : ∀ p ∈ fled fs, p.1 ≠ kA := fun p hp => gtne (Nat.lt_trans (by walk_at "X lt") (hfs p hp))
      dsimp only [fcup] at N4
      have hFN : (fnames fs).length = fs.length := by simp
      have hFB : (fbinds fs).length = fs.length := by simp
      generalize hFNe : fnames fs = FN at N4 hFN
      generalize hFBe : fbinds fs = FB at N4 hFB
      have hs1 : FN.toArray.size ≤ sizeLine := by rw [List.size_toArray, sizeLine_eq]; omega
      have hs2 : FB.toArray.size ≤ sizeLine := by rw [List.size_toArray, sizeLine_eq]; omega
      clear N F7 N1'
      by_cases hin' : r'.nm ∈ sn
      by_cases hgr : r'.nm ∈ fs.map (·.nm)
      · have hdec' : (fun k => decide (k ∈ sn)) r'.nm = true := by simp [hin']
        have hkv := (H.kv r'.nm).mpr hgr
        with_reducible refine hide ?_
        intro GG hGG
        obtain ⟨iv, hiv⟩ := Option.isSome_iff_exists.mp hkv
        refine cps_EEA (H.kvi _ _ hiv) ?_
        rintro ii uu rfl hii
        with_reducible refine hGG ?_
        clear hGG GG
        have hpk : (kms_pick FN.toArray.toList (some (ii : Int)) none).length ≤ 90 := by
          refine Nat.le_trans (kms_len _ _ _) ?_
          show FN.length ≤ 90
          omega
        k_steps
        rename Fr g1 _ _ _ => F5
        rename News g1 _ _ _ => N5
        refine ⟨?_⟩
        refine kmk_add_lit F5 N5 (News.isList N5 (.tail _ (.head _))) (News.isList N5 (.head _)) rfl (fun D h' F6 N6 hD => ?_) (by
          rw [sizeLine_eq]; show List.length _ + List.length _ ≤ _
          rw [show (#[Value.str r'.nm tk₃] : Array Value).toList.length = 1 from rfl]
          have : (kms_pick FN.toArray.toList (some (ii : Int)) none).toArray.toList.length = (kms_pick FN.toArray.toList (some (ii : Int)) none).length := rfl
          omega)
        obtain ⟨F7, N7⟩ := back _ _ _ [(D, _)] F6 N6 (by simp) (by simp) (by simp) (by simp) (fun p hp => by rw [List.mem_singleton.mp hp]; exact .head _)
        have hDk : @LT.lt Nat _ dA D := hD (dA, dob') (by simp)
        have nD := (N7 _ (.head _)).2.2
        have N8 : News g s.heap.objs.size h' (fclow w x dx nd t1 t2 t3 t4 rd np nf od G ++ fr') := fun p hp => N7 p (List.mem_append_right _ hp)
        have hkeep := ret_keep F7 N8 hg hsrc
        show Qw _ _
        refine hQw _ _ ?_
        show Qt _ _
        refine hQt _ _ ?_
        refine ⟨_, _, _, fr', rfl, rfl, SU', fun p hp => (N8 p (List.mem_append_right _ hp)).1, fun b o e _ q => hkeep b o e q, .inr ⟨D, _, _, rfl, ?_, (N6 _ (.head _)).1, ?_, ?_, ring_of und hgr⟩⟩
        · cases e : s.heap.get? D with
          | none => rfl
          | some o =>
            have z : D ∈ (fclow w x dx nd t1 t2 t3 t4 rd np nf od G ++ frs).map (·.1) := by
              refine Classical.byContradiction fun q => ?_
              have := hg D o e q
              rw [nD] at this
              cases this
            with_reducible refine hide ?_
            intro GG hGG
            obtain ⟨p, hp, e'⟩ := List.mem_map.mp z
            with_reducible refine hGG ?_
            clear hGG GG
            have := o1 p hp
            rw [show p.1 = D from e'] at this
            exact absurd this (nlt (by walk_at "X ord"))
        · simp
        · rw [List.size_toArray, List.length_append]
          show (kms_pick FN.toArray.toList (some (ii : Int)) none).length + 1 ≤ 1000
          omega
      have hdec' : (fun k => decide (k ∈ sn)) r'.nm = true := by simp [hin']
      have hkv : (valueAt kvs' r'.nm).isSome = false := by
        rw [Bool.eq_false_iff]; exact fun q => hgr ((H.kv _).mp q)
      have hfinm : r'.nm ∈ fin' := ((H.mem _).mp hin').elim id fun z => absurd z hgr
      k_steps
      rename Fr g1 _ _ _ => F5
      rename News g1 _ _ _ => N5
      subst hFNe
      subst hFBe
      with_reducible refine hide ?_
      intro GG hGG
      obtain ⟨F6, N6⟩ := back _ _ _ ((I, oI) :: fcup dA sA iA kA so' dob' e1' e2' fs) F5 N5 (by simp) (by simp) (by simp) (by simp) (fun p hp => .tail _ (.tail _ (.tail _ (.tail _ hp))))
      clear F5 N5 back B1 X1 T1 hdec' hkv
      refine cps_EEEEEEEEAAAAAAA ((⟨fin', fs, sn, so', dob', kvs', e1', e2', H, und.inner hfinm, hroot.elim (fun e => e ▸ hin') id, hfs, Nat.le_refl _, hfin', F6, N6⟩) : ∃ (fin2 : List Str) (fs2 : List Fm) (sn2 : List Str) (so2 dob2 : Obj) (kvs2 : List (Str × Value)) (a1 a2 : Nat), FcAt w G fin2 fs2 sn2 so2 dob2 kvs2 ∧ Inner (succOf G) fin2 fs2 ∧ r.nm ∈ sn2 ∧ (∀ p ∈ fled fs2, I < p.1) ∧ left G sn2 fs2 ≤ left G sn fs ∧ (∀ k ∈ (G.map (·.nm)).take i, k ∈ fin2) ∧ Fr g _ _ _ ∧ News g _ _ ((I, oI) :: fcup dA sA iA kA so2 dob2 a1 a2 fs2 ++ (fclow w x dx nd t1 t2 t3 t4 rd np nf od G ++ fr'))) ?_
      intro fin2 fs2 sn2 so2 dob2 kvs2 a1 a2 H2 inn2 root2 tail2 mu2 take2 F7 N7
      with_reducible refine hGG ?_
      clear hGG GG
      clear F6 N6 H und hfinm
      rotate_left
      have hdec' : (fun k => decide (k ∈ sn)) r'.nm = false := by simp [hin']
      k_steps
      rename Fr g1 _ _ _ => F5
      rename News g1 _ _ _ => N5
      rename Obj.IsDictOf _ _ (stored kvs' _ _) => hdic2
      rename Obj.SetObjOf (PySem.strKind PP w) _ _ _ => hset2
      rename_i soN tkb IA hb lA BA hc tkc lB hd' tkd he dobN tke hF2
      simp only [List.push_toArray] at N5
      have f1 : fbinds (⟨r'.nm, tk₃, IA, BA, r'.sa, 0⟩ :: fs) = FB ++ [.ref BA] := by rw [← hFBe]; simp
      have f2 : fnames (⟨r'.nm, tk₃, IA, BA, r'.sa, 0⟩ :: fs) = FN ++ [.str r'.nm tk₃] := by rw [← hFNe]; simp
      rw [← f1, ← f2] at N5
      have lI : ∀ p ∈ fled fs, p.1 ≠ IA := by k_all
      have lBB : ∀ p ∈ fled fs, p.1 ≠ BA := by k_all
      have oI1 : @LT.lt Nat _ I IA := by omega
      have oI2 : @LT.lt Nat _ IA BA := by omega
      rw [show FN.toArray.size = fs.length from hFN] at hdic2
      have H2 := H.push hr' hin' tk₃ IA BA _ (by omega) (fun p hp => ⟨lI p hp, lBB p hp⟩) (Ne.symm (Nat.ne_of_lt oI2)) (set_app hset2 hin') hdic2
      with_reducible refine hide ?_
      intro GG hGG
      obtain ⟨F6, N6⟩ := back _ _ _ ((I, oI) :: fcup dA sA iA kA soN dobN _ _ (⟨r'.nm, tk₃, IA, BA, r'.sa, 0⟩ :: fs)) F5 N5 (by walk_at "X mem") (by walk_at "X mem") (by walk_at "X mem") (by walk_at "X mem")
        (List.forall_mem_cons.mpr ⟨by walk_at "X mem", List.forall_mem_cons.mpr ⟨by walk_at "X mem", List.forall_mem_cons.mpr ⟨by walk_at "X mem", List.forall_mem_cons.mpr ⟨by walk_at "X mem", List.forall_mem_cons.mpr ⟨by walk_at "X mem", List.forall_mem_cons.mpr ⟨by walk_at "X mem", List.forall_mem_cons.mpr ⟨by walk_at "X mem", fun p hp => by walk_at "X mem"⟩⟩⟩⟩⟩⟩⟩)
      refine cps_EEEEEEEEAAAAAAA ((⟨fin', _, _, _, _, _, _, _, H2, ⟨by simp, und⟩, hroot.elim (fun e => e ▸ by simp) fun z => List.mem_append_left _ z, List.forall_mem_cons.mpr ⟨by show @LT.lt Nat _ I BA; omega, List.forall_mem_cons.mpr ⟨oI1, hfs⟩⟩, left_push hnn hr' hin' _ rfl, hfin', F6, N6⟩) : ∃ (fin2 : List Str) (fs2 : List Fm) (sn2 : List Str) (so2 dob2 : Obj) (kvs2 : List (Str × Value)) (a1 a2 : Nat), FcAt w G fin2 fs2 sn2 so2 dob2 kvs2 ∧ Inner (succOf G) fin2 fs2 ∧ r.nm ∈ sn2 ∧ (∀ p ∈ fled fs2, I < p.1) ∧ left G sn2 fs2 ≤ left G sn fs ∧ (∀ k ∈ (G.map (·.nm)).take i, k ∈ fin2) ∧ Fr g _ _ _ ∧ News g _ _ ((I, oI) :: fcup dA sA iA kA so2 dob2 a1 a2 fs2 ++ (fclow w x dx nd t1 t2 t3 t4 rd np nf od G ++ fr'))) ?_
      intro fin2 fs2 sn2 so2 dob2 kvs2 a1 a2 H2 inn2 root2 tail2 mu2 take2 F7 N7
      with_reducible refine hGG ?_
      clear hGG GG
      clear F5 N5 back B1 X1 T1 hdec' F6 N6 H und lA lB lI lBB oI1 oI2 hset2 hdic2 f1 f2
      all_goals (
        refine ⟨?_⟩
        refine inner_while (n := n) (v := .str r'.nm tk₃) Fs' X T (by omega) (by omega) ap hnn hsz hok ⟨_, _, rfl⟩ hlow hfl' hfa' hq' o2 o3 o4 o5 (fr_congr F7 ?m) N7 H2 inn2 tail2 loD ?e ?i
        case m => 
          intro y
          by_cases q : y = Str.ofString "node" 
          · simp [fcmap, q]
          · simp [fcmap, q]
            ((repeat' (refine ite_tail ?_)); (by_cases q2 : y = Str.ofString "self" <;> first | (simp [List.lookup, q2]; done) | simp [List.lookup, q2, show (y == Str.ofString "self") = false from beq_false_of_ne q2]))
        case e =>
          intro h' tk' fin3 so3 dob3 kvs3 b1 b2 fr3 SU3 F6 N6 H3 take3
          dsimp only
          k_steps
          show Qw _ _
          refine hQw _ _ ?_
          dsimp only
          k_steps
          show Qt _ _
          refine hQt _ _ ?_
          have hq3 : ∀ q ∈ fclow w x dx nd t1 t2 t3 t4 rd np nf od G ++ fr3, q.1 < kA := fun q hq => (List.mem_append.mp hq).elim (fun z => o1 q (List.mem_append_left _ z)) fun z => by
            with_reducible refine hide ?_
            intro GG hGG
            obtain ⟨y, hy, e⟩ := (SU'.trans SU3).fwd q z
            with_reducible refine hGG ?_
            clear hGG GG
            rw [e]; exact o1 y (List.mem_append_right _ hy)
          refine ⟨_, _, _, _, rfl, F6, N6, fun p hp => ?_, fun y h => ?_, fin3, sn2, so3, dob3, kvs3, b1, b2, fr3, SU'.trans SU3, H3, fun k hk => ?_, rfl⟩
          · rcases List.mem_append.mp hp with hp | hp
            · simp only [fcup, fled, List.flatMap_nil, List.mem_cons, List.not_mem_nil, or_false] at hp
              rcases hp with rfl | rfl | rfl | rfl
              · exact Nat.ne_of_lt (by walk_at "X ord")
              · exact Nat.ne_of_lt (by walk_at "X ord")
              · exact Nat.ne_of_lt (by walk_at "X ord")
              · exact Nat.ne_of_lt (by walk_at "X ord")
            · have z : @LT.lt Nat _ p.1 kA := hq3 p hp
              exact Nat.ne_of_lt (by walk_at "X ord")
          · simp [fcmap, h]
            ((repeat' (refine ite_tail ?_)); (by_cases q2 : y = Str.ofString "self" <;> first | (simp [List.lookup, q2]; done) | simp [List.lookup, q2, show (y == Str.ofString "self") = false from beq_false_of_ne q2]))
          · rw [List.take_add_one, List.mem_append] at hk
            rcases hk with hk | hk
            · exact take3 k (take2 k hk)
            · simp [List.getElem?_map, hr] at hk
              exact hk ▸ ((H3.mem _).mp root2).elim id fun z => nomatch z
        case i =>
          intro h' tk' nm2 t2' fin3 fs3 so3 dob3 kvs3 b1 b2 fr3 SU3 F6 N6 hnm3 H3 und3 tail3 mu3 take3
          dsimp only
          k_steps
          show Qw _ _
          refine hQw _ _ ?_
          refine ⟨_, _, _, _, left G sn2 fs3, rfl, F6, N6, Nat.lt_of_lt_of_le mu3 mu2, fun y h => ?_, nm2, t2', fin3, fs3, sn2, so3, dob3, kvs3, b1, b2, fr3, SU'.trans SU3, by simp [fcmap], hnm3, H3, und3, fun k hk => take3 k (take2 k hk), .inr root2, tail3, rfl, rfl⟩
          simp [fcmap, h]
          ((repeat' (refine ite_tail ?_)); (by_cases q2 : y = Str.ofString "self" <;> first | (simp [List.lookup, q2]; done) | simp [List.lookup, q2, show (y == Str.ofString "self") = false from beq_false_of_ne q2])))
  · intro h tk m news hXX
    obtain ⟨hm, fin, sn, so, dob, kvs, e1, e2, fr, SU, H, hfin, rfl⟩ := hXX
    intro F N
    k_steps
    have N8 : News g s.heap.objs.size h (fclow w x dx nd t1 t2 t3 t4 rd np nf od G ++ fr) := fun p hp => N p (List.mem_append_right _ hp)
    have hkeep := ret_keep F N8 hg hsrc
    exact ⟨_, _, _, fr, rfl, rfl, SU, fun p hp => (N8 p (List.mem_append_right _ hp)).1, fun b o e _ q => hkeep b o e q, .inl ⟨rfl, fin, H.ended, fun k hk => hfin k (by rw [List.take_of_length_le (by simp)]; exact hk)⟩⟩
end
end

section
open PyProof.Rows.TI (Frs SameUp)
local macro_rules | `(tactic| walk_at "eval ListComp") => `(tactic| refine stop_here ?_)
local macro_rules | `(tactic| walk_at "exec Assign cons ListComp") => `(tactic| walk_at "Y 10")
theorem news_cons1 {g h : Heap} {L a : Addr} {o : Obj} {news : List (Addr × Obj)} (h1 : h.get? a = some o) (h2 : a ≠ L) (h3 : g.get? a = none) (N : News g L h news) : News g L h ((a, o) :: news) := List.forall_mem_cons.mpr ⟨⟨h1, h2, h3⟩, N⟩
theorem quiet_frame {g h₂ h₃ : Heap} {L C : Addr} {m m₃ : Str → Option Value} {news : List (Addr × Obj)} {wr : List Addr} (F₂ : Fr g L h₂ m) (N₂ : News g L h₂ news) (hC : h₂.objs.size ≤ C) (hns : h₃.Ns C m₃)
    (hk : ∀ b o, b ∉ wr → h₂.get? b = some o → h₃.get? b = some o) (hw : ∀ b ∈ wr, b ≠ L ∧ g.get? b = none ∧ ∀ p ∈ news, p.1 ≠ b) :
    Fr g L h₃ m ∧ ∃ oC, LCg.NsObj oC m₃ ∧ News g L h₃ ((C, oC) :: news) ∧ ∀ p ∈ news, p.1 < C := by
  with_reducible refine hide ?_
  intro GG hGG
  obtain ⟨oC, hoC, nC⟩ := LCg.ns_obj hns
  with_reducible refine hGG ?_
  clear hGG GG
  refine ⟨⟨F₂.ns.at' fun o e => hk _ o (fun q => (hw _ q).1 rfl) e, fun b o e => hk b o (fun q => by rw [(hw _ q).2.1] at e; cases e) (F₂.keep b o e), F₂.above⟩, oC, nC, List.forall_mem_cons.mpr ⟨⟨hoC, fun q => ?_, ?_⟩, fun p hp => ⟨hk _ _ (fun q => (hw _ q).2.2 p hp rfl) (N₂ p hp).1, (N₂ p hp).2⟩⟩, fun p hp => Nat.lt_of_lt_of_le (Heap.lt_size (N₂ p hp).1) hC⟩
  · have q : C = L := q
    subst q
    exact absurd (Nat.lt_of_lt_of_le F₂.ns.lt hC) (Nat.lt_irrefl _)
  · cases e : g.get? C with
    | none => rfl
    | some o => exact absurd (Nat.lt_of_lt_of_le (Heap.lt_size (F₂.keep _ _ e)) hC) (Nat.lt_irrefl _)

theorem quiet_done {g h₂ h' : Heap} {L D : Addr} {m : Str → Option Value} {news : List (Addr × Obj)} {wr : List Addr} {o : Obj} (F₂ : Fr g L h₂ m) (N₂ : News g L h₂ news) (hD : h₂.get? D = none) (hD' : h'.get? D = some o)
    (hk : ∀ b o, b ∉ wr → h₂.get? b = some o → h'.get? b = some o) (hw : ∀ b ∈ wr, b ≠ L ∧ g.get? b = none ∧ ∀ p ∈ news, p.1 ≠ b) :
    Fr g L h' m ∧ News g L h' ((D, o) :: news) ∧ ∀ p ∈ news, p.1 ≠ D := by
  refine ⟨⟨F₂.ns.at' fun o e => hk _ o (fun q => (hw _ q).1 rfl) e, fun b o e => hk b o (fun q => by rw [(hw _ q).2.1] at e; cases e) (F₂.keep b o e), F₂.above⟩, List.forall_mem_cons.mpr ⟨⟨hD', fun q => ?_, ?_⟩, fun p hp => ⟨hk _ _ (fun q => (hw _ q).2.2 p hp rfl) (N₂ p hp).1, (N₂ p hp).2⟩⟩, fun p hp q => ?_⟩
  · refine cps_EEEA (F₂.ns) ?_
    intro oL _ _ hL _
    have q : D = L := q
    rw [q, hL] at hD; cases hD
  · cases e : g.get? D with
    | none => rfl
    | some o => have := F₂.keep _ _ e; rw [hD] at this; cases this
  · have := (N₂ p hp).1; rw [q, hD] at this; cases this
theorem ia_inj {x dx nd : Addr} {G : List Nd} (ap : (feet x dx nd G).Nodup) {q r : Nd} (hq : q ∈ G) (hr : r ∈ G) (e : q.ia = r.ia) : q = r := by
  with_reducible refine hide ?_
  intro GG hGG
  obtain ⟨pre, post, rfl⟩ := List.append_of_mem hr
  refine cps_AAAA (apart_facts ap) ?_
  intro _ _ _ h4 _
  with_reducible refine hGG ?_
  clear hGG GG
  rcases List.mem_append.mp hq with h | h
  · exact absurd e (h4 _ (List.mem_append_left _ (led_mem h).1))
  · rcases List.mem_cons.mp h with h | h
    · exact h
    · exact absurd e (h4 _ (List.mem_append_right _ (led_mem h).1))
theorem any_self {x dx nd : Addr} {G : List Nd} (ap : (feet x dx nd G).Nodup) {r : Nd} (hr : r ∈ G) : (G.any fun q => decide (Value.ref r.ia = Value.ref q.ia) && (q.np == 0)) = (r.np == 0) := by
  cases h : (r.np == 0) with
  | true => exact List.any_eq_true.mpr ⟨r, hr, by simp [h]⟩
  | false =>
    refine Bool.eq_false_iff.mpr fun z => ?_
    with_reducible refine hide ?_
    intro GG hGG
    obtain ⟨q, hq, e⟩ := List.any_eq_true.mp z
    with_reducible refine hGG ?_
    clear hGG GG
    simp only [Value.ref.injEq, Bool.and_eq_true, decide_eq_true_eq] at e
    rw [ia_inj ap hq hr e.1.symm] at e
    rw [h] at e; cases e.2
noncomputable def zeros (G : List Nd) : List Str := (G.filter fun r => r.np == 0).map (·.nm)
theorem paired_zeros {x dx nd : Addr} {G : List Nd} (ap : (feet x dx nd G).Nodup) : ∀ {G' : List Nd} {ys : List Value}, (∀ r ∈ G', r ∈ G) →
    Paired (fun v y => ∃ r ∈ G, v = Value.ref r.ia ∧ y = Value.str r.nm r.it) ((G'.map fun r => Value.ref r.ia).filter fun v => G.any fun q => decide (v = Value.ref q.ia) && (q.np == 0)) ys → StrsAre ys (zeros G')
  | [], ys, _, h => by cases h; exact .nil
  | r :: G', ys, hs, h => by
    have hr := hs r (.head _)
    have hs' : ∀ r ∈ G', r ∈ G := fun q hq => hs q (.tail _ hq)
    rw [List.map_cons, List.filter_cons, any_self ap hr] at h
    unfold zeros
    rw [List.filter_cons]
    cases e : (r.np == 0) with
    | true =>
      rw [e, if_pos rfl] at h
      rw [if_pos rfl]
      cases h with
      | cons h1 h2 =>
        refine cps_EAA h1 ?_
        rintro q hq e1 rfl
        clear h1
        rw [ia_inj ap hr hq (Value.ref.inj e1)]
        exact .cons _ _ (paired_zeros ap hs' h2)
    | false =>
      rw [e, if_neg Bool.false_ne_true] at h
      rw [if_neg Bool.false_ne_true]
      exact paired_zeros ap hs' h
theorem vals_are {G : List Nd} {vs : List Value} (hlen : vs.length = (G.map fun r => (r.nm, Value.ref r.ia)).length) (hP : ∀ (j : Nat) (v : Value), vs[j]? = some v → ∃ k, (G.map fun r => (r.nm, Value.ref r.ia))[j]? = some (k, v)) : vs = G.map fun r => Value.ref r.ia := by
  refine List.ext_getElem? fun j => ?_
  cases e : vs[j]? with
  | none =>
    have := List.getElem?_eq_none_iff.mp e
    rw [eq_comm, List.getElem?_eq_none_iff, List.length_map]
    rw [hlen, List.length_map] at this; exact this
  | some v =>
    obtain ⟨k, hk⟩ := hP j v e
    rw [List.getElem?_map] at hk ⊢
    cases e2 : G[j]? with
    | none => rw [e2] at hk; cases hk
    | some r => rw [e2] at hk; cases hk; rfl
theorem news_apart {g h : Heap} {L : Addr} {news frs : List (Addr × Obj)} (N : News g L h news) (hfr : ∀ p ∈ frs, g.get? p.1 = some p.2) : ∀ p ∈ news, p.1 ∉ frs.map (·.1) := fun p hp q => by
  with_reducible refine hide ?_
  intro GG hGG
  obtain ⟨y, hy, e⟩ := List.mem_map.mp q
  with_reducible refine hGG ?_
  clear hGG GG
  have e : y.1 = p.1 := e
  have := hfr y hy
  rw [e, (N p hp).2.2] at this; cases this
noncomputable def PrepOk (w : World) (s : Shared) (x dx nd : Addr) (G : List Nd) (np nf : Value) (h : Heap) : Prop :=
  ∃ rl vs ep, Sor w h x dx nd G (.ref rl) np nf ∧ h.get? rl = some (W.listOf vs ep) ∧ StrsAre vs.toList (zeros G) ∧ s.heap.get? rl = none
theorem prep_keep {w : World} {g h h' : Heap} {x dx nd : Addr} {t1 t2 t3 t4 : Tok} {rd np nf : Value} {od : Obj} {G : List Nd} {frs : List (Addr × Obj)} (F : g.StaysIn h')
    (hnew : ∀ p ∈ (x, instObj 171 dx) :: (nd, od) :: led G, h'.get? p.1 = some p.2)
    (hg : ∀ b o, h.get? b = some o → b ∉ (fclow w x dx nd t1 t2 t3 t4 rd np nf od G ++ frs).map (·.1) → g.get? b = some o) (hsrc : ∀ p ∈ fclow w x dx nd t1 t2 t3 t4 rd np nf od G, h.get? p.1 = some p.2) :
    ∀ b o, h.get? b = some o → b ∉ [dx] → b ∉ frs.map (·.1) → h'.get? b = some o := fun b o e h1 h2 => by
  by_cases hl : b ∈ (fclow w x dx nd t1 t2 t3 t4 rd np nf od G).map (·.1)
  · with_reducible refine hide ?_
    intro GG hGG
    obtain ⟨p, hp, rfl⟩ := List.mem_map.mp hl
    with_reducible refine hGG ?_
    clear hGG GG
    rw [hsrc p hp] at e
    rw [← e]
    refine hnew p ?_
    simp only [fclow, List.mem_cons] at hp ⊢
    rcases hp with rfl | rfl | rfl | hp
    · exact .inl rfl
    · exact absurd (List.mem_singleton.mpr rfl) h1
    · exact .inr (.inl rfl)
    · exact .inr (.inr hp)
  · exact F _ _ (hg b o e (by rw [List.map_append, List.mem_append]; exact fun z => z.elim hl h2))
theorem frs_none {B h : Heap} : ∀ {l : List Env} {frs : List (Addr × Obj)}, Frs l frs → h.FunFrames B l → ∀ p ∈ frs, B.get? p.1 = none
  | [], [], _, _, _, hp => nomatch hp
  | env :: l, p :: frs, ⟨_, h2, _, h4⟩, ⟨_, ⟨L, o, hf, hn, _⟩, hr⟩, q, hq => by
    rcases List.mem_cons.mp hq with rfl | hq
    · rw [h2] at hf; cases hf; exact hn
    · exact frs_none h4 hr q hq
  | [], _ :: _, h, _, _, _ => h.elim
  | _ :: _, [], h, _, _, _ => h.elim
theorem frs_up {g h' : Heap} {l : List Env} {frs : List (Addr × Obj)} (Fs : Frs l frs) (hg : ∀ p ∈ frs, g.get? p.1 = some p.2) (U : g.UpToSlots h') : ∃ frs', SameUp frs frs' ∧ ∀ p ∈ frs', h'.get? p.1 = some p.2 :=
  TI.sameUp_of fun p hp => U _ _ (hg p hp) fun vs q => by
    with_reducible refine hide ?_
    intro GG hGG
    obtain ⟨es, ep, e⟩ := Fs.dict p hp
    with_reducible refine hGG ?_
    clear hGG GG
    rw [e] at q; cases q
noncomputable def RetE (s : Shared) (foot : List Addr) (outer : List Env) (frs : List (Addr × Obj)) (P : Value → Heap → Prop) (PE : Heap → Prop) (r : Result) (s' : Shared) : Prop :=
  RetS s foot frs P r s' ∨ ∃ e a0 h' tk frs' B, r = .error (.ref e) ∧ s' = { s with heap := h', toks := tk } ∧ SameUp frs frs' ∧ (∀ p ∈ frs', h'.get? p.1 = some p.2) ∧ Heap.FlyingW B outer e (.ref 89) a0 h' ∧
    (∀ b o, s.heap.get? b = some o → b ∉ foot → b ∉ frs.map (·.1) → B.get? b = some o) ∧ (∀ p ∈ frs, B.get? p.1 = none) ∧ PE B

theorem use_callE {w : World} (n : Nat) {d u : Nat} {outer : List Env} {g : Heap} {s : Shared} {L a : Addr} {m : Str → Option Value} {name : Str} {scope : Scope} {cd : Value} {news frs : List (Addr × Obj)}
    {loose : List Str} {mean : ExcName → Option Value} {mg mb : Str → Option Value} {f : Value} {args : List Value} {foot : List Addr} {P : Value → Heap → Prop} {PE : Heap → Prop} {Q : Value → Shared → Prop} {E : Value → Shared → Prop}
    (F : Fr g L s.heap m) (Fs : Frs outer frs) (N : News g L s.heap (news ++ frs)) (X : (hd.heap_39 w.params).In g) (T : Top hd.view_39 loose mean mg mb g)
    (hd' : d + 1 + n ≤ 900 ∧ u + 3 + 20 * n ≤ 9000)
    (sp : ∀ b A' oL, CxS w n A' b s.heap (envOf name scope L a cd :: outer) ((L, oL) :: frs) → b.StaysIn s.heap → (∀ p ∈ news, b.get? p.1 = none) →
      codeAny (model PP w) A' (.call f ⟨args, []⟩) (RetE s foot (envOf name scope L a cd :: outer) ((L, oL) :: frs) P PE) s)
    (hf : ∀ y ∈ foot, y ≠ L ∧ g.get? y = none)
    (h : ∀ v h' tk frs', SameUp frs frs' → Frs outer frs' → Fr g L h' m → News g L h' frs' → (∀ b o, s.heap.get? b = some o → b ∉ foot → b ≠ L → b ∉ frs.map (·.1) → h'.get? b = some o) → P v h' → Q v { s with heap := h', toks := tk })
    (he : ∀ e a0 h' tk frs' B, SameUp frs frs' → Frs outer frs' → h'.Ns L m → (∀ p ∈ frs', h'.get? p.1 = some p.2) → Heap.FlyingW B (envOf name scope L a cd :: outer) e (.ref 89) a0 h' →
      (∀ b o, s.heap.get? b = some o → b ∉ foot → b ≠ L → b ∉ frs.map (·.1) → B.get? b = some o) → B.get? L = none → (∀ p ∈ frs, B.get? p.1 = none) → g.StaysIn B → PE B → E (.ref e) { s with heap := h', toks := tk }) (hk : scope.kind = .function) :
    wpAny (model PP w) ((mkA d u outer).deeper (envOf name scope L a cd)) (call f args) Q E s := by
  refine cps_EEEAAA (F.ns) ?_
  intro oL es ep hL hLd hLk hLf
  have nm : ∀ b o, g.get? b = some o → b ∉ L :: (news ++ frs).map (fun p : Addr × Obj => p.1) := fun b o e q => by
    rcases List.mem_cons.mp q with rfl | q
    · exact absurd (Nat.lt_of_lt_of_le (Heap.lt_size e) F.above) (Nat.lt_irrefl _)
    · with_reducible refine hide ?_
      intro GG hGG
      obtain ⟨p, hp, rfl⟩ := List.mem_map.mp q
      with_reducible refine hGG ?_
      clear hGG GG
      rw [(N p hp).2.2] at e; cases e
  have st : g.StaysIn (hideAll s.heap (L :: (news ++ frs).map (fun p : Addr × Obj => p.1))) := fun b o e => hideAll_get _ (F.keep b o e) (nm b o e)
  have hid : ∀ p ∈ news ++ frs, (hideAll s.heap (L :: (news ++ frs).map (fun p : Addr × Obj => p.1))).get? p.1 = none := fun p hp => hideAll_none _ (List.mem_cons_of_mem _ (List.mem_map_of_mem hp))
  have hkd : (envOf name scope L a cd).scope.kind ≠ .module := by
    show scope.kind ≠ .module
    rw [hk]; decide
  have C : CxS w n ((mkA d u outer).deeper (envOf name scope L a cd)) (hideAll s.heap (L :: (news ++ frs).map (fun p : Addr × Obj => p.1))) s.heap (envOf name scope L a cd :: outer) ((L, oL) :: frs) :=
    ⟨rfl, ⟨hkd, rfl, ⟨es, ep, hLd⟩, Fs⟩, List.forall_mem_cons.mpr ⟨⟨hL, hideAll_none _ List.mem_cons_self⟩, fun p hp => ⟨(N p (List.mem_append_right _ hp)).1, hid p (List.mem_append_right _ hp)⟩⟩, rfl, rfl, hd'.1, hd'.2, X.keeps st, loose, mean, mg, mb, T.keeps st⟩
  have gkeep : ∀ {h' : Heap}, (∀ b o, s.heap.get? b = some o → b ∉ foot → b ≠ L → b ∉ frs.map (·.1) → h'.get? b = some o) → g.StaysIn h' := fun kk b o e => kk b o (F.keep b o e) (fun q => by rw [(hf _ q).2] at e; cases e) (fun q => nm b o e (q ▸ .head _)) (fun q => nm b o e (.tail _ (by
    with_reducible refine hide ?_
    intro GG hGG
    obtain ⟨p, hp, rfl⟩ := List.mem_map.mp q
    with_reducible refine hGG ?_
    clear hGG GG
    exact List.mem_map_of_mem (f := fun p : Addr × Obj => p.1) (List.mem_append_right _ hp))))
  refine wpAny_call (codeAny_mono (sp _ _ oL C (fun x o e => of_hideAll _ e) fun p hp => hid p (List.mem_append_left _ hp)) fun r s' z => ?_)
  rcases z with ⟨v, h', tk, frs', rfl, rfl, SU, ht, k, hP⟩ | ⟨e, a0, h', tk, frs', B, rfl, rfl, SU, ht, hfl, k, hB, hP⟩
  · cases frs' with
    | nil => exact False.elim SU
    | cons q qs =>
      with_reducible refine hide ?_
      intro GG hGG
      obtain ⟨e1, ⟨sl, e2⟩, SU⟩ := SU
      obtain ⟨q1, q2⟩ := q
      with_reducible refine hGG ?_
      clear hGG GG
      have e1 : L = q1 := e1.symm
      have e2 : q2 = { oL with slots := sl } := e2
      subst e1
      subst e2
      have kk : ∀ b o, s.heap.get? b = some o → b ∉ foot → b ≠ L → b ∉ frs.map (·.1) → h'.get? b = some o := fun b o e h1 h2 h3 => k b o e h1 (fun q => (List.mem_cons.mp q).elim h2 h3)
      refine h v h' tk qs SU (Fs.up SU) ⟨⟨_, es, ep, ht _ (.head _), hLd, hLk, hLf⟩, gkeep kk, F.above⟩ (fun p hp => ?_) kk hP
      with_reducible refine hide ?_
      intro GG hGG
      obtain ⟨x, hx, ex⟩ := SU.fwd p hp
      with_reducible refine hGG ?_
      clear hGG GG
      rw [ex]
      refine ⟨?_, (N x (List.mem_append_right _ hx)).2⟩
      rw [← ex]; exact ht p (.tail _ hp)
  · cases frs' with
    | nil => exact False.elim SU
    | cons q qs =>
      with_reducible refine hide ?_
      intro GG hGG
      obtain ⟨e1, ⟨sl, e2⟩, SU⟩ := SU
      obtain ⟨q1, q2⟩ := q
      with_reducible refine hGG ?_
      clear hGG GG
      have e1 : L = q1 := e1.symm
      have e2 : q2 = { oL with slots := sl } := e2
      subst e1
      subst e2
      have kk : ∀ b o, s.heap.get? b = some o → b ∉ foot → b ≠ L → b ∉ frs.map (·.1) → B.get? b = some o := fun b o e h1 h2 h3 => k b o e h1 (fun q => (List.mem_cons.mp q).elim h2 h3)
      exact he e a0 h' tk qs B SU (Fs.up SU) ⟨_, es, ep, ht _ (.head _), hLd, hLk, hLf⟩ (fun p hp => ht p (.tail _ hp)) hfl kk (hB _ (.head _)) (fun p hp => hB p (.tail _ hp)) (gkeep kk) hP
theorem feet_lt {w : World} {x dx nd : Addr} {t1 t2 t3 t4 : Tok} {rd np nf : Value} {od : Obj} {G : List Nd} {k : Nat} (h : ∀ p ∈ fclow w x dx nd t1 t2 t3 t4 rd np nf od G, p.1 < k) : ∀ a ∈ feet x dx nd G, a < k := fun a ha => by
  rw [← fclow_addr (w := w) (t1 := t1) (t2 := t2) (t3 := t3) (t4 := t4) (rd := rd) (np := np) (nf := nf) (od := od)] at ha
  with_reducible refine hide ?_
  intro GG hGG
  obtain ⟨p, hp, rfl⟩ := List.mem_map.mp ha
  with_reducible refine hGG ?_
  clear hGG GG
  exact h p hp
set_option maxHeartbeats 8000000 in
theorem prep_spec {w : World} {A : Around} {b : Heap} {s : Shared} {n : Nat} {x dx nd : Addr} {G : List Nd} {np nf : Value} {outer : List Env} {frs : List (Addr × Obj)}
   (C : CxS w (n + 20) A b s.heap outer frs) (kb : b.StaysIn s.heap) (S : Sor w s.heap x dx nd G .none np nf) (off : ∀ a ∈ feet x dx nd G, b.get? a = none) (lo : (nd == sysModules) = false)
   (hnn : (G.map (·.nm)).Nodup) (hsz : G.length ≤ 90) (hok : SuOk G) (hfa₀ : ∀ p ∈ frs, p.1 ∉ feet x dx nd G) :
   codeAny (model PP w) A (.call (.ref 126) ⟨[.ref x], []⟩) (RetE s [dx] outer frs (fun v h' => v = .none ∧ PrepOk w s x dx nd G np nf h' ∧ ∃ fin, Ended (succOf G) fin ∧ ∀ k ∈ G.map (·.nm), k ∈ fin) (fun h' => PrepOk w s x dx nd G np nf h' ∧ Ring (succOf G))) s := by
  with_reducible refine hide ?_
  intro GG hGG
  refine cps_AAA (S.ne) ?_
  intro d1 d2 d3 da
  refine cps_EEEE (S.dict) ?_
  intro t1 t2 t3 t4 hdict
  obtain ⟨od, hod, hD⟩ := S.map
  with_reducible refine hGG ?_
  clear hGG GG
  have hled := S.led
  have ap := S.apart
  have Fs₀ := C.fr
  have hfr₀ := C.at_
  have hadr : ∀ p ∈ led G, p.1 ∈ addrs G := fun p hp => led_addrs G ▸ List.mem_map_of_mem (f := (·.1)) hp
  have hn : ∀ p ∈ fclow w x dx nd t1 t2 t3 t4 .none np nf od G, s.heap.get? p.1 = some p.2 ∧ b.get? p.1 = none := by
    refine List.forall_mem_cons.mpr ⟨⟨S.self, off _ (.head _)⟩, List.forall_mem_cons.mpr ⟨⟨hdict, off _ (.tail _ (.head _))⟩, List.forall_mem_cons.mpr ⟨⟨hod, off _ (.tail _ (.tail _ (.head _)))⟩, fun p hp => ⟨hled p hp, off _ (.tail _ (.tail _ (.tail _ (hadr p hp))))⟩⟩⟩⟩
  walk_at "M enterSE"
  intro g h₁ d u loose mean mg mb eA F N X T bg hd hu hg gs ll kh
  subst eA
  dsimp only
  have hlow : ∀ p ∈ fclow w x dx nd t1 t2 t3 t4 .none np nf od G, p.1 < s.heap.objs.size := fun p hp => ll p (List.mem_append_left _ hp)
  have hfl₀ : ∀ p ∈ frs, p.1 < s.heap.objs.size := fun p hp => ll p (List.mem_append_right _ hp)
  have hap : ∀ p ∈ frs, p.1 ∉ (fclow w x dx nd t1 t2 t3 t4 .none np nf od G).map (·.1) := fun p hp => by rw [fclow_addr]; exact hfa₀ p hp
  refine cps_EAAAAAAAA (rebaseS d u F Fs₀ (fun p hp => N p (List.mem_append_right _ hp)) hfl₀ X T (fclow w x dx nd t1 t2 t3 t4 .none np nf od G) (fun p hp => N p (List.mem_append_left _ hp)) hap) ?_
  intro g1 F1 N1 k1 K1 K2 hfr1 B1 X1 T1
  have hfrN : Stop (News g s.heap.objs.size h₁ frs) := ⟨fun p hp => N p (List.mem_append_right _ hp)⟩
  have hFg := Stop.mk F
  have hsrc : ∀ p ∈ fclow w x dx nd t1 t2 t3 t4 .none np nf od G, s.heap.get? p.1 = some p.2 := fun p hp => (hn p hp).1
  clear hn hfr₀ C N F hadr
  dsimp only [fclow] at N1
  show wpAny _ _ _ _ _ _
  k_fold
  k_steps
  refine ⟨?_⟩
  refine wpAny_ListComp_free (cl := []) (fun v => G.any fun q => decide (v = Value.ref q.ia) && (q.np == 0)) (fun v y => ∃ r ∈ G, v = Value.ref r.ia ∧ y = Value.str r.nm r.it) (by with_unfolding_all rfl) (by decide) (by rfl) (by decide) (by decide) ?_
  k_steps
  rename Fr g1 _ _ _ => F2
  rename News g1 _ _ _ => N2
  rename_i Dv hv lv
  obtain ⟨ep, hat⟩ := (kda_dict (s := { s with heap := hv }) N2 (.tail _ (.tail _ (.tail _ (.head _)))) hD).dictAt
  refine wpAny_pyIter_values (knd := PySem.strKind PP w) ⟨_, (N2 _ (.head _)).1, rfl, rfl⟩ hat ?_
  have hndl := Heap.lt_size (N2 (nd, od) (.tail _ (.tail _ (.tail _ (.head _))))).1
  have hwr : ∀ b ∈ [hv.objs.size], b ≠ s.heap.objs.size ∧ g1.get? b = none ∧ ∀ p ∈ (Dv, ({ cls := Value.type "dict_values", data := Data.fields #[Value.ref nd] } : Obj)) :: (x, instObj 171 dx) :: (dx, dictOf (sdict w.params t1 t2 t3 t4 (.ref nd) .none np nf) 4) :: (nd, od) :: led G, p.1 ≠ b := fun b hb => by
    rw [List.mem_singleton.mp hb]
    exact ⟨(fr_push1 F2).1, (fr_push1 F2).2, fun p hp => Nat.ne_of_lt (Heap.lt_size (N2 p hp).1)⟩
  have up : ∀ b o, hv.get? b = some o → (hv.push { cls := .type "dict_valueiterator", data := .fields #[.ref nd, .int 0 0, .int (G.map fun r => (r.nm, Value.ref r.ia)).length 0, .int ep 0] }).get? b = some o := fun b o e => Heap.get?_push_of_some _ e
  have F3 := F2.kept up
  have N3 := N2.grown up
  refine ⟨_, _, _, _, _, _, rfl, Walks.dictValues (knd := PySem.strKind PP w) rfl hv.objs.size nd (Nat.ne_of_lt hndl) (G.map fun r => (r.nm, Value.ref r.ia)) ep, by rw [List.length_map, sizeLine_eq]; omega, ⟨⟨_, Heap.get?_push_size _ rfl, rfl, rfl⟩, hat.at' fun o e => up _ o e⟩, ?_, ⟨?_, ?_⟩, ?_⟩
  · intro b hb
    simp only [List.mem_cons, List.not_mem_nil, or_false] at hb
    rcases hb with rfl | rfl
    · rw [Heap.size_push]; exact Nat.lt_succ_self _
    · rw [Heap.size_push]; exact Nat.lt_succ_of_lt hndl
  · rintro C i v ⟨h3, gg, dd, tk3, os⟩ m₃ E' hC ⟨k, hP⟩ hns hm hk htk
    with_reducible refine hide ?_
    intro GG hGG
    refine cps_EAA ((by
      rw [List.getElem?_map] at hP
      cases e : G[i]? with
      | none => rw [e] at hP; cases hP
      | some r => rw [e] at hP; cases hP; exact ⟨r, List.mem_of_getElem? e, rfl, rfl⟩) : ∃ r ∈ G, r.nm = k ∧ v = .ref r.ia) ?_
    intro r hr rfl rfl
    obtain ⟨pre, post, rfl⟩ := List.append_of_mem hr
    refine cps_AEAA (quiet_frame F3 N3 hC hns hk hwr) ?_
    intro F4 oC nC N4 hCl
    with_reducible refine hGG ?_
    clear hGG GG
    have N5 := news_split (ex := [_, _, _, _, _]) N4
    simp only [List.cons_append, List.nil_append] at N5
    dsimp only [infoObj, succObj] at N5
    clear N4 N3 F3 N2 F2 F1 N1 hwr
    refine wpAny_tests_one ?_
    k_steps
    all_goals first | exact (any_self ap hr).symm | exact ⟨_, _, rfl, fun _ _ e => e⟩
  · rintro C i v ⟨h3, gg, dd, tk3, os⟩ m₃ E' hC ⟨k, hP⟩ - hns hm hk htk
    with_reducible refine hide ?_
    intro GG hGG
    refine cps_EAA ((by
      rw [List.getElem?_map] at hP
      cases e : G[i]? with
      | none => rw [e] at hP; cases hP
      | some r => rw [e] at hP; cases hP; exact ⟨r, List.mem_of_getElem? e, rfl, rfl⟩) : ∃ r ∈ G, r.nm = k ∧ v = .ref r.ia) ?_
    intro r hr rfl rfl
    obtain ⟨pre, post, rfl⟩ := List.append_of_mem hr
    refine cps_AEAA (quiet_frame F3 N3 hC hns hk hwr) ?_
    intro F4 oC nC N4 hCl
    with_reducible refine hGG ?_
    clear hGG GG
    have N5 := news_split (ex := [_, _, _, _, _]) N4
    simp only [List.cons_append, List.nil_append] at N5
    dsimp only [infoObj, succObj] at N5
    clear N4 N3 F3 N2 F2 F1 N1 hwr
    k_steps
    all_goals first | exact hr | exact ⟨_, _, rfl, fun _ _ e => e⟩
  · intro D h' tk ys vs hDn hIL hPL hlen hP hF hk
    with_reducible refine hide ?_
    intro GG hGG
    obtain ⟨nn, hDl⟩ := hPL
    obtain ⟨F5, N5, hoD⟩ := quiet_done F3 N3 hDn hDl hk hwr
    with_reducible refine hGG ?_
    clear hGG GG
    have hvs := vals_are hlen hP
    subst hvs
    have hstr := paired_zeros ap (fun _ h => h) hF
    clear F3 N3 F2 N2 F1 N1 hwr hlen hP hF hk hIL hat
    have l1 : ∀ p ∈ led G, p.1 ≠ D := fun p hp => hoD p (by walk_at "X mem")
    have l2 : ∀ p ∈ led G, p.1 ≠ dx := fun p hp q => (da _ (led_addrs G ▸ List.mem_map_of_mem (f := (·.1)) hp)).2.1 q.symm
    have i1 : @Ne Nat Dv D := hoD _ (.head _)
    have i2 : @Ne Nat x D := hoD _ (.tail _ (.head _))
    have i3 : @Ne Nat dx D := hoD _ (.tail _ (.tail _ (.head _)))
    have i4 : @Ne Nat nd D := hoD _ (.tail _ (.tail _ (.tail _ (.head _))))
    k_steps
    refine ⟨?_⟩
    rename Fr g1 _ _ _ => F6
    rename News g1 _ _ _ => N6
    have S6 := Sor.all (N6 _ (.tail _ (.tail _ (.head _)))).1 (N6 _ (.tail _ (.tail _ (.tail _ (.head _))))).1 (N6 _ (.tail _ (.tail _ (.tail _ (.tail _ (.head _)))))).1 hD (fun p hp => (N6 p (by walk_at "X mem")).1) ap
    obtain ⟨F7, N7⟩ := back_down hFg.go k1 F6 N6 hfrN.go hfr1
    have hap7 := news_apart N6 hfr1
    have hDs : s.heap.get? D = none := by
      cases e : s.heap.get? D with
      | none => rfl
      | some o =>
        refine absurd (hg D o e fun q => ?_) (by rw [(N7 _ (.head _)).2.2]; exact fun z => nomatch z)
        rw [List.map_append, List.mem_append] at q
        rcases q with q | q
        · simp only [fclow, List.map_cons, List.mem_cons] at q
          rcases q with q | q | q | q
          · exact i2 q.symm
          · exact i3 q.symm
          · exact i4 q.symm
          · with_reducible refine hide ?_
            intro GG hGG
            obtain ⟨p, hp, e'⟩ := List.mem_map.mp q
            with_reducible refine hGG ?_
            clear hGG GG
            exact l1 p hp e'
        · exact hap7 _ (.head _) q
    clear F6 N6
    refine use_callE (n + 10) (PE := fun _ => False) F7 Fs₀ N7 X T ⟨by omega, by omega⟩ (fun b' A' oL C1 k1 n1 => codeAny_mono (fc_spec C1 k1 S6 (fun a ha => ?_) lo hnn hsz hok ?_) fun r s' z => .inl z) (fun _ h => nomatch h) ?_ (fun _ _ _ _ _ _ _ _ _ _ _ _ _ _ _ z => z.elim) rfl
    · have ha' : a ∈ (fclow w x dx nd t1 t2 t3 t4 .none np nf od G).map (·.1) := by rw [fclow_addr]; exact ha
      simp only [fclow, List.map_cons, List.mem_cons] at ha'
      rcases ha' with rfl | rfl | rfl | ha'
      · exact n1 _ (.tail _ (.tail _ (.head _)))
      · exact n1 _ (.tail _ (.tail _ (.tail _ (.head _))))
      · exact n1 _ (.tail _ (.tail _ (.tail _ (.tail _ (.head _)))))
      · with_reducible refine hide ?_
        intro GG hGG
        obtain ⟨p, hp, rfl⟩ := List.mem_map.mp ha'
        with_reducible refine hGG ?_
        clear hGG GG
        exact n1 p (.tail _ (.tail _ (.tail _ (.tail _ (.tail _ hp)))))
    · exact List.forall_mem_cons.mpr ⟨fun q => Nat.lt_irrefl _ (feet_lt hlow _ q), hfa₀⟩
    · intro v h7 tk7 fr7 SU7 Fs7 F8 N8 K8 hv
      have N9 : News g s.heap.objs.size h7 ((D, ({ cls := Value.type "list", data := Data.seq ys nn } : Obj)) :: (Dv, ({ cls := Value.type "dict_values", data := Data.fields #[Value.ref nd] } : Obj)) :: fclow w x dx nd t1 t2 t3 t4 (.ref D) np nf od G) := fun p hp => by
        have z := N7 p (List.mem_append_left _ hp)
        exact ⟨K8 _ _ z.1 (fun h => nomatch h) z.2.1 (hap7 p hp), z.2⟩
      have hfl7 : ∀ p ∈ fr7, p.1 < s.heap.objs.size := fun p hp => by
        with_reducible refine hide ?_
        intro GG hGG
        obtain ⟨q, hq, e⟩ := SU7.fwd p hp
        with_reducible refine hGG ?_
        clear hGG GG
        rw [e]; exact hfl₀ q hq
      have hm7 := sameUp_map SU7
      rcases hv with ⟨rfl, fin, hfin, hall⟩ | ⟨c, items, ce, rfl, hcn, hc, hc0, hcz, hring⟩
      · with_reducible refine hide ?_
        intro GG hGG
        refine cps_EAAAAAAAA (rebaseS d u F8 Fs7 N8 hfl7 X T _ N9 (fun p hp q => by
          obtain ⟨y, hy, e⟩ := List.mem_map.mp q
          refine hap7 y hy ?_
          rw [← hm7]
          have e : y.1 = p.1 := e
          rw [e]
          exact List.mem_map_of_mem (f := (·.1)) hp)) ?_
        intro g2 F10 N10 k2 K12 K22 hfr2 B2 X2 T2
        with_reducible refine hGG ?_
        clear hGG GG
        have hF8 := Stop.mk F8
        have hN8 := Stop.mk N8
        clear F8 N8 N9 F7 N7 B1 X1 T1
        k_steps
        rename Fr g2 _ _ _ => F11
        rename News g2 _ _ _ => N11
        obtain ⟨F12, N12⟩ := back_down hF8.go k2 F11 N11 hN8.go hfr2
        have G12 := fun p hp => (N12 p (List.mem_append_left _ (.tail _ (.tail _ hp)))).1
        refine .inl ⟨_, _, _, fr7, rfl, rfl, SU7, fun p hp => (N12 p (List.mem_append_right _ hp)).1, prep_keep F12.keep (List.forall_mem_cons.mpr ⟨G12 _ (.head _), List.forall_mem_cons.mpr ⟨G12 _ (.tail _ (.tail _ (.head _))), fun p hp => G12 p (.tail _ (.tail _ (.tail _ hp)))⟩⟩) hg hsrc, rfl,
          ⟨D, ys, nn, Sor.all (G12 _ (.head _)) (G12 _ (.tail _ (.head _))) (G12 _ (.tail _ (.tail _ (.head _)))) hD (fun p hp => G12 p (.tail _ (.tail _ (.tail _ hp)))) ap, (N12 _ (.head _)).1, hstr, hDs⟩, fin, hfin, hall⟩
      · have hcL : c ≠ s.heap.objs.size := fun q => by
          with_reducible refine hide ?_
          intro GG hGG
          obtain ⟨oL, _, _, hL, _⟩ := F7.ns
          with_reducible refine hGG ?_
          clear hGG GG
          rw [q] at hcn; rw [hL] at hcn; cases hcn
        have hcg : g.get? c = none := by
          cases e : g.get? c with
          | none => rfl
          | some o => have := F7.keep _ _ e; rw [hcn] at this; cases this
        have N9c := news_cons1 hc hcL hcg N9
        have hcz' : (items.size : Int) < 2 ^ 63 := by omega
        with_reducible refine hide ?_
        intro GG hGG
        obtain ⟨g2, F10, N10, k2, K12, K22, hfr2, B2, X2, T2⟩ := rebaseS d u F8 Fs7 N8 hfl7 X T _ N9c (fun p hp q => by
          have hp' : p.1 ∈ frs.map (·.1) := by rw [← hm7]; exact List.mem_map_of_mem (f := (·.1)) hp
          rcases List.mem_cons.mp q with q | q
          · obtain ⟨y, hy, e⟩ := List.mem_map.mp hp'
            have e : y.1 = p.1 := e
            have := (N7 y (List.mem_append_right _ hy)).1
            rw [e, q, hcn] at this; cases this
          · obtain ⟨y, hy, e⟩ := List.mem_map.mp q
            have e : y.1 = p.1 := e
            exact hap7 y hy (by rw [e]; exact hp'))
        with_reducible refine hGG ?_
        clear hGG GG
        have hF8 := Stop.mk F8
        have hN8 := Stop.mk N8
        have hne : items.isEmpty = false := by
          rw [Array.isEmpty_eq_false_iff]; intro q; rw [q] at hc0; exact absurd hc0 (by decide)
        clear F8 N8 N9 N9c F7 N7 B1 X1 T1
        k_steps
        rename Fr g2 _ _ _ => F11
        rename News g2 _ _ _ => N11
        rename RaisedK g outer _ _ _ _ _ _ => R
        rename g2.UpToSlots _ => U
        with_reducible refine hide ?_
        intro GG hGG
        obtain ⟨⟨B, kB, hl, hfl, _⟩, _⟩ := R
        obtain ⟨fr8, SU8, ht8⟩ := frs_up Fs7 hfr2 U
        with_reducible refine hGG ?_
        clear hGG GG
        have G12 := fun p hp => (hl p (.tail _ (.tail _ (.tail _ hp)))).1
        exact .inr ⟨_, _, _, _, fr8, B, rfl, rfl, SU7.trans SU8, ht8, hfl, prep_keep kB (List.forall_mem_cons.mpr ⟨G12 _ (.head _), List.forall_mem_cons.mpr ⟨G12 _ (.tail _ (.tail _ (.head _))), fun p hp => G12 p (.tail _ (.tail _ (.tail _ hp)))⟩⟩) hg hsrc, frs_none Fs₀ hfl.2.2.1,
          ⟨D, ys, nn, Sor.all (G12 _ (.head _)) (G12 _ (.tail _ (.head _))) (G12 _ (.tail _ (.tail _ (.head _)))) hD (fun p hp => G12 p (.tail _ (.tail _ (.tail _ hp)))) ap, (hl _ (.tail _ (.head _))).1, hstr, hDs⟩, hring⟩
end

section
noncomputable def vall (ns : List (Str × Str)) : View := ns.foldl (fun V p => vadd V p.1 p.2) []
theorem vall_snoc (ns : List (Str × Str)) (p : Str × Str) : vall (ns ++ [p]) = vadd (vall ns) p.1 p.2 := by unfold vall; rw [List.foldl_append]; rfl

structure VIs (ns : List (Str × Str)) (V : View) : Prop where
  nd : (V.map (·.1)).Nodup
  names : ∀ k, k ∈ V.map (·.1) ↔ ∃ p ∈ ns, k = p.1 ∨ k = p.2
  np : ∀ e ∈ V, e.2.1 = ((ns.filter fun p => decide (p.1 = e.1)).length : Int)
  su : ∀ e ∈ V, e.2.2 = (ns.filter fun p => decide (p.2 = e.1)).map (·.1)

theorem vmod_names (V : View) (nm : Str) (f : Str × Int × List Str → Str × Int × List Str) (hf : ∀ e, (f e).1 = e.1) : (vmod V nm f).map (·.1) = V.map (·.1) := by
  unfold vmod
  rw [List.map_map]
  refine List.map_congr_left fun e _ => ?_
  show (if e.1 = nm then f e else e).1 = e.1
  split
  · exact hf e
  · rfl
theorem mem_vmod {V : View} {nm : Str} {f : Str × Int × List Str → Str × Int × List Str} {e : Str × Int × List Str} (h : e ∈ vmod V nm f) : ∃ e' ∈ V, e = if e'.1 = nm then f e' else e' := by
  with_reducible refine hide ?_
  intro GG hGG
  obtain ⟨e', h1, h2⟩ := List.mem_map.mp h
  with_reducible refine hGG ?_
  clear hGG GG
  exact ⟨e', h1, h2.symm⟩
theorem vens_names (V : View) (nm k : Str) : k ∈ (vens V nm).map (·.1) ↔ k ∈ V.map (·.1) ∨ k = nm := by
  unfold vens
  split
  · rename_i h
    exact ⟨.inl, fun q => q.elim id fun e => e ▸ h⟩
  · rw [List.map_append, List.mem_append]; simp
theorem vens_nd {V : View} {nm : Str} (h : (V.map (·.1)).Nodup) : ((vens V nm).map (·.1)).Nodup := by
  unfold vens
  split
  · exact h
  · rename_i hm
    rw [List.map_append, List.nodup_append]
    refine ⟨h, by simp, fun a ha b hb e => hm ?_⟩
    simp only [List.map_cons, List.map_nil, List.mem_cons, List.not_mem_nil, or_false] at hb
    rw [← hb, ← e]; exact ha
theorem mem_vens {V : View} {nm : Str} {e : Str × Int × List Str} (h : e ∈ vens V nm) : e ∈ V ∨ (e = (nm, 0, []) ∧ nm ∉ V.map (·.1)) := by
  unfold vens at h
  split at h
  · exact .inl h
  · rename_i hm
    rcases List.mem_append.mp h with h | h
    · exact .inl h
    · exact .inr ⟨List.mem_singleton.mp h, hm⟩

theorem snoc_ind {α : Type} {P : List α → Prop} (h0 : P []) (h1 : ∀ l a, P l → P (l ++ [a])) (l : List α) : P l := by
  have key : ∀ r : List α, P r.reverse := fun r => by
    induction r with
    | nil => exact h0
    | cons a r ih => rw [List.reverse_cons]; exact h1 _ _ ih
  have := key l.reverse
  rwa [List.reverse_reverse] at this

noncomputable def cnt (ns : List (Str × Str)) (k : Str) : Int := ((ns.filter fun p => decide (p.1 = k)).length : Int)
noncomputable def fol (ns : List (Str × Str)) (k : Str) : List Str := (ns.filter fun p => decide (p.2 = k)).map (·.1)
theorem cnt_snoc (ns : List (Str × Str)) (p : Str × Str) (k : Str) : cnt (ns ++ [p]) k = cnt ns k + if k = p.1 then 1 else 0 := by
  unfold cnt
  rw [List.filter_append, List.length_append, List.filter_cons]
  by_cases h : p.1 = k
  · simp [h]
  · simp [h, Ne.symm h]
theorem fol_snoc (ns : List (Str × Str)) (p : Str × Str) (k : Str) : fol (ns ++ [p]) k = fol ns k ++ if k = p.2 then [p.1] else [] := by
  unfold fol
  rw [List.filter_append, List.map_append, List.filter_cons]
  by_cases h : p.2 = k
  · simp [h]
  · simp [h, Ne.symm h]
theorem cnt_none {ns : List (Str × Str)} {V : View} (h : ∀ k, k ∈ V.map (·.1) ↔ ∃ p ∈ ns, k = p.1 ∨ k = p.2) {k : Str} (hk : k ∉ V.map (·.1)) : cnt ns k = 0 ∧ fol ns k = [] := by
  constructor
  · unfold cnt
    rw [List.filter_eq_nil_iff.mpr]
    · rfl
    · intro p hp e
      exact hk ((h k).mpr ⟨p, hp, .inl (of_decide_eq_true e).symm⟩)
  · unfold fol
    rw [List.filter_eq_nil_iff.mpr]
    · rfl
    · intro p hp e
      exact hk ((h k).mpr ⟨p, hp, .inr (of_decide_eq_true e).symm⟩)

theorem vall_is (ns : List (Str × Str)) : VIs ns (vall ns) := by
  induction ns using snoc_ind with
  | h0 => exact ⟨by simp [vall], by simp [vall], by simp [vall], by simp [vall]⟩
  | h1 ns p ih =>
    rw [vall_snoc]
    obtain ⟨a, c⟩ := p
    generalize vall ns = V at ih
    have n1 : ((vmod (vens V a) a fun e => (e.1, e.2.1 + 1, e.2.2)).map (·.1)) = (vens V a).map (·.1) := vmod_names _ _ _ fun _ => rfl
    have n2 : ((vadd V a c).map (·.1)) = (vens (vmod (vens V a) a fun e => (e.1, e.2.1 + 1, e.2.2)) c).map (·.1) := vmod_names _ _ _ fun _ => rfl
    have nn : ∀ k, k ∈ (vadd V a c).map (·.1) ↔ k ∈ V.map (·.1) ∨ k = a ∨ k = c := fun k => by rw [n2, vens_names, n1, vens_names, or_assoc]
    have s1 : ∀ e ∈ vens V a, e.2.1 = cnt ns e.1 ∧ e.2.2 = fol ns e.1 := fun e he => by
      rcases mem_vens he with h | ⟨rfl, h⟩
      · exact ⟨ih.np e h, ih.su e h⟩
      · have := cnt_none ih.names h; exact ⟨this.1.symm, this.2.symm⟩
    have s2 : ∀ e ∈ vmod (vens V a) a fun e => (e.1, e.2.1 + 1, e.2.2), e.2.1 = cnt (ns ++ [(a, c)]) e.1 ∧ e.2.2 = fol ns e.1 := fun e he => by
      with_reducible refine hide ?_
      intro GG hGG
      obtain ⟨e', h, rfl⟩ := mem_vmod he
      obtain ⟨h1, h2⟩ := s1 e' h
      with_reducible refine hGG ?_
      clear hGG GG
      by_cases q : e'.1 = a
      · rw [if_pos q]; exact ⟨by rw [cnt_snoc]; simp [h1, q], h2⟩
      · rw [if_neg q]; exact ⟨by rw [cnt_snoc]; simp [h1, q], h2⟩
    have s3 : ∀ e ∈ vens (vmod (vens V a) a fun e => (e.1, e.2.1 + 1, e.2.2)) c, e.2.1 = cnt (ns ++ [(a, c)]) e.1 ∧ e.2.2 = fol ns e.1 := fun e he => by
      rcases mem_vens he with h | ⟨rfl, h⟩
      · exact s2 e h
      · rw [n1] at h
        have h' : c ∉ V.map (·.1) ∧ c ≠ a := by
          rw [vens_names] at h; exact ⟨fun q => h (.inl q), fun q => h (.inr q)⟩
        have := cnt_none ih.names h'.1
        exact ⟨by rw [cnt_snoc, this.1]; simp [h'.2], this.2.symm⟩
    have s4 : ∀ e ∈ vadd V a c, e.2.1 = cnt (ns ++ [(a, c)]) e.1 ∧ e.2.2 = fol (ns ++ [(a, c)]) e.1 := fun e he => by
      with_reducible refine hide ?_
      intro GG hGG
      obtain ⟨e', h, rfl⟩ := mem_vmod he
      obtain ⟨h1, h2⟩ := s3 e' h
      with_reducible refine hGG ?_
      clear hGG GG
      by_cases q : e'.1 = c
      · rw [if_pos q]; exact ⟨h1, by rw [fol_snoc]; simp [h2, q]⟩
      · rw [if_neg q]; exact ⟨h1, by rw [fol_snoc]; simp [h2, q]⟩
    refine ⟨?_, fun k => ?_, fun e he => (s4 e he).1, fun e he => (s4 e he).2⟩
    · rw [n2]; exact vens_nd (n1 ▸ vens_nd ih.nd)
    · rw [nn, ih.names]
      simp only [List.mem_append, List.mem_singleton]
      constructor
      · rintro (⟨p, hp, h⟩ | h | h)
        · exact ⟨p, .inl hp, h⟩
        · exact ⟨_, .inr rfl, .inl h⟩
        · exact ⟨_, .inr rfl, .inr h⟩
      · rintro ⟨p, hp | rfl, h⟩
        · exact .inl ⟨p, hp, h⟩
        · exact .inr h
structure Rounds (succ : Str → List Str) (names : List Str) (P : (Str → Int) → List Str → List (List Str) → Nat → Prop) : Prop where
  out : ∀ N R rs k, P N R rs k → R ≠ [] → ∀ i y, R[i]? = some y → (finAll succ (outs N R, []) (R.take i)).1 y = -1
  step : ∀ N R rs k R', P N R rs k → R ≠ [] → R'.Perm R → sortedS R' = true → ∃ k', k' < k ∧ P (finAll succ (outs N R, []) R).1 (finAll succ (outs N R, []) R).2 (rs ++ [R']) k'
  len : ∀ N R rs k, P N R rs k → R.length ≤ 60 ∧ rs.length ≤ 900
  sub : ∀ N R rs k, P N R rs k → ∀ y ∈ R, y ∈ names

theorem paired_len {α β : Type} {F : α → β → Prop} {l₁ : List α} {l₂ : List β} (h : Paired F l₁ l₂) : l₁.length = l₂.length := by
  induction h with
  | nil => rfl
  | cons _ _ ih => simp [ih]
end

section
open PySem.Spec (ltCps)
theorem str_ext {a b : Str} (h : a.cps.toList = b.cps.toList) : a = b := by
  cases a with | mk x => cases b with | mk y => exact congrArg Str.mk (Array.toList_inj.mp h)
noncomputable def sle (a b : Str) : Prop := a.cps.toList ≤ b.cps.toList
theorem sle_antisymm {a b : Str} (h1 : sle a b) (h2 : sle b a) : a = b := str_ext (List.le_antisymm h1 h2)
theorem rising_pairwise : ∀ (l : List Str) (p : Str), risingS p l = true → (p :: l).Pairwise sle
  | [], p, _ => List.pairwise_singleton _ _
  | x :: r, p, h => by
    have h : (!ltCps x.cps.toList p.cps.toList && risingS x r) = true := h
    rw [Bool.and_eq_true] at h
    have h2 := rising_pairwise r x h.2
    have hpx : sle p x := by
      have := h.1
      rw [ltCps_eq] at this
      simp only [Bool.not_eq_true', decide_eq_false_iff_not] at this
      exact this
    refine List.pairwise_cons.mpr ⟨fun y hy => ?_, h2⟩
    rcases List.mem_cons.mp hy with rfl | hy
    · exact hpx
    · exact List.le_trans hpx ((List.pairwise_cons.mp h2).1 y hy)
theorem sorted_pairwise {l : List Str} (h : sortedS l = true) : l.Pairwise sle := by
  cases l with
  | nil => exact .nil
  | cons x r => exact rising_pairwise r x h
theorem sorted_eq {l l' : List Str} (h : l.Pairwise sle) (h' : l'.Pairwise sle) (p : l.Perm l') : l = l' :=
  p.eq_of_pairwise (le := sle) (fun _ _ _ _ h1 h2 => sle_antisymm h1 h2) h h'

noncomputable def later (ns : List (Str × Str)) (left : List Str) : List Str := left.filter fun a => ns.any fun p => decide (p.1 = a) && decide (p.2 ∈ left)
noncomputable def dueR (ns : List (Str × Str)) : Nat → List Str → List (List Str) × List Str
  | 0, left => ([], left)
  | f + 1, left => if later ns left = left then ([], left) else ((left.filter fun a => decide (a ∉ later ns left)) :: (dueR ns f (later ns left)).1, (dueR ns f (later ns left)).2)

theorem mem_later {ns : List (Str × Str)} {left : List Str} {a : Str} : a ∈ later ns left ↔ a ∈ left ∧ ∃ b, (a, b) ∈ ns ∧ b ∈ left := by
  unfold later
  rw [List.mem_filter, List.any_eq_true]
  constructor
  · intro hXX
    refine cps_AEA hXX ?_
    rintro h ⟨p1, p2⟩ hp e
    clear hXX
    simp only [Bool.and_eq_true, decide_eq_true_eq] at e
    exact ⟨h, p2, e.1 ▸ hp, e.2⟩
  · intro hXX
    refine cps_AEA hXX ?_
    intro h b hp e
    clear hXX
    exact ⟨h, (a, b), hp, by simp [e]⟩
theorem later_length {ns : List (Str × Str)} {left : List Str} (h : later ns left ≠ left) : (later ns left).length < left.length := by
  have h1 : (later ns left).length ≤ left.length := List.length_filter_le _ _
  refine Nat.lt_of_le_of_ne h1 fun e => h ?_
  exact (List.filter_sublist).eq_of_length e

structure LeftAt (ns : List (Str × Str)) (left : List Str) : Prop where
  nd : left.Nodup
  srt : left.Pairwise sle
  up : ∀ p ∈ ns, p.2 ∈ left → p.1 ∈ left
theorem LeftAt.later {ns : List (Str × Str)} {left : List Str} (L : LeftAt ns left) : LeftAt ns (Mine.later ns left) :=
  ⟨L.nd.sublist List.filter_sublist, L.srt.sublist List.filter_sublist, fun p hp h => mem_later.mpr ⟨L.up p hp (mem_later.mp h).1, p.2, hp, (mem_later.mp h).1⟩⟩

noncomputable def rem (ns : List (Str × Str)) (left done : List Str) (y : Str) : Nat := ns.countP fun p => decide (p.1 = y) && (decide (p.2 ∈ left) && !decide (p.2 ∈ done))

theorem rem_zero {ns : List (Str × Str)} {left : List Str} {y : Str} (hy : y ∈ left) : rem ns left [] y = 0 ↔ y ∉ later ns left := by
  unfold rem
  rw [List.countP_eq_zero, mem_later]
  constructor
  · intro h hXX
    refine cps_AEA hXX ?_
    intro _ b hb hl
    clear hXX
    exact h (y, b) hb (by simp [hl])
  · intro h p hp e
    simp only [Bool.and_eq_true, decide_eq_true_eq] at e
    exact h ⟨hy, p.2, by rw [← e.1]; exact hp, e.2.1⟩

structure TAt (ns : List (Str × Str)) (names : List Str) (N : Str → Int) (R left : List Str) : Prop where
  L : LeftAt ns left
  sub : ∀ y ∈ left, y ∈ names
  few : left.length ≤ 60
  cnt : ∀ y ∈ left, N y = rem ns left [] y
  rnd : R.Nodup
  rmem : ∀ y, y ∈ R ↔ y ∈ left ∧ rem ns left [] y = 0

theorem TAt.mem {ns : List (Str × Str)} {names : List Str} {N : Str → Int} {R left : List Str} (T : TAt ns names N R left) (y : Str) : y ∈ R ↔ y ∈ left ∧ y ∉ later ns left := by
  rw [T.rmem]
  exact ⟨fun h => ⟨h.1, (rem_zero h.1).mp h.2⟩, fun h => ⟨h.1, (rem_zero h.1).mpr h.2⟩⟩

theorem decr_many (LT : List Str) : ∀ (l : List Str) (c : Str → Int) (M : Str → Int) (S : List Str), (∀ y ∈ l, y ∈ LT) → (∀ y ∈ LT, (l.count y : Int) ≤ c y) → (∀ y ∈ LT, M y = c y) → S.Nodup → (∀ y, y ∈ S ↔ y ∈ LT ∧ c y = 0) →
    (∀ y ∈ LT, (l.foldl decr (M, S)).1 y = c y - l.count y) ∧ (∀ y, y ∉ LT → (l.foldl decr (M, S)).1 y = M y) ∧ (l.foldl decr (M, S)).2.Nodup ∧ ∀ y, y ∈ (l.foldl decr (M, S)).2 ↔ y ∈ LT ∧ c y - l.count y = 0
  | [], c, M, S, _, _, hM, hS, hm => ⟨fun y hy => by simp [hM y hy], fun _ _ => rfl, hS, fun y => by simpa using hm y⟩
  | z :: l, c, M, S, hl, hc, hM, hS, hm => by
    have hz : z ∈ LT := hl z (.head _)
    have hcz := hc z hz
    rw [List.count_cons_self] at hcz
    have e1 : decr (M, S) z = (upd M z (c z - 1), if c z - 1 = 0 then S ++ [z] else S) := by unfold decr; simp only [hM z hz]
    have ih := decr_many LT l (fun y => if y = z then c y - 1 else c y) (upd M z (c z - 1)) (if c z - 1 = 0 then S ++ [z] else S) (fun y hy => hl y (.tail _ hy)) (fun y hy => ?_) (fun y hy => ?_) ?_ (fun y => ?_)
    · rw [List.foldl_cons, e1]
      refine cps_AAA ih ?_
      intro i1 i2 i3 i4
      clear ih
      refine ⟨fun y hy => ?_, fun y hy => ?_, i3, fun y => ?_⟩
      · rw [i1 y hy]
        by_cases q : y = z
        · subst q; rw [if_pos rfl, List.count_cons_self]; omega
        · rw [if_neg q, List.count_cons_of_ne (Ne.symm q)]
      · rw [i2 y hy]
        unfold upd
        rw [if_neg (fun q => hy (by rw [q]; exact hz))]
      · rw [i4 y]
        by_cases q : y = z
        · subst q; rw [if_pos rfl, List.count_cons_self]
          constructor
          · rintro ⟨a, b⟩; exact ⟨a, by omega⟩
          · rintro ⟨a, b⟩; exact ⟨a, by omega⟩
        · rw [if_neg q, List.count_cons_of_ne (Ne.symm q)]
    · by_cases q : y = z
      · subst q; rw [if_pos rfl]; omega
      · rw [if_neg q]; have := hc y hy; rw [List.count_cons_of_ne (Ne.symm q)] at this; exact this
    · unfold upd
      by_cases q : y = z
      · rw [if_pos q, if_pos q, q]
      · rw [if_neg q, if_neg q]; exact hM y hy
    · split
      · rw [List.nodup_append]
        refine ⟨hS, by simp, fun a ha b hb e => ?_⟩
        rw [List.mem_singleton.mp hb] at e
        have := ((hm a).mp ha).2
        rw [e] at this; omega
      · exact hS
    · by_cases q : y = z
      · subst q
        rw [if_pos rfl]
        split
        · rename_i h; exact ⟨fun _ => ⟨hz, h⟩, fun _ => by simp⟩
        · rename_i h
          rw [hm]
          constructor
          · rintro ⟨_, b⟩; omega
          · rintro ⟨_, b⟩; exact absurd b h
      · rw [if_neg q]
        split
        · rw [List.mem_append, List.mem_singleton, hm]
          exact ⟨fun h => h.elim id fun h => absurd h q, .inl⟩
        · exact hm y

theorem rem_step {ns : List (Str × Str)} {left D : List Str} {k : Str} (hk : k ∈ left) (hD : k ∉ D) (y : Str) : rem ns left D y = rem ns left (D ++ [k]) y + (fol ns k).count y := by
  unfold rem fol
  rw [List.count_eq_countP, List.countP_map, List.countP_filter]
  induction ns with
  | nil => rfl
  | cons p ns ih =>
    rw [List.countP_cons, List.countP_cons, List.countP_cons, ih]
    have e : (if (decide (p.1 = y) && (decide (p.2 ∈ left) && !decide (p.2 ∈ D))) = true then 1 else 0) =
        (if (decide (p.1 = y) && (decide (p.2 ∈ left) && !decide (p.2 ∈ D ++ [k]))) = true then 1 else 0) + (if (((fun x => x == y) ∘ fun x : Str × Str => x.1) p && decide (p.2 = k)) = true then 1 else 0) := by
      by_cases h1 : p.1 = y
      · by_cases h2 : p.2 = k
        · simp [h1, h2, hk, hD]
        · simp [h1, h2]
      · simp [h1]
    rw [e]; omega

theorem proc {ns : List (Str × Str)} {names : List Str} {N : Str → Int} {R left : List Str} (T : TAt ns names N R left) : ∀ i, i ≤ R.length →
    (∀ y ∈ R.drop i, (finAll (fol ns) (outs N R, []) (R.take i)).1 y = -1) ∧ (∀ y ∈ later ns left, (finAll (fol ns) (outs N R, []) (R.take i)).1 y = rem ns left (R.take i) y) ∧
      (finAll (fol ns) (outs N R, []) (R.take i)).2.Nodup ∧ ∀ y, y ∈ (finAll (fol ns) (outs N R, []) (R.take i)).2 ↔ y ∈ later ns left ∧ (rem ns left (R.take i) y : Int) = 0 := by
  have hdis : ∀ y ∈ later ns left, y ∉ R := fun y hy q => ((T.mem y).mp q).2 hy
  intro i
  induction i with
  | zero =>
    intro _
    rw [List.take_zero, List.drop_zero]
    refine ⟨fun y hy => ?_, fun y hy => ?_, List.nodup_nil, fun y => ?_⟩
    · show outs N R y = -1
      unfold outs; rw [if_pos hy]
    · show outs N R y = _
      unfold outs; rw [if_neg (hdis y hy)]; exact T.cnt y (mem_later.mp hy).1
    · show y ∈ [] ↔ _
      constructor
      · intro h; cases h
      · rintro ⟨h, e⟩
        exact absurd h ((rem_zero (mem_later.mp h).1).mp (by exact_mod_cast e))
  | succ i ih =>
    intro hi
    with_reducible refine hide ?_
    intro GG hGG
    refine cps_AAA (ih (by omega)) ?_
    intro i1 i2 i3 i4
    obtain ⟨k, hk⟩ : ∃ k, R[i]? = some k := ⟨_, List.getElem?_eq_getElem (by omega)⟩
    with_reducible refine hGG ?_
    clear hGG GG
    have hkR : k ∈ R := List.mem_of_getElem? hk
    have hkl := (T.mem k).mp hkR
    have hdrop : R.drop i = k :: R.drop (i + 1) := by
      rw [List.drop_eq_getElem_cons (by omega)]
      rw [List.getElem?_eq_getElem (by omega)] at hk
      rw [Option.some.inj hk]
    have htake : R.take (i + 1) = R.take i ++ [k] := by rw [List.take_add_one, hk]; rfl
    have hnd : (R.take i ++ k :: R.drop (i + 1)).Nodup := by rw [← hdrop, List.take_append_drop]; exact T.rnd
    have hkt : k ∉ R.take i := fun q => (List.nodup_append.mp hnd).2.2 k q k (.head _) rfl
    have hkd : k ∉ R.drop (i + 1) := (List.nodup_cons.mp (List.nodup_append.mp hnd).2.1).1
    have hst : finAll (fol ns) (outs N R, []) (R.take (i + 1)) = (fol ns k).foldl decr (upd (finAll (fol ns) (outs N R, []) (R.take i)).1 k (-2), (finAll (fol ns) (outs N R, []) (R.take i)).2) := by
      rw [htake]; unfold finAll; rw [List.foldl_append]; rfl
    rw [hst, htake]
    generalize finAll (fol ns) (outs N R, []) (R.take i) = st at i1 i2 i3 i4
    have hfl : ∀ y ∈ fol ns k, y ∈ later ns left := fun y hy => by
      with_reducible refine hide ?_
      intro GG hGG
      obtain ⟨p, hp, rfl⟩ := List.mem_map.mp hy
      obtain ⟨hp1, hp2⟩ := List.mem_filter.mp hp
      with_reducible refine hGG ?_
      clear hGG GG
      have hp2 : p.2 = k := of_decide_eq_true hp2
      exact mem_later.mpr ⟨T.L.up p hp1 (hp2 ▸ hkl.1), p.2, hp1, hp2 ▸ hkl.1⟩
    have hrs : ∀ y, (rem ns left (R.take i) y : Int) - ((fol ns k).count y : Int) = rem ns left (R.take i ++ [k]) y := fun y => by
      rw [rem_step hkl.1 hkt y]; push_cast; omega
    have hkn : k ∉ later ns left := hkl.2
    refine cps_AAA (decr_many (later ns left) (fol ns k) (fun y => (rem ns left (R.take i) y : Int)) (upd st.1 k (-2)) st.2 hfl (fun y hy => by have := hrs y; omega)
      (fun y hy => by unfold upd; rw [if_neg (fun q : y = k => hkn (by rw [← q]; exact hy))]; exact i2 y hy) i3 i4) ?_
    intro d1 d2 d3 d4
    refine ⟨fun y hy => ?_, fun y hy => ?_, d3, fun y => ?_⟩
    · have hyR : y ∈ R := List.mem_of_mem_drop hy
      rw [d2 y (fun q => hdis y q hyR)]
      unfold upd
      rw [if_neg (fun q : y = k => hkd (by rw [← q]; exact hy))]
      exact i1 y (by rw [hdrop]; exact .tail _ hy)
    · rw [d1 y hy]; exact hrs y
    · rw [d4 y]
      constructor
      · rintro ⟨a, b⟩; exact ⟨a, by rw [← hrs y]; exact b⟩
      · rintro ⟨a, b⟩; exact ⟨a, by rw [← hrs y] at b; exact b⟩

theorem rem_later {ns : List (Str × Str)} {names : List Str} {N : Str → Int} {R left : List Str} (T : TAt ns names N R left) (y : Str) : rem ns left R y = rem ns (later ns left) [] y := by
  unfold rem
  refine List.countP_congr fun p _ => ?_
  have : (p.2 ∈ left ∧ p.2 ∉ R) ↔ p.2 ∈ later ns left := by
    rw [T.mem]
    constructor
    · rintro ⟨a, b⟩
      exact Classical.byContradiction fun q => b ⟨a, q⟩
    · intro h
      exact ⟨(mem_later.mp h).1, fun q => q.2 h⟩
  simp only [Bool.and_eq_true, decide_eq_true_eq, Bool.not_eq_true', decide_eq_false_iff_not, List.not_mem_nil, not_false_eq_true, and_true, this]

theorem TAt.next {ns : List (Str × Str)} {names : List Str} {N : Str → Int} {R left : List Str} (T : TAt ns names N R left) :
    TAt ns names (finAll (fol ns) (outs N R, []) R).1 (finAll (fol ns) (outs N R, []) R).2 (later ns left) := by
  refine cps_AAA (proc T R.length (Nat.le_refl _)) ?_
  intro _ p2 p3 p4
  rw [List.take_length] at p2 p3 p4
  refine ⟨T.L.later, fun y hy => T.sub y (mem_later.mp hy).1, Nat.le_trans (List.length_filter_le _ _) T.few, fun y hy => ?_, p3, fun y => ?_⟩
  · rw [p2 y hy, rem_later T]
  · rw [p4 y, rem_later T]
    exact ⟨fun h => ⟨h.1, by exact_mod_cast h.2⟩, fun h => ⟨h.1, by exact_mod_cast h.2⟩⟩

noncomputable def Going (ns : List (Str × Str)) (names : List Str) (f₀ : Nat) (left₀ : List Str) (N : Str → Int) (R : List Str) (rs : List (List Str)) (k : Nat) : Prop :=
  ∃ left f, TAt ns names N R left ∧ k = left.length ∧ left.length ≤ f ∧ rs ++ (dueR ns f left).1 = (dueR ns f₀ left₀).1 ∧ (dueR ns f left).2 = (dueR ns f₀ left₀).2
theorem dueR_len (ns : List (Str × Str)) : ∀ f left, (dueR ns f left).1.length ≤ f
  | 0, _ => Nat.le_refl _
  | f + 1, left => by
    unfold dueR
    split
    · exact Nat.zero_le _
    · rw [List.length_cons]; exact Nat.succ_le_succ (dueR_len ns f _)
theorem ready_later {ns : List (Str × Str)} {names : List Str} {N : Str → Int} {R left : List Str} (T : TAt ns names N R left) : R ≠ [] ↔ later ns left ≠ left := by
  constructor
  · intro h e
    cases R with
    | nil => exact h rfl
    | cons y R =>
      have := (T.mem y).mp (.head _)
      exact this.2 (e.symm ▸ this.1)
  · intro h e
    refine h (List.filter_eq_self.mpr fun y hy => ?_)
    have : y ∈ later ns left := Classical.byContradiction fun q => by
      have := (T.mem y).mpr ⟨hy, q⟩
      rw [e] at this; cases this
    exact (List.mem_filter.mp this).2

theorem going_rounds {ns : List (Str × Str)} {names : List Str} {f₀ : Nat} {left₀ : List Str} (hf : f₀ ≤ 60) : Rounds (fol ns) names (Going ns names f₀ left₀) where
  out := by
    intro N R rs k hXX
    refine cps_EEAAAA hXX ?_
    rintro left f T rfl hlf h1 h2
    clear hXX
    intro hne i y hy
    have hi : i < R.length := (List.getElem?_eq_some_iff.mp hy).1
    refine (proc T i (by omega)).1 y ?_
    rw [List.drop_eq_getElem_cons hi]
    rw [List.getElem?_eq_getElem hi] at hy
    rw [Option.some.inj hy]; exact .head _
  step := by
    intro N R rs k R' hXX
    refine cps_EEAAAA hXX ?_
    rintro left f T rfl hlf h1 h2
    clear hXX
    intro hne hp hs
    have hlt := later_length ((ready_later T).mp hne)
    with_reducible refine hide ?_
    intro GG hGG
    obtain ⟨f, rfl⟩ : ∃ f', f = f' + 1 := ⟨f - 1, by omega⟩
    with_reducible refine hGG ?_
    clear hGG GG
    have e : dueR ns (f + 1) left = ((left.filter fun a => decide (a ∉ later ns left)) :: (dueR ns f (later ns left)).1, (dueR ns f (later ns left)).2) := by
      show (if later ns left = left then _ else _) = _
      rw [if_neg ((ready_later T).mp hne)]
    have hR' : R' = left.filter fun a => decide (a ∉ later ns left) := by
      refine sorted_eq (sorted_pairwise hs) (T.L.srt.sublist List.filter_sublist) (hp.trans ((List.perm_ext_iff_of_nodup T.rnd (T.L.nd.sublist List.filter_sublist)).mpr fun y => ?_))
      rw [T.mem, List.mem_filter, decide_eq_true_eq]
    rw [e] at h1 h2
    refine ⟨_, hlt, later ns left, f, T.next, rfl, by omega, ?_, h2⟩
    rw [List.append_assoc, hR']; exact h1
  len := by
    intro N R rs k hXX
    refine cps_EEAAAA hXX ?_
    rintro left f T rfl hlf h1 h2
    clear hXX
    constructor
    · have := T.rnd.length_le_of_subset (l₂ := left) fun y hy => ((T.mem y).mp hy).1
      have := T.few
      omega
    · have := congrArg List.length h1
      rw [List.length_append] at this
      have := dueR_len ns f₀ left₀
      omega
  sub := by
    intro N R rs k hXX
    refine cps_EEAAAA hXX ?_
    rintro left f T rfl hlf h1 h2
    clear hXX
    intro y hy
    exact T.sub y ((T.mem y).mp hy).1

theorem going_end {ns : List (Str × Str)} {names : List Str} {f₀ : Nat} {left₀ : List Str} {N : Str → Int} {rs : List (List Str)} {k : Nat} (h : Going ns names f₀ left₀ N [] rs k) :
    rs = (dueR ns f₀ left₀).1 ∧ later ns (dueR ns f₀ left₀).2 = (dueR ns f₀ left₀).2 := by
  refine cps_EEAAAA h ?_
  rintro left f T rfl hlf h1 h2
  clear h
  have e : later ns left = left := Classical.byContradiction fun q => (ready_later T).mpr q rfl
  have d : dueR ns f left = ([], left) := by
    cases f with
    | zero => rfl
    | succ f => show (if later ns left = left then _ else _) = _; rw [if_pos e]
  rw [d] at h1 h2
  rw [← h2, ← h1]
  exact ⟨List.append_nil _ ▸ rfl, e⟩

noncomputable def left0 (ns : List (Str × Str)) : List Str := ((vall ns).map (·.1)).mergeSort fun a b => decide (a.cps.toList ≤ b.cps.toList)
theorem left0_perm (ns : List (Str × Str)) : (left0 ns).Perm ((vall ns).map (·.1)) := List.mergeSort_perm _ _
theorem left0_sorted (ns : List (Str × Str)) : (left0 ns).Pairwise sle := by
  have := List.pairwise_mergeSort (le := fun a b => decide (a.cps.toList ≤ b.cps.toList)) (fun a b c h1 h2 => decide_eq_true (List.le_trans (of_decide_eq_true h1) (of_decide_eq_true h2))) (fun a b => by
    rw [Bool.or_eq_true, decide_eq_true_eq, decide_eq_true_eq]; exact List.le_total _ _) ((vall ns).map (·.1))
  exact this.imp fun h => of_decide_eq_true h
theorem mem_left0 {ns : List (Str × Str)} {k : Str} : k ∈ left0 ns ↔ ∃ p ∈ ns, k = p.1 ∨ k = p.2 := by
  rw [(left0_perm ns).mem_iff]; exact (vall_is ns).names k
theorem left0_at (ns : List (Str × Str)) : LeftAt ns (left0 ns) :=
  ⟨(left0_perm ns).nodup_iff.mpr (vall_is ns).nd, left0_sorted ns, fun p hp _ => mem_left0.mpr ⟨p, hp, .inl rfl⟩⟩
theorem left0_len {ns : List (Str × Str)} {G : List Nd} (hv : view G = vall ns) : (left0 ns).length = G.length := by
  rw [(left0_perm ns).length_eq, List.length_map, ← hv]; exact List.length_map _

theorem rem_all (ns : List (Str × Str)) (y : Str) : (rem ns (left0 ns) [] y : Int) = cnt ns y := by
  unfold rem cnt
  rw [← List.countP_eq_length_filter]
  congr 1
  refine List.countP_congr fun p hp => ?_
  have : p.2 ∈ left0 ns := mem_left0.mpr ⟨p, hp, .inr rfl⟩
  simp [this]

theorem zeros_mem {ns : List (Str × Str)} {G : List Nd} (hv : view G = vall ns) (hnn : (G.map (·.nm)).Nodup) (y : Str) : y ∈ zeros G ↔ y ∈ left0 ns ∧ rem ns (left0 ns) [] y = 0 := by
  have hnm : ∀ k, k ∈ left0 ns ↔ k ∈ G.map (·.nm) := fun k => by rw [(left0_perm ns).mem_iff, ← hv, view_names]
  have hnp : ∀ r ∈ G, r.np = cnt ns r.nm := fun r hr => (vall_is ns).np r.view (hv ▸ List.mem_map_of_mem hr)
  unfold zeros
  rw [hnm, List.mem_map]
  constructor
  · intro hXX
    with_reducible refine hide ?_
    intro GG hGG
    obtain ⟨r, hr, rfl⟩ := hXX
    with_reducible refine hGG ?_
    clear hGG GG
    obtain ⟨hr, e⟩ := List.mem_filter.mp hr
    refine ⟨List.mem_map_of_mem (f := (·.nm)) hr, ?_⟩
    have e : r.np = 0 := by simpa using e
    have := rem_all ns r.nm
    rw [← hnp r hr, e] at this
    exact_mod_cast this
  · rintro ⟨h, e⟩
    with_reducible refine hide ?_
    intro GG hGG
    obtain ⟨r, hr, rfl⟩ := List.mem_map.mp h
    with_reducible refine hGG ?_
    clear hGG GG
    refine ⟨r, List.mem_filter.mpr ⟨hr, ?_⟩, rfl⟩
    have := rem_all ns r.nm
    rw [e, ← hnp r hr] at this
    simp only [beq_iff_eq]
    exact this.symm

theorem start_at {ns : List (Str × Str)} {G : List Nd} (hv : view G = vall ns) (hnn : (G.map (·.nm)).Nodup) (hl : G.length ≤ 22) : TAt ns (G.map (·.nm)) (cnt ns) (zeros G) (left0 ns) where
  L := left0_at ns
  sub := fun y hy => by rw [(left0_perm ns).mem_iff, ← hv, view_names] at hy; exact hy
  few := by rw [left0_len hv]; omega
  cnt := fun y _ => (rem_all ns y).symm
  rnd := hnn.sublist (List.filter_sublist.map _)
  rmem := zeros_mem hv hnn

theorem succ_fol {ns : List (Str × Str)} {G : List Nd} (hv : view G = vall ns) (hnn : (G.map (·.nm)).Nodup) : succOf G = fol ns := by
  funext k
  by_cases h : k ∈ G.map (·.nm)
  · with_reducible refine hide ?_
    intro GG hGG
    obtain ⟨r, hr, rfl⟩ := List.mem_map.mp h
    with_reducible refine hGG ?_
    clear hGG GG
    rw [succ_self hnn hr]
    exact (vall_is ns).su r.view (hv ▸ List.mem_map_of_mem hr)
  · have h' : k ∉ (vall ns).map (·.1) := by rw [← hv, view_names]; exact h
    rw [(cnt_none (vall_is ns).names h').2]
    unfold succOf
    rw [List.find?_eq_none.mpr]
    · rfl
    · intro r hr e
      exact h (of_decide_eq_true e ▸ List.mem_map_of_mem (f := (·.nm)) hr)
theorem put_start {ns : List (Str × Str)} {G : List Nd} (hv : view G = vall ns) (hnn : (G.map (·.nm)).Nodup) : ∃ U, put G (cnt ns) U = G := by
  with_reducible refine hide ?_
  intro GG hGG
  obtain ⟨N, U, h | h⟩ := put_self G
  with_reducible refine hGG ?_
  clear hGG GG
  · refine ⟨U, ?_⟩
    unfold put at h ⊢
    have hnp : ∀ r ∈ G, r.np = cnt ns r.nm := fun r hr => (vall_is ns).np r.view (hv ▸ List.mem_map_of_mem hr)
    have key : ∀ r ∈ G, ({ r with np := cnt ns r.nm, ut := U r.nm } : Nd) = { r with np := N r.nm, ut := U r.nm } := fun r hr => by
      have e : ({ r with np := N r.nm, ut := U r.nm } : Nd) = r := by
        have := List.map_id G
        have h2 : G.map (fun r => ({ r with np := N r.nm, ut := U r.nm } : Nd)) = G.map id := by rw [h, List.map_id]
        exact (List.map_inj_left.mp h2) r hr
      have e2 : N r.nm = r.np := congrArg Nd.np e
      rw [e2, hnp r hr]
    rw [List.map_congr_left key]; exact h
  · exact absurd hnn h

theorem mem_fol {ns : List (Str × Str)} {a b : Str} : a ∈ fol ns b ↔ (a, b) ∈ ns := by
  unfold fol
  rw [List.mem_map]
  constructor
  · intro hXX
    with_reducible refine hide ?_
    intro GG hGG
    obtain ⟨⟨p1, p2⟩, hp, rfl⟩ := hXX
    with_reducible refine hGG ?_
    clear hGG GG
    obtain ⟨h1, h2⟩ := List.mem_filter.mp hp
    have h2 : p2 = b := of_decide_eq_true h2
    rw [← h2]; exact h1
  · intro h
    exact ⟨(a, b), List.mem_filter.mpr ⟨h, by simp⟩, rfl⟩
theorem ring_stays {ns : List (Str × Str)} {Z : List Str} (hZ : ∀ z ∈ Z, ∃ y ∈ Z, z ∈ fol ns y) : ∀ f left, (∀ z ∈ Z, z ∈ left) → ∀ z ∈ Z, z ∈ (dueR ns f left).2
  | 0, _, h => h
  | f + 1, left, h => by
    unfold dueR
    split
    · exact h
    · refine ring_stays hZ f _ fun z hz => ?_
      with_reducible refine hide ?_
      intro GG hGG
      obtain ⟨y, hy, hf⟩ := hZ z hz
      with_reducible refine hGG ?_
      clear hGG GG
      exact mem_later.mpr ⟨h z hz, y, mem_fol.mp hf, h y hy⟩
theorem ended_lt {succ : Str → List Str} {fin : List Str} (h : Ended succ fin) : ∀ a b, b ∈ fin → a ∈ succ b → fin.idxOf a < fin.idxOf b := by
  induction h with
  | nil => intro a b hb; cases hb
  | snoc hl hs ih =>
    rename_i l k
    intro a b hb ha
    by_cases hbl : b ∈ l
    · have := ih a b hbl ha
      have hal : a ∈ l := List.idxOf_lt_length_iff.mp (Nat.lt_trans this (List.idxOf_lt_length_iff.mpr hbl))
      rw [List.idxOf_append, List.idxOf_append, if_pos hal, if_pos hbl]; exact this
    · have hbk : b = k := by
        rcases List.mem_append.mp hb with h | h
        · exact absurd h hbl
        · exact List.mem_singleton.mp h
      subst hbk
      have hal := hs a ha
      rw [List.idxOf_append, List.idxOf_append, if_pos hal, if_neg hbl]
      have := List.idxOf_lt_length_iff.mpr hal
      omega
theorem ended_none {ns : List (Str × Str)} {fin L : List Str} (h : Ended (fol ns) fin) (hL : ∀ y ∈ L, y ∈ fin) (he : later ns L = L) : L = [] := by
  cases L with
  | nil => rfl
  | cons x L =>
    exfalso
    have far : ∀ n : Nat, ∃ a ∈ x :: L, n ≤ fin.idxOf a := fun n => by
      induction n with
      | zero => exact ⟨x, .head _, Nat.zero_le _⟩
      | succ n ih =>
        with_reducible refine hide ?_
        intro GG hGG
        obtain ⟨a, ha, hn⟩ := ih
        have ha' : a ∈ later ns (x :: L) := by rw [he]; exact ha
        refine cps_AEA (mem_later.mp ha') ?_
        intro _ b hb hbl
        with_reducible refine hGG ?_
        clear hGG GG
        exact ⟨b, hbl, Nat.lt_of_le_of_lt hn (ended_lt h a b (hL b hbl) (mem_fol.mpr hb))⟩
    with_reducible refine hide ?_
    intro GG hGG
    obtain ⟨a, ha, hn⟩ := far fin.length
    with_reducible refine hGG ?_
    clear hGG GG
    exact absurd (List.idxOf_lt_length_iff.mpr (hL a ha)) (Nat.not_lt.mpr hn)

theorem ring_word {ns : List (Str × Str)} {G : List Nd} {rb : Bool} (hv : view G = vall ns) (hnn : (G.map (·.nm)).Nodup) (h1 : rb = true → Ring (succOf G)) (h2 : rb = false → ∃ fin, Ended (succOf G) fin ∧ ∀ k ∈ G.map (·.nm), k ∈ fin) (f : Nat)
    (he : later ns (dueR ns f (left0 ns)).2 = (dueR ns f (left0 ns)).2) (hsub : ∀ y ∈ (dueR ns f (left0 ns)).2, y ∈ left0 ns) : rb = !(dueR ns f (left0 ns)).2.isEmpty := by
  rw [succ_fol hv hnn] at h1 h2
  cases rb with
  | true =>
    with_reducible refine hide ?_
    intro GG hGG
    obtain ⟨Z, hZ0, hZ⟩ := h1 rfl
    with_reducible refine hGG ?_
    clear hGG GG
    cases Z with
    | nil => exact absurd rfl hZ0
    | cons z Z =>
      have := ring_stays hZ f (left0 ns) (fun z hz => by
        with_reducible refine hide ?_
        intro GG hGG
        obtain ⟨y, _, hf⟩ := hZ z hz
        with_reducible refine hGG ?_
        clear hGG GG
        exact mem_left0.mpr ⟨_, mem_fol.mp hf, .inl rfl⟩) z (.head _)
      cases e : (dueR ns f (left0 ns)).2 with
      | nil => rw [e] at this; cases this
      | cons _ _ => rfl
  | false =>
    with_reducible refine hide ?_
    intro GG hGG
    obtain ⟨fin, hE, hall⟩ := h2 rfl
    with_reducible refine hGG ?_
    clear hGG GG
    have := ended_none hE (fun y hy => hall y (by have := hsub y hy; rw [(left0_perm ns).mem_iff, ← hv, view_names] at this; exact this)) he
    rw [this]; rfl
theorem dueR_sub (ns : List (Str × Str)) : ∀ f left, ∀ y ∈ (dueR ns f left).2, y ∈ left
  | 0, _, y, h => h
  | f + 1, left, y, h => by
    unfold dueR at h
    split at h
    · exact h
    · exact (mem_later.mp (dueR_sub ns f _ y h)).1
end

section
local macro_rules | `(tactic| walk_at "subscriptTail Name Name ref int") => `(tactic| walk_at "Y 11")
local macro_rules | `(tactic| walk_at "subscriptTail Name BinOp ref int") => `(tactic| walk_at "Y 11")
section
theorem item_at {w : World} {A : Around} {E : Value → Shared → Prop} {s : Shared} {value slice : PySem.Expr} {l : Addr} {vs : List Value} {k : Int} {x : Value} {t : Tok} {Q : Value → Shared → Prop} (hl : s.heap.IsList l vs.toArray) (h0 : 0 ≤ k) (h1 : k < 2 ^ 63) (hx : vs[k.toNat]? = some x) (h : Q x s)
    (hs : subscripted slice false (.ref l) (.int k t) = operate [.ref l, .int k t] (getItem (.ref l) (.int k t)) := by with_unfolding_all rfl) :
    wpAny (model PP w) A (subscriptTail value slice (.ref l) (.int k t)) Q E s :=
  tail_any hl.typeIs slot_list_getitem.lookup (wpAny_getItem_list hl h0 h1 (by simpa using hx) h) hs
open PyProof.Rows.TI (Frs SameUp)
theorem for_range {w : World} {A : Around} {env : Env} {g : Heap} {L R : Addr} {a b c : Int} {t u v : Tok} {n : Nat} {target : Expr} {body : List Stmt} {Q : Flow → Shared → Prop} {E : Value → Shared → Prop} {s : Shared}
    {m₀ : Str → Option Value} {news₀ : List (Addr × Obj)} (hh : A.handled = none) (hr : IsRange s.heap R a b c t u v) (hs : Builtin.Range.small a b c = true) (hn : Builtin.Range.rangeSize a b c = n)
    (J : (Str → Option Value) → Nat → (Str → Option Value) → List (Addr × Obj) → Prop) (F₀ : Fr g L s.heap m₀) (N₀ : News g L s.heap news₀) (J₀ : J m₀ 0 m₀ news₀)
    (turn : ∀ i t I oI h tk m news, i < n → J m₀ i m news → Fr g L h m → News g L h ((I, oI) :: news) → (∀ p ∈ news, p.1 ≠ I) → (∀ b o, s.heap.get? b = some o → b < I) →
      wpAny (model PP w) A (assign target env (.int (a + i * c) t)) (fun _ s₂ => wpAny (model PP w) A (execs body env) (fun f s₃ => match f with
        | .next | .cont => Stop (NextI g L I oI s (J m₀ (i + 1)) s₃)
        | .brk => Q .next s₃
        | .ret v => Q (.ret v) s₃) (fun _ _ => False) s₂) (fun _ _ => False) { s with heap := h, toks := tk })
    (done : ∀ h tk m news, J m₀ n m news → Fr g L h m → News g L h news → Q .next { s with heap := h, toks := tk })
    (ht : ∀ I v, letOwnedTupleGo target (.ref I) v = pure () := by intro _ _; rfl) :
    wpAny (model PP w) A (pyIter (.ref R)) (fun it s₂ => codeAny (model PP w) A (.forLoop target it body [] env) (fun r s' => match r with | .ok f => Q f s' | .error _ => False) s₂) E s := by
  refine wpAny_pyIter_range hr hs ?_
  rw [hn]
  have up : ∀ b o, s.heap.get? b = some o → (s.heap.push { cls := .type "range_iterator", data := .fields #[rawInt a, rawInt n, rawInt c] }).get? b = some o := fun b o e => Heap.get?_push_of_some _ e
  refine for_news (s := { s with heap := _ }) (Walks.range hh s.heap.objs.size a c n) (J m₀) (fr_push1 F₀) (F₀.kept up) (N₀.grown up) (fun p hp => Nat.ne_of_lt (Heap.lt_size (N₀ p hp).1)) J₀
    ?_ (fun i h st => ⟨_, st⟩) (fun i h h' o m' news' st e e' F' N' j => ?_)
    (fun i x oI h tk m news hi hP j F N off => ?_) done (ht _)
  · have e : a + ((0 : Nat) : Int) * c = a := by rw [Int.natCast_zero, Int.zero_mul, Int.add_zero]
    rw [e, Int.natCast_zero, Int.sub_zero]
    exact Heap.get?_push_size _ rfl
  · have : h.get? s.heap.objs.size = h'.get? s.heap.objs.size := by rw [e, e']
    unfold IsRangeIter at st ⊢
    rw [← this]; exact st
  · obtain ⟨t', rfl⟩ := hP
    exact turn i t' _ oI h tk m news hi j F N off fun b o e => Heap.lt_size e
noncomputable def ToldAt (w : World) (x dx nd : Addr) (ns : List (Str × Str)) (news : List (Addr × Obj)) (G : List Nd) (u1 u2 : Tok) (h₀ : Heap) : Prop :=
  view G = vall ns ∧ (∀ q ∈ G, OkSu q) ∧ (feet x dx nd G).Nodup ∧ ∃ t1 t2 t3 t4 od, od.IsDictOf (PySem.strKind PP w) (G.map fun r => (r.nm, Value.ref r.ia)) ∧
    news = (x, instObj 171 dx) :: (dx, dictOf (sdict w.params t1 t2 t3 t4 (.ref nd) .none (.int 0 u1) (.int 0 u2)) 4) :: (nd, od) :: led G
theorem view_su {ns : List (Str × Str)} {G : List Nd} (h : view G = vall ns) : ∀ r ∈ G, r.su.length ≤ ns.length := fun r hr => by
  have := (vall_is ns).su r.view (h ▸ List.mem_map_of_mem hr)
  have e : (r.su.map strOf).length = _ := congrArg List.length this
  rw [List.length_map, List.length_map] at e
  rw [e]; exact List.length_filter_le _ _
theorem view_names' {ns : List (Str × Str)} {G : List Nd} (h : view G = vall ns) : G.map (·.nm) = (vall ns).map (·.1) := by rw [← h, view_names]
noncomputable def flat (ns : List (Str × Str)) : List Str := ns.flatMap fun p => [p.1, p.2]
theorem flat_len (ns : List (Str × Str)) : (flat ns).length = 2 * ns.length := by
  induction ns with
  | nil => rfl
  | cons a l ih => rw [show flat (a :: l) = a.1 :: a.2 :: flat l from rfl, List.length_cons, List.length_cons, List.length_cons, ih]; omega
theorem flat_at (ns : List (Str × Str)) (i : Nat) (p : Str × Str) (h : ns[i]? = some p) : (flat ns)[2 * i]? = some p.1 ∧ (flat ns)[2 * i + 1]? = some p.2 := by
  induction ns generalizing i with
  | nil => cases h
  | cons a l ih =>
    cases i with
    | zero => cases h; exact ⟨rfl, rfl⟩
    | succ i => exact ih i h
theorem feet_all {P : Addr → Prop} {x dx nd : Addr} {G : List Nd} (hx : P x) (hdx : P dx) (hnd : P nd) (hl : ∀ p ∈ led G, P p.1) : ∀ a ∈ feet x dx nd G, P a := fun a ha => by
  rcases List.mem_cons.mp ha with rfl | ha
  · exact hx
  rcases List.mem_cons.mp ha with rfl | ha
  · exact hdx
  rcases List.mem_cons.mp ha with rfl | ha
  · exact hnd
  with_reducible refine hide ?_
  intro GG hGG
  obtain ⟨p, hp, rfl⟩ := List.mem_map.mp (led_addrs G ▸ ha)
  with_reducible refine hGG ?_
  clear hGG GG
  exact hl p hp
theorem Sor.ledger {w : World} {g h : Heap} {L x dx nd : Addr} {G : List Nd} {rd np nf : Value} (S : Sor w h x dx nd G rd np nf) (O : Off g L (feet x dx nd G)) :
    ∃ t1 t2 t3 t4 od, od.IsDictOf (PySem.strKind PP w) (G.map fun r => (r.nm, Value.ref r.ia)) ∧
      News g L h ((x, instObj 171 dx) :: (dx, dictOf (sdict w.params t1 t2 t3 t4 (.ref nd) rd np nf) 4) :: (nd, od) :: Mine.led G) := by
  with_reducible refine hide ?_
  intro GG hGG
  refine cps_EEEE (S.dict) ?_
  intro t1 t2 t3 t4 hdict
  obtain ⟨od, hod, hD⟩ := S.map
  with_reducible refine hGG ?_
  clear hGG GG
  refine ⟨t1, t2, t3, t4, od, hD, List.forall_mem_cons.mpr ⟨⟨S.self, O _ (.head _)⟩, List.forall_mem_cons.mpr ⟨⟨hdict, O _ (.tail _ (.head _))⟩, List.forall_mem_cons.mpr ⟨⟨hod, O _ (.tail _ (.tail _ (.head _)))⟩, fun p hp => ⟨S.led p hp, O _ ?_⟩⟩⟩⟩⟩
  exact .tail _ (.tail _ (.tail _ (led_addrs G ▸ List.mem_map_of_mem (f := (·.1)) hp)))
theorem news_pre {g h h' : Heap} {L : Addr} {pre post : List (Addr × Obj)} {foot : List Addr} (N : News g L h pre) (k : ∀ b o, h.get? b = some o → b ∉ foot → h'.get? b = some o) (hf : ∀ p ∈ pre, p.1 ∉ foot) (N' : News g L h' post) : News g L h' (pre ++ post) := fun p hp =>
  (List.mem_append.mp hp).elim (fun hp => ⟨k _ _ (N p hp).1 (hf p hp), (N p hp).2⟩) (N' p)
theorem new_off {g h : Heap} {L a : Addr} {m : Str → Option Value} (F : Fr g L h m) (z : h.get? a = none) : a ≠ L ∧ g.get? a = none := by
  refine ⟨fun q => ?_, ?_⟩
  · refine cps_EEEA (F.ns) ?_
    intro oL _ _ hL _
    rw [q, hL] at z
    cases z
  · cases e : g.get? a with
    | none => rfl
    | some o =>
      have z' := F.keep _ _ e
      rw [z] at z'
      cases z'
noncomputable def tdFn : Stmt := stAt PP.main.body 16
noncomputable def tdFor : Stmt := stAt (stBody tdFn) 1
noncomputable def tdTry : Stmt := stAt (stBody tdFn) 3
noncomputable def tdWhile : Stmt := stAt (stBody tdFn) 5
@[reducible] noncomputable def tdEnv (L : Addr) : Env := envOf (Str.ofString "_law_told") (stScope tdFn) L 199 (.ref 198)
@[reducible] noncomputable def tdm0 (ln x : Addr) : Str → Option Value := fun y => if y = Str.ofString "sorter" then some (.ref x) else if y = Str.ofString "names" then some (.ref ln) else none

theorem range_fits : ∀ k : Nat, k ≤ 11 → Builtin.Range.small 0 ((2 * k : Nat) : Int) 2 = true ∧ Builtin.Range.rangeSize 0 ((2 * k : Nat) : Int) 2 = k := by decide

inductive TfJ (w : World) (ns : List (Str × Str)) (vs : List Value) (lp : Nat) (ln x dx nd : Addr) (u1 u2 : Tok) (i : Nat) (news : List (Addr × Obj)) : Prop
  | mk (G : List Nd) (t1 t2 t3 t4 : Tok) (od : Obj) (hD : od.IsDictOf (PySem.strKind PP w) (G.map fun r => (r.nm, Value.ref r.ia))) (hv : view G = vall (ns.take i)) (hok : ∀ q ∈ G, OkSu q) (ap : (ln :: feet x dx nd G).Nodup) (hl : G.length ≤ 2 * i)
      (e : news = (ln, W.listOf vs.toArray lp) :: (x, instObj 171 dx) :: (dx, dictOf (sdict w.params t1 t2 t3 t4 (.ref nd) .none (.int 0 u1) (.int 0 u2)) 4) :: (nd, od) :: led G)
set_option maxHeartbeats 8000000 in
theorem told_for {w : World} {g base h : Heap} {L ln x dx nd : Addr} {d u n tk : Nat} {outer : List Env} {loose : List Str} {mean : ExcName → Option Value} {mg mb : Str → Option Value} {vs : List Value} {lp : Nat} {ns : List (Str × Str)} {t1 t2 t3 t4 u1 u2 : Tok} {od : Obj} {s : Shared} {Q : Flow → Shared → Prop}
   (B : Below (mkA d u outer) base outer g) (X : (hd.heap_39 w.params).In g) (T : Top hd.view_39 loose mean mg mb g) (hd : d + n + 30 ≤ 900) (hu : u + 20 * n + 600 ≤ 9000)
   (hvs : StrsAre vs (flat ns)) (hnl : ns.length ≤ 11) (hD : od.IsDictOf (PySem.strKind PP w) []) (lo : (nd == sysModules) = false) (ap : (ln :: feet x dx nd []).Nodup)
   (F₀ : Fr g L h (tdm0 ln x)) (N₀ : News g L h ((ln, W.listOf vs.toArray lp) :: (x, instObj 171 dx) :: (dx, dictOf (sdict w.params t1 t2 t3 t4 (.ref nd) .none (.int 0 u1) (.int 0 u2)) 4) :: (nd, od) :: []))
   (hq : ∀ h' tk' kv G t1 t2 t3 t4 od, Fr g L h' (fun y => if y = Str.ofString "k" then kv else tdm0 ln x y) → News g L h' ((ln, W.listOf vs.toArray lp) :: (x, instObj 171 dx) :: (dx, dictOf (sdict w.params t1 t2 t3 t4 (.ref nd) .none (.int 0 u1) (.int 0 u2)) 4) :: (nd, od) :: led G) →
     od.IsDictOf (PySem.strKind PP w) (G.map fun r => (r.nm, Value.ref r.ia)) → view G = vall ns → (∀ q ∈ G, OkSu q) → (ln :: feet x dx nd G).Nodup → G.length ≤ 22 → Q .next { s with heap := h', toks := tk' }) :
   wpAny (model PP w) ((mkA d u outer).deeper (tdEnv L)) (exec tdFor (tdEnv L)) Q (fun _ _ => False) { s with heap := h, toks := tk } := by
  have eW : tdFor = .For _ _ _ _ _ := rfl
  have eS : stScope tdFn = { kind := _, names := _, isGenerator := _, isCoroutine := _, more := _ } := rfl
  rw [tdEnv, eS, eW]
  clear eW eS
  have hvl2 : vs.length = 2 * ns.length := by rw [strs_len hvs, flat_len]
  refine for_stmt ?_
  k_steps
  rename IsRange _ _ _ _ _ _ _ _ => hrg
  rename Fr g L _ _ => F1
  rename News g L _ _ => N1
  obtain ⟨hs1, hs2⟩ := range_fits ns.length hnl
  have hvz : vs.toArray.size = 2 * ns.length := by rw [List.size_toArray, hvl2]
  rw [hvz] at hrg
  refine for_range rfl hrg hs1 hs2 (fun m₀ i m news => (∀ y, y ≠ Str.ofString "k" → m y = m₀ y) ∧ TfJ w ns vs lp ln x dx nd u1 u2 i news) F1 N1 ⟨fun _ _ => rfl, [], t1, t2, t3, t4, od, hD, rfl, (fun _ h => nomatch h), ap, by simp, rfl⟩ ?_ ?_
  · intro i t I oI h3 tk3 m news hi hXX
    obtain ⟨hm, G, y1, y2, y3, y4, od2, hD2, hv, hok, ap2, hlen, rfl⟩ := hXX
    intro F N offI fresh
    with_reducible refine hideT ?_
    intro Qi hQi
    have F2 := fr_norm F hm
    clear F hm F1 N1
    with_reducible refine hide ?_
    intro GG hGG
    obtain ⟨p, hp⟩ : ∃ p, ns[i]? = some p := ⟨_, List.getElem?_eq_getElem hi⟩
    obtain ⟨hp1, hp2⟩ := flat_at ns i p hp
    have hi1 : 2 * i < vs.length := by omega
    have hi2 : 2 * i + 1 < vs.length := by omega
    refine cps_EEA (strs_get hvs (List.getElem?_eq_getElem hi1)) ?_
    intro k1 a1 b1 e1
    refine cps_EEA (strs_get hvs (List.getElem?_eq_getElem hi2)) ?_
    intro k2 a2 b2 e2
    with_reducible refine hGG ?_
    clear hGG GG
    rw [hp1] at b1; cases b1
    rw [hp2] at b2; cases b2
    have v1 : vs[2 * i]? = some (.str p.1 a1) := by rw [List.getElem?_eq_getElem hi1, e1]
    have v2 : vs[2 * i + 1]? = some (.str p.2 a2) := by rw [List.getElem?_eq_getElem hi2, e2]
    have ek : (0 : Int) + (i : Int) * 2 = ((2 * i : Nat) : Int) := by omega
    rw [ek]
    have v1' : vs[(((2 * i : Nat) : Int)).toNat]? = some (.str p.1 a1) := by rw [Int.toNat_natCast]; exact v1
    have v2' : vs[(((2 * i : Nat) : Int) + 1).toNat]? = some (.str p.2 a2) := by rw [show (((2 * i : Nat) : Int) + 1).toNat = 2 * i + 1 by omega]; exact v2
    clear e1 e2 hrg
    k_steps
    refine ⟨?_⟩
    rename Fr g L _ _ => F3
    rename News g L _ _ => N3
    have S3 := Sor.all (N3 _ (.tail _ (.tail _ (.head _)))).1 (N3 _ (.tail _ (.tail _ (.tail _ (.head _))))).1 (N3 _ (.tail _ (.tail _ (.tail _ (.tail _ (.head _)))))).1 hD2 (fun p hp => (N3 p (.tail _ (.tail _ (.tail _ (.tail _ (.tail _ hp)))))).1) (List.nodup_cons.mp ap2).2
    have O3 : Off g L (feet x dx nd G) := feet_all (N3 _ (.tail _ (.tail _ (.head _)))).2 (N3 _ (.tail _ (.tail _ (.tail _ (.head _))))).2 (N3 _ (.tail _ (.tail _ (.tail _ (.tail _ (.head _)))))).2 (fun p hp => (N3 p (.tail _ (.tail _ (.tail _ (.tail _ (.tail _ hp)))))).2)
    have hlnN := (List.nodup_cons.mp ap2).1
    have hIf : I ∉ feet x dx nd G := fun q => feet_all (P := fun a => a ≠ I) (offI _ (.tail _ (.head _))) (offI _ (.tail _ (.tail _ (.head _)))) (offI _ (.tail _ (.tail _ (.tail _ (.head _))))) (fun p hp => offI p (.tail _ (.tail _ (.tail _ (.tail _ hp))))) I q rfl
    have hnn : (G.map (·.nm)).Nodup := by rw [view_names' hv]; exact (vall_is _).nd
    have hsl : ∀ r ∈ G, r.su.length ≤ 1000 := fun r hr => Nat.le_trans (view_su hv r hr) (by rw [List.length_take]; omega)
    refine use_call (n + 10) B F3 N3 X T ⟨by omega, by omega⟩ (fun b' A' C1 k1 n1 => add_spec C1 k1 S3 (feet_all (n1 _ (.tail _ (.tail _ (.head _)))) (n1 _ (.tail _ (.tail _ (.tail _ (.head _))))) (n1 _ (.tail _ (.tail _ (.tail _ (.tail _ (.head _)))))) (fun p hp => n1 p (.tail _ (.tail _ (.tail _ (.tail _ (.tail _ hp))))))) lo hnn (by omega) hsl) O3 ?_ rfl
    intro v h4 tk4 F4 k4 hXX
    refine cps_EAAAAA hXX ?_
    intro G' S4 hv4 hf4 hn4 hl4 hok4
    clear hXX
    have O4 := O3.more F3 hf4
    refine cps_EEEEEA (S4.ledger O4) ?_
    intro z1 z2 z3 z4 od4 hD4 N4
    have N5 := news_pre (pre := [(I, oI), (ln, W.listOf vs.toArray lp)]) (List.forall_mem_cons.mpr ⟨N3 _ (.head _), List.forall_mem_cons.mpr ⟨N3 _ (.tail _ (.head _)), fun _ h => nomatch h⟩⟩) k4 (List.forall_mem_cons.mpr ⟨hIf, List.forall_mem_cons.mpr ⟨hlnN, fun _ h => nomatch h⟩⟩) N4
    have hIf4 : I ∉ feet x dx nd G' := fun q => (hf4 I q).elim hIf fun e => by rw [(N3 _ (.head _)).1] at e; cases e
    have hln4 : ln ∉ feet x dx nd G' := fun q => (hf4 ln q).elim hlnN fun e => by rw [(N3 _ (.tail _ (.head _))).1] at e; cases e
    have hv5 : view G' = vall (ns.take (i + 1)) := by rw [hv4, hv, List.take_add_one, hp]; exact (vall_snoc _ _).symm
    clear F3 N3 N4
    k_steps
    show Qi _ _
    refine hQi _ _ ?_
    refine ⟨?_⟩
    refine ⟨_, _, _, _, rfl, F4, N5, ?_, fun y h => by simp [h], G', z1, z2, z3, z4, od4, hD4, hv5, hok4 hok, List.nodup_cons.mpr ⟨hln4, S4.apart⟩, by omega, rfl⟩
    refine List.forall_mem_cons.mpr ⟨offI _ (.head _), List.forall_mem_cons.mpr ⟨fun q => hIf4 (q ▸ .head _), List.forall_mem_cons.mpr ⟨fun q => hIf4 (q ▸ .tail _ (.head _)), List.forall_mem_cons.mpr ⟨fun q => hIf4 (q ▸ .tail _ (.tail _ (.head _))), fun p hp q => hIf4 (q ▸ .tail _ (.tail _ (.tail _ (led_addrs G' ▸ List.mem_map_of_mem (f := (·.1)) hp))))⟩⟩⟩⟩
  · intro h3 tk3 m news hXX
    obtain ⟨hm, G, y1, y2, y3, y4, od2, hD2, hv, hok, ap2, hlen, rfl⟩ := hXX
    intro F N
    rw [List.take_length] at hv
    exact hq _ _ _ G _ _ _ _ od2 (fr_norm F hm) N hD2 hv hok ap2 (by omega)
end
section
open PyProof.Rows.TI (Frs SameUp)
theorem catch_own {w : World} {E : Value → Shared → Prop} {s' : Shared} {g B : Heap} {d u : Nat} {outer : List Env} {L a e C : Addr} {a0 : Value} {m : Str → Option Value} {name : Str} {scope : Scope} {cd : Value} {bmB : List Value} {newId : String}
    {b₀ : Stmt} {suite : List Stmt} {pos np : Pos} {rest : List ExceptHandler} {Q : Flow → Shared → Prop} {frs new : List (Addr × Obj)} {loose : List Str} {mean : ExcName → Option Value} {mg mb : Str → Option Value} {x : Str}
    (hfl : Heap.FlyingW B (envOf name scope L a cd :: outer) e (.ref C) a0 s'.heap) (Fs : Frs outer frs) (hns : s'.heap.Ns L m) (ht : ∀ p ∈ frs, s'.heap.get? p.1 = some p.2) (kB : g.StaysIn B) (hab : g.objs.size ≤ L) (XB : (hd.heap_39 w.params).In g) (TB : Top hd.view_39 loose mean mg mb g)
    (hnew : ∀ p ∈ new, B.get? p.1 = some p.2 ∧ p.1 ≠ L ∧ g.get? p.1 = none) (hfg : ∀ p ∈ frs, p.1 ≠ L ∧ g.get? p.1 = none)
    (ex : nsIn (hd.heap_39 w.params) mainGlobals x = some (some (.ref C))) (q : excIn (hd.heap_39 w.params) C bmB newId = true) (hbase : bmB.contains (.type "BaseException") = true)
    (k : ∀ h' frs', SameUp frs frs' → Frs outer frs' → Fr g L h' m → News g L h' (new ++ frs') →
      wpAny (model PP w) (((mkA d u outer).deeper (envOf name scope L a cd)).mark (some (.ref e))) (execs (b₀ :: suite) (envOf name scope L a cd)) Q E { s' with heap := h' })
    (hk : scope.kind = .function := by rfl) (hx : (envOf name scope L a cd).kindOf x = some .globalImplicit := by rfl) (hdb : (x == ("__debug__" : Str)) = false := by decide)
    (hE : PassesOwnAt (model PP w) (((mkA d u outer).deeper (envOf name scope L a cd)).mark (some (.ref e))) ((mkA d u outer).deeper (envOf name scope L a cd)) (envOf name scope L a cd) E := by passes_own) :
    wpAny (model PP w) ((mkA d u outer).deeper (envOf name scope L a cd)) (noteFrame (.ref e) (envOf name scope L a cd))
      (fun _ s₂ => wpAny (model PP w) ((mkA d u outer).deeper (envOf name scope L a cd)) (setFlight (.ref e) none) (fun _ s₃ =>
        wpAny (model PP w) ((mkA d u outer).deeper (envOf name scope L a cd)) (handleBy (.ref e) (envOf name scope L a cd) (.ExceptHandler (some (.Name x np)) none (b₀ :: suite) pos :: rest)) Q E s₃) E s₂) E s' := by
  refine wpAny_looks_onW (Around.frames_deeper rfl) rfl hfl fun h₄ hh₄ hsm₄ => ?_
  refine wpAny_landsW hh₄ fun h₅ hh hsm₅' => ?_
  have hsm₅ := hsm₄.trans hsm₅'
  have F₅ : Fr g L h₅ m := ⟨hsm₅.ns hns, fun b o z => hh.1 b o (kB b o z), hab⟩
  with_reducible refine hide ?_
  intro GG hGG
  obtain ⟨ob, hob, hobc⟩ := hh.there
  with_reducible refine hGG ?_
  clear hGG GG
  refine wpAny_handleBy_cons (codeAny_handlers_test (name_K F₅ XB (topRead_of TB) ex ?_ hk hx hdb)) (by intro z; cases z)
  refine cps_EEEEEEEEEEEEEEEEEAAA (((own_of_in XB (topRead_of TB) ex q).keeps F₅.keep).obj) ?_
  intro bm N nm qn bs hdct sn sub ab col dd k0 k1 k2 k3 k5 mN hC hN hni TL
  refine wpAny_excMatches_sub_self hC hob hobc (TL.hasType hbase) (codeAny_handlers_suite ?_)
  refine lands_againW hh fun h₆ hh₆ hsm₆ => ?_
  have F₆ : Fr g L h₆ m := ⟨(hsm₅.trans hsm₆).ns hns, fun b o z => hh₆.1 b o (kB b o z), hab⟩
  with_reducible refine hide ?_
  intro GG hGG
  obtain ⟨frs', SU, ht'⟩ := TI.sameUp_of (frs := frs) (h' := h₆) fun p hp => (hsm₅.trans hsm₆) _ _ (ht p hp) fun vs z => by
    obtain ⟨es, ep, z'⟩ := Fs.dict p hp
    rw [z'] at z; cases z
  with_reducible refine hGG ?_
  clear hGG GG
  refine wpAny_passesOwnAt hE (k h₆ frs' SU (Fs.up SU) F₆ fun p hp => ?_)
  rcases List.mem_append.mp hp with hp | hp
  · exact ⟨hh₆.1 _ _ (hnew p hp).1, (hnew p hp).2⟩
  · with_reducible refine hide ?_
    intro GG hGG
    obtain ⟨y, hy, z⟩ := SU.fwd p hp
    with_reducible refine hGG ?_
    clear hGG GG
    exact ⟨ht' p hp, by rw [z]; exact hfg y hy⟩
@[reducible] noncomputable def tdm1 (ln x : Addr) (kv : Option Value) (rv : Value) : Str → Option Value := fun y => if y = Str.ofString "ring" then some rv else if y = Str.ofString "k" then kv else tdm0 ln x y

set_option maxHeartbeats 8000000 in
theorem told_try {w : World} {g h : Heap} {L ln x dx nd : Addr} {d u n tk : Nat} {outer : List Env} {frs : List (Addr × Obj)} {loose : List Str} {mean : ExcName → Option Value} {mg mb : Str → Option Value} {vs : List Value} {lp : Nat} {t1 t2 t3 t4 u1 u2 ut : Tok} {od : Obj} {G : List Nd} {kv : Option Value} {s : Shared} {Q : Flow → Shared → Prop}
   (Fs₀ : Frs outer frs) (X : (hd.heap_39 w.params).In g) (T : Top hd.view_39 loose mean mg mb g) (hd : d + n + 30 ≤ 900) (hu : u + 20 * n + 600 ≤ 9000)
   (hD : od.IsDictOf (PySem.strKind PP w) (G.map fun r => (r.nm, Value.ref r.ia))) (lo : (nd == sysModules) = false) (ap : (ln :: feet x dx nd G).Nodup) (hnn : (G.map (·.nm)).Nodup) (hsz : G.length ≤ 90) (hok : SuOk G)
   (hfl₀ : ∀ p ∈ frs, p.1 < L) (hfa₀ : ∀ p ∈ frs, p.1 ∉ ln :: feet x dx nd G)
   (F₀ : Fr g L h (tdm1 ln x kv (.bool false))) (N₀ : News g L h (((ln, W.listOf vs.toArray lp) :: fclow w x dx nd t1 t2 t3 t4 .none (.int 0 u1) (.int 0 u2) od G) ++ frs))
   (hq : ∀ h' tk' rb rl vs' ep' t1 t2 t3 t4 od' frs', SameUp frs frs' → Frs outer frs' → Fr g L h' (tdm1 ln x kv (.bool rb)) → News g L h' (((ln, W.listOf vs.toArray lp) :: (rl, W.listOf vs'.toArray ep') :: fclow w x dx nd t1 t2 t3 t4 (.ref rl) (.int 0 u1) (.int 0 u2) od' G) ++ frs') →
     od'.IsDictOf (PySem.strKind PP w) (G.map fun r => (r.nm, Value.ref r.ia)) → StrsAre vs' (zeros G) → h.get? rl = none → (rb = true → Ring (succOf G)) → (rb = false → ∃ fin, Ended (succOf G) fin ∧ ∀ k ∈ G.map (·.nm), k ∈ fin) → Q .next { s with heap := h', toks := tk' }) :
   wpAny (model PP w) ((mkA d u outer).deeper (tdEnv L)) (exec tdTry (tdEnv L)) Q (fun _ _ => False) { s with heap := h, toks := tk } := by
  have eW : tdTry = .Try _ _ _ _ _ := rfl
  have eS : stScope tdFn = { kind := _, names := _, isGenerator := _, isCoroutine := _, more := _ } := rfl
  rw [tdEnv, eS, eW]
  clear eW eS
  have hap : ∀ p ∈ frs, p.1 ∉ ((ln, W.listOf vs.toArray lp) :: fclow w x dx nd t1 t2 t3 t4 .none (.int 0 u1) (.int 0 u2) od G).map (·.1) := fun p hp => by rw [List.map_cons, fclow_addr]; exact hfa₀ p hp
  refine cps_EAAAAAAAA (rebaseS d u F₀ Fs₀ (fun p hp => N₀ p (List.mem_append_right _ hp)) hfl₀ X T _ (fun p hp => N₀ p (List.mem_append_left _ hp)) hap) ?_
  intro g1 F1 N1 k1 K1 K2 hfr1 B1 X1 T1
  have hfrN : Stop (News g L h frs) := ⟨fun p hp => N₀ p (List.mem_append_right _ hp)⟩
  have hFg := Stop.mk F₀
  have hN₀ := Stop.mk N₀
  clear F₀ N₀
  dsimp only [fclow] at N1
  k_steps
  refine ⟨?_⟩
  have S1 := Sor.all (N1 _ (.tail _ (.head _))).1 (N1 _ (.tail _ (.tail _ (.head _)))).1 (N1 _ (.tail _ (.tail _ (.tail _ (.head _))))).1 hD (fun p hp => (N1 p (.tail _ (.tail _ (.tail _ (.tail _ hp))))).1) (List.nodup_cons.mp ap).2
  have N2 := hN₀.go
  have N3 : News g L h ((ln, W.listOf vs.toArray lp) :: (x, instObj 171 dx) :: (dx, dictOf (sdict w.params t1 t2 t3 t4 (.ref nd) .none (.int 0 u1) (.int 0 u2)) 4) :: (nd, od) :: led G) := fun p hp => N2 p (List.mem_append_left _ hp)
  have O1 : Off g L (feet x dx nd G) := feet_all (N3 _ (.tail _ (.head _))).2 (N3 _ (.tail _ (.tail _ (.head _)))).2 (N3 _ (.tail _ (.tail _ (.tail _ (.head _))))).2 (fun p hp => (N3 p (.tail _ (.tail _ (.tail _ (.tail _ hp))))).2)
  have F2 := hFg.go
  have hlnf := (List.nodup_cons.mp ap).1
  refine use_callE (n + 20) F2 Fs₀ N2 X T ⟨by omega, by omega⟩ (fun b' A' oL C1 k1 n1 => prep_spec C1 k1 S1 (feet_all (n1 _ (.tail _ (.head _))) (n1 _ (.tail _ (.tail _ (.head _)))) (n1 _ (.tail _ (.tail _ (.tail _ (.head _))))) (fun p hp => n1 p (.tail _ (.tail _ (.tail _ (.tail _ hp)))))) lo hnn hsz hok (List.forall_mem_cons.mpr ⟨fun q => (O1 L q).1 rfl, fun p hp q => hfa₀ p hp (.tail _ q)⟩))
    (fun y hy => by rw [List.mem_singleton.mp hy]; exact O1 dx (.tail _ (.head _))) ?_ ?_ rfl
  · intro v h' tk' fr' SU' Fs' F' Nf' keep hXX
    refine cps_AAEA hXX ?_
    rintro rfl ⟨rl, ⟨l⟩, ep', S', hrl, hstr, hrln⟩ fin hfin hall
    clear hXX
    refine cps_EEEEEA (S'.ledger O1) ?_
    intro z1 z2 z3 z4 od' hD' N4
    have hlnk := keep ln _ (N3 _ (.head _)).1 (fun q => hlnf (by rw [List.mem_singleton.mp q]; exact .tail _ (.head _))) (N3 _ (.head _)).2.1 (fun q => by
      with_reducible refine hide ?_
      intro GG hGG
      obtain ⟨p, hp, e⟩ := List.mem_map.mp q
      with_reducible refine hGG ?_
      clear hGG GG
      exact hfa₀ p hp (by rw [show p.1 = ln from e]; exact .head _))
    have N5 := news_cons1 hlnk (N3 _ (.head _)).2.1 (N3 _ (.head _)).2.2 (news_cons1 hrl (new_off F2 hrln).1 (new_off F2 hrln).2 N4)
    clear F1 N1 N2 N3 F2 N4 B1 X1 T1 S1
    k_steps
    refine hq _ _ false rl l ep' _ _ _ _ od' fr' SU' Fs' F' (fun p hp => (List.mem_append.mp hp).elim (N5 p) (Nf' p)) hD' hstr hrln (fun h => nomatch h) (fun _ => ⟨fin, hfin, hall⟩)
  · intro e a0 h' tk' fr' B SU' Fs' hns ht hfl keep hBL hB kB hP
    with_reducible refine hide ?_
    intro GG hGG
    obtain ⟨⟨rl, ⟨l⟩, ep', S', hrl, hstr, hrln⟩, hring⟩ := hP
    with_reducible refine hGG ?_
    clear hGG GG
    dsimp only
    have OB : Off g L (feet x dx nd G) := O1
    refine cps_EEEEEA (S'.ledger O1) ?_
    intro z1 z2 z3 z4 od' hD' N4
    have hlnk := keep ln _ (N3 _ (.head _)).1 (fun q => hlnf (by rw [List.mem_singleton.mp q]; exact .tail _ (.head _))) (N3 _ (.head _)).2.1 (fun q => by
      with_reducible refine hide ?_
      intro GG hGG
      obtain ⟨p, hp, e⟩ := List.mem_map.mp q
      with_reducible refine hGG ?_
      clear hGG GG
      exact hfa₀ p hp (by rw [show p.1 = ln from e]; exact .head _))
    have N5 := news_cons1 hlnk (N3 _ (.head _)).2.1 (N3 _ (.head _)).2.2 (news_cons1 hrl (new_off F2 hrln).1 (new_off F2 hrln).2 N4)
    refine catch_own hfl Fs' hns ht kB F2.above X T N5 (fun p hp => ?_) (bmB := [.type "ValueError", .type "Exception", .type "BaseException", .type "object"]) (newId := "ValueError.__new__") (by k_is) (by k_exc) (by rfl) ?_
    · with_reducible refine hide ?_
      intro GG hGG
      obtain ⟨y, hy, z⟩ := SU'.fwd p hp
      with_reducible refine hGG ?_
      clear hGG GG
      rw [z]; exact (N2 y (List.mem_append_right _ hy)).2
    clear F1 N1 N2 N3 F2 N4 B1 X1 T1 S1
    intro h6 fr6 SU6 Fs6 F6 N6
    have hfl6 : ∀ p ∈ fr6, p.1 < L := fun p hp => by
      with_reducible refine hide ?_
      intro GG hGG
      obtain ⟨y, hy, z⟩ := (SU'.trans SU6).fwd p hp
      with_reducible refine hGG ?_
      clear hGG GG
      rw [z]; exact hfl₀ y hy
    have hap6 : ∀ p ∈ fr6, p.1 ∉ ((ln, W.listOf vs.toArray lp) :: (rl, W.listOf l.toArray ep') :: fclow w x dx nd z1 z2 z3 z4 (.ref rl) (.int 0 u1) (.int 0 u2) od' G).map (·.1) := fun p hp q => by
      with_reducible refine hide ?_
      intro GG hGG
      obtain ⟨y, hy, z⟩ := (SU'.trans SU6).fwd p hp
      with_reducible refine hGG ?_
      clear hGG GG
      rw [List.map_cons, List.map_cons, fclow_addr, z] at q
      rcases List.mem_cons.mp q with q | q
      · exact hfa₀ y hy (by rw [q]; exact .head _)
      rcases List.mem_cons.mp q with q | q
      · have := (hN₀.go y (List.mem_append_right _ hy)).1
        rw [show y.1 = rl from q, hrln] at this; cases this
      · exact hfa₀ y hy (.tail _ q)
    have N6f : News g L h6 fr6 := fun p hp => N6 p (List.mem_append_right _ hp)
    refine cps_EAAAAAAAA (rebaseS d u F6 Fs6 N6f hfl6 X T ((ln, W.listOf vs.toArray lp) :: (rl, W.listOf l.toArray ep') :: fclow w x dx nd z1 z2 z3 z4 (.ref rl) (.int 0 u1) (.int 0 u2) od' G) (fun p hp => N6 p (List.mem_append_left _ hp)) hap6) ?_
    intro g2 F8 N8 k2 K12 K22 hfr2 B2 X2 T2
    have hF6 := Stop.mk F6
    have hN6 := Stop.mk N6f
    clear F6 N6 N6f N5
    k_steps
    rename Fr g2 _ _ _ => F9
    rename News g2 _ _ _ => N9
    obtain ⟨F10, N10⟩ := back_down hF6.go k2 F9 N9 hN6.go hfr2
    exact hq _ _ true rl l ep' _ _ _ _ od' fr6 (SU'.trans SU6) Fs6 (fr_congr F10 fun y => by by_cases q : y = Str.ofString "ring" <;> simp [tdm1, q]) N10 hD' hstr hrln (fun _ => hring) (fun h => nomatch h)
end
section
section
variable {w : World} {A : Around} {E : Value → Shared → Prop} {s : Shared} {K : Frag} {env : Env}
theorem call_bound_star {o e : Expr} {name : Str} {apos pos p : Pos} {Q : Value → Shared → Prop}
    (h : wpAny (model PP w) A (eval o env) (fun ov s₁ => wpAny (model PP w) A (getAttr ov name true) (fun f s₂ => Stop (∃ q fa self, f = .ref q ∧ fnIn K fa = true ∧ wpAny (model PP w) A (eval e env) (fun v s₃ => StarOf (model PP w) A E v (fun vs s₄ => MethP K q fa self s₄.heap ∧
      codeAny (model PP w) A (.call (.ref fa) ⟨self :: vs, []⟩) (fun r s' => ∃ v, r = .ok (.ret v) ∧ Q v s') s₄) s₃) E s₂)) E s₁) E s)
    (hbase : attributeBase o name env (eval o env) = eval o env := by rfl) : wpAny (model PP w) A (eval (.Call (.Attribute o name apos) [.Starred e p] [] pos) env) Q E s := by
  rw [arm_eval_Call, hbase]
  refine wpAny_bind (wpAny_mono h (fun ov s₁ h₁ => wpAny_bind (wpAny_standAt ?_)) fun _ _ x => x)
  show wpAny _ _ (holding [ov] (getAttr ov name true >>= fun f => pure (f, [])) >>= fun fx => pure pos >>= fun cp => callWith cp fx.1 fx.2 (backTo pos (starEach [.Starred e p] env)) []) Q E s₁
  refine wpAny_bind (wpAny_holding (wpAny_bind (wpAny_mono h₁ (fun f s₂ h₂ => wpAny_pure (wpAny_bind (wpAny_pure ?_))) fun _ _ x => x)))
  refine cps_EEEAA (h₂.go) ?_
  rintro q fa self rfl hf h₂
  show wpAny _ _ (callWith pos (.ref q) [] (backTo pos [(true, eval e env)]) []) Q E s₂
  refine ks_call (P := MethP K q fa self) rfl (keeps_M hf) (ks_lone (wpAny_mono h₂ (fun v s₃ h₃ => ?_) fun _ _ x => x))
  refine wpAny_mono h₃ (fun b s₄ h₄ => ⟨h₄.1, wpAny_mono h₄.2 (fun vs s₅ h₅ => ⟨h₅.1, ?_⟩) fun _ _ x => x⟩) fun _ _ x => x
  refine wpAny_call (codeAny_mono (ks_codeAny_call_bound h₅.1.1 h₅.2) fun r s' z => ?_)
  with_reducible refine hide ?_
  intro GG hGG
  obtain ⟨v, rfl, z⟩ := z
  with_reducible refine hGG ?_
  clear hGG GG
  exact z
end
theorem use_code {w : World} (n : Nat) {d u : Nat} {outer : List Env} {base g : Heap} {s : Shared} {L a : Addr} {m : Str → Option Value} {name : Str} {scope : Scope} {cd : Value} {news : List (Addr × Obj)}
    {loose : List Str} {mean : ExcName → Option Value} {mg mb : Str → Option Value} {f : Value} {args : List Value} {foot : List Addr} {P : Value → Heap → Prop} {R : Result → Shared → Prop}
    (B : Below (mkA d u outer) base outer g) (F : Fr g L s.heap m) (N : News g L s.heap news) (X : (hd.heap_39 w.params).In g) (T : Top hd.view_39 loose mean mg mb g)
    (hd' : d + 1 + n ≤ 900 ∧ u + 3 + 20 * n ≤ 9000)
    (sp : ∀ b A', Cx w n A' b → b.StaysIn s.heap → (∀ p ∈ news, b.get? p.1 = none) → codeAny (model PP w) A' (.call f ⟨args, []⟩) (Ret s foot P) s)
    (hf : ∀ y ∈ foot, y ≠ L ∧ g.get? y = none)
    (h : ∀ v h' tk, Fr g L h' m → (∀ b o, s.heap.get? b = some o → b ∉ foot → h'.get? b = some o) → P v h' → R (.ok (.ret v)) { s with heap := h', toks := tk }) (hk : scope.kind = .function) :
    codeAny (model PP w) ((mkA d u outer).deeper (envOf name scope L a cd)) (.call f ⟨args, []⟩) R s := by
  with_reducible refine hide ?_
  intro GG hGG
  obtain ⟨C1, k1, n1⟩ := cx_call (n := n) (name := name) (scope := scope) (a := a) (cd := cd) B F N X T hd'.1 hd'.2 hk
  with_reducible refine hGG ?_
  clear hGG GG
  refine codeAny_mono (sp _ _ C1 k1 fun p hp => (n1 p hp).2) fun r s' z => ?_
  refine cps_Ret z ?_
  rintro v h' tk rfl rfl k hP
  clear z
  exact h v h' tk (fr_keep F k hf) k hP
end
section
local macro_rules | `(tactic| walk_at "call builtin:sorted") => `(tactic| (walk_at "Y 12"; intro h' D' vs' ss' e' F' N' l1 hS' hp' hs'; (try k_lt l1); (try k_sweep)))
section
open PyProof.Rows.TI (Frs SameUp)
structure Rd where
  a : Addr
  vs : List Value
  ep : Nat
noncomputable def rled (rds : List Rd) : List (Addr × Obj) := rds.map fun r => (r.a, W.listOf r.vs.toArray r.ep)
@[reducible] noncomputable def rrefs (rds : List Rd) : List Value := rds.map fun r => Value.ref r.a
@[reducible] noncomputable def tdm2 (ln x rn : Addr) (kv : Option Value) (rv : Value) : Str → Option Value := fun y => if y = Str.ofString "rounds" then some (.ref rn) else tdm1 ln x kv rv y

theorem off_led {P : Addr → Prop} {rl x dx nd : Addr} {G : List Nd} {N : Str → Int} {U : Str → Tok} (h1 : P rl) (h2 : P x) (h3 : P dx) (h4 : P nd) (h5 : ∀ p ∈ led (put G N U), P p.1) : ∀ a ∈ rl :: feet x dx nd G, P a :=
  put_feet (x := x) (dx := dx) (nd := nd) G N U ▸ List.forall_mem_cons.mpr ⟨h1, feet_all h2 h3 h4 h5⟩
theorem ap_facts {ln rn rl x dx nd : Addr} {G : List Nd} {rds : List Rd} (ap : (ln :: rn :: rl :: (feet x dx nd G ++ rds.map (·.a))).Nodup) :
    (ln ∉ rl :: feet x dx nd G) ∧ (rn ∉ rl :: feet x dx nd G) ∧ (∀ r ∈ rds, r.a ∉ rl :: feet x dx nd G) ∧ (@Ne Nat ln rn) ∧ (@Ne Nat rl rn) ∧ (∀ a ∈ feet x dx nd G, @Ne Nat a rn) ∧ (∀ r ∈ rds, @Ne Nat r.a rn) := by
  have h1 := (List.nodup_cons.mp ap).1
  have ap2 := (List.nodup_cons.mp ap).2
  have h2 := (List.nodup_cons.mp ap2).1
  have ap3 := (List.nodup_cons.mp ap2).2
  have h3 := (List.nodup_cons.mp ap3).1
  with_reducible refine hide ?_
  intro GG hGG
  obtain ⟨_, _, h4⟩ := List.nodup_append.mp (List.nodup_cons.mp ap3).2
  with_reducible refine hGG ?_
  clear hGG GG
  refine ⟨fun q => h1 (.tail _ ?_), fun q => h2 ?_, fun r hr q => ?_, fun q => h1 (q ▸ .head _), fun q => h2 (q ▸ .head _), fun a ha q => h2 (.tail _ (List.mem_append_left _ (q ▸ ha))), fun r hr q => h2 (.tail _ (List.mem_append_right _ (q ▸ List.mem_map_of_mem (f := (·.a)) hr)))⟩
  · rcases List.mem_cons.mp q with q | q
    · exact q ▸ .head _
    · exact .tail _ (List.mem_append_left _ q)
  · rcases List.mem_cons.mp q with q | q
    · exact q ▸ .head _
    · exact .tail _ (List.mem_append_left _ q)
  · rcases List.mem_cons.mp q with q | q
    · exact h3 (List.mem_append_right _ (q ▸ List.mem_map_of_mem (f := (·.a)) hr))
    · exact h4 _ q _ (List.mem_map_of_mem (f := (·.a)) hr) rfl
theorem mem_rled {rds : List Rd} {p : Addr × Obj} (h : p ∈ rled rds) : ∃ r ∈ rds, p = (r.a, W.listOf r.vs.toArray r.ep) := by
  with_reducible refine hide ?_
  intro GG hGG
  obtain ⟨r, hr, e⟩ := List.mem_map.mp h
  with_reducible refine hGG ?_
  clear hGG GG
  exact ⟨r, hr, e.symm⟩
local macro_rules | `(tactic| k_all) => `(tactic| with_reducible assumption)
inductive TdJ (w : World) (G : List Nd) (P : (Str → Int) → List Str → List (List Str) → Nat → Prop) (vs : List Value) (lp : Nat) (ln rn rl x dx nd : Addr) (k : Nat) (news : List (Addr × Obj)) : Prop
  | mk (N : Str → Int) (U : Str → Tok) (R : List Str) (rv : List Value) (ep : Nat) (cn : Int) (u1 u2 t1 t2 t3 t4 : Tok) (od : Obj) (rds : List Rd) (rp : Nat) (ss : List (List Str)) (hP : P N R ss k) (hrv : StrsAre rv R)
      (hD : od.IsDictOf (PySem.strKind PP w) (G.map fun r => (r.nm, Value.ref r.ia))) (hrd : Paired (fun (r : Rd) (l : List Str) => StrsAre r.vs l) rds ss) (ap : (ln :: rn :: rl :: (feet x dx nd G ++ rds.map (·.a))).Nodup)
      (e : news = (ln, W.listOf vs.toArray lp) :: (rn, W.listOf (rrefs rds).toArray rp) :: (rl, W.listOf rv.toArray ep) :: (x, instObj 171 dx) :: (dx, dictOf (sdict w.params t1 t2 t3 t4 (.ref nd) (.ref rl) (.int cn u1) (.int cn u2)) 4) :: (nd, od) :: (led (put G N U) ++ rled rds))
set_option maxHeartbeats 8000000 in
theorem told_while {w : World} {g base h : Heap} {L ln x dx nd rn rl : Addr} {d u n tk : Nat} {outer : List Env} {loose : List Str} {mean : ExcName → Option Value} {mg mb : Str → Option Value} {vs rv : List Value} {lp ep : Nat} {t1 t2 t3 t4 u1 u2 : Tok} {od : Obj} {G : List Nd} {N : Str → Int} {U : Str → Tok} {R : List Str} {k₀ : Nat} {kv : Option Value} {rb : Value} {s : Shared} {Q : Flow → Shared → Prop}
   {P : (Str → Int) → List Str → List (List Str) → Nat → Prop} (HP : Rounds (succOf G) (G.map (·.nm)) P)
   (B : Below (mkA d u outer) base outer g) (X : (hd.heap_39 w.params).In g) (T : Top hd.view_39 loose mean mg mb g) (hd : d + n + 30 ≤ 900) (hu : u + 20 * n + 600 ≤ 9000)
   (hD : od.IsDictOf (PySem.strKind PP w) (G.map fun r => (r.nm, Value.ref r.ia))) (lo : (nd == sysModules) = false) (ap : (ln :: rn :: rl :: feet x dx nd G).Nodup) (hnn : (G.map (·.nm)).Nodup) (hsz : G.length ≤ 90) (hok : SuOk G)
   (F₀ : Fr g L h (tdm2 ln x rn kv rb)) (N₀ : News g L h ((ln, W.listOf vs.toArray lp) :: (rn, W.listOf (rrefs []).toArray 0) :: (rl, W.listOf rv.toArray ep) :: (x, instObj 171 dx) :: (dx, dictOf (sdict w.params t1 t2 t3 t4 (.ref nd) (.ref rl) (.int 0 u1) (.int 0 u2)) 4) :: (nd, od) :: (led (put G N U) ++ rled [])))
   (hrv : StrsAre rv R) (hP : P N R [] k₀)
   (hq : ∀ h' tk' m' rds rp ss N' k, Fr g L h' m' → (∀ y, y ≠ Str.ofString "ready" → m' y = tdm2 ln x rn kv rb y) → News g L h' ((ln, W.listOf vs.toArray lp) :: (rn, W.listOf (rrefs rds).toArray rp) :: rled rds) →
     Paired (fun (r : Rd) (l : List Str) => StrsAre r.vs l) rds ss → P N' [] ss k → Q .next { s with heap := h', toks := tk' }) :
   wpAny (model PP w) ((mkA d u outer).deeper (tdEnv L)) (exec tdWhile (tdEnv L)) Q (fun _ _ => False) { s with heap := h, toks := tk } := by
  have eW : tdWhile = .While _ _ _ _ := rfl
  have eS : stScope tdFn = { kind := _, names := _, isGenerator := _, isCoroutine := _, more := _ } := rfl
  rw [tdEnv, eS, eW]
  clear eW eS
  refine while_newsQ (n₀ := k₀) (fun m₀ k m' news => (∀ y, y ≠ Str.ofString "ready" → m' y = m₀ y) ∧ TdJ w G P vs lp ln rn rl x dx nd k news) F₀ N₀
    ⟨fun _ _ => rfl, N, U, R, rv, ep, 0, u1, u2, t1, t2, t3, t4, od, [], 0, [], hP, hrv, hD, .nil, by simpa using ap, rfl⟩ ?_
  clear hD hrv hP N₀ F₀ ap
  intro k m₁ news₁ h₁ tk₁ F N₁ hXX
  obtain ⟨hm, N, U, R, rv, ep, cn, u1, u2, t1, t2, t3, t4, od, rds, rp, ss, hP, hrv, hD, hrd, ap, rfl⟩ := hXX
  intro Qt hQt
  have F1 := fr_norm F hm
  have hFm := Stop.mk (And.intro F hm)
  clear F hm
  obtain ⟨hRl, hsl⟩ := HP.len _ _ _ _ hP
  have hRs := HP.sub _ _ _ _ hP
  k_steps
  refine ⟨?_⟩
  have apf : (feet x dx nd G).Nodup := by
    have := (List.nodup_cons.mp (List.nodup_cons.mp (List.nodup_cons.mp ap).2).2).2
    exact (List.nodup_append.mp this).1
  have hrf : rl ∉ feet x dx nd G := fun q => (List.nodup_cons.mp (List.nodup_cons.mp (List.nodup_cons.mp ap).2).2).1 (List.mem_append_left _ q)
  have mled : ∀ p ∈ led (put G N U), p ∈ (ln, W.listOf vs.toArray lp) :: (rn, W.listOf (rrefs rds).toArray rp) :: (rl, W.listOf rv.toArray ep) :: (x, instObj 171 dx) :: (dx, dictOf (sdict w.params t1 t2 t3 t4 (.ref nd) (.ref rl) (.int cn u1) (.int cn u2)) 4) :: (nd, od) :: (led (put G N U) ++ rled rds) := fun p hp => .tail _ (.tail _ (.tail _ (.tail _ (.tail _ (.tail _ (List.mem_append_left _ hp))))))
  have S1 := Sor.all (G := put G N U) (N₁ _ (.tail _ (.tail _ (.tail _ (.head _))))).1 (N₁ _ (.tail _ (.tail _ (.tail _ (.tail _ (.head _)))))).1 (N₁ _ (.tail _ (.tail _ (.tail _ (.tail _ (.tail _ (.head _))))))).1 (by rw [put_kvs]; exact hD) (fun p hp => (N₁ p (mled p hp)).1) (by rw [put_feet]; exact apf)
  have hrv1 : rv.length ≤ 60 := by rw [strs_len hrv]; exact hRl
  have offN : ∀ {b' : Heap}, (∀ p ∈ (ln, W.listOf vs.toArray lp) :: (rn, W.listOf (rrefs rds).toArray rp) :: (rl, W.listOf rv.toArray ep) :: (x, instObj 171 dx) :: (dx, dictOf (sdict w.params t1 t2 t3 t4 (.ref nd) (.ref rl) (.int cn u1) (.int cn u2)) 4) :: (nd, od) :: (led (put G N U) ++ rled rds), b'.get? p.1 = none) → ∀ a ∈ rl :: feet x dx nd (put G N U), b'.get? a = none := fun n1 => List.forall_mem_cons.mpr ⟨n1 _ (.tail _ (.tail _ (.head _))), feet_all (n1 _ (.tail _ (.tail _ (.tail _ (.head _))))) (n1 _ (.tail _ (.tail _ (.tail _ (.tail _ (.head _)))))) (n1 _ (.tail _ (.tail _ (.tail _ (.tail _ (.tail _ (.head _))))))) fun p hp => n1 p (mled p hp)⟩
  refine use_call (n + 6) B F1 N₁ X T ⟨by omega, by omega⟩ (fun b' A' C1 k1 n1 => active_spec C1 k1 S1 (N₁ _ (.tail _ (.tail _ (.head _)))).1 (by rw [put_feet]; exact hrf) (offN n1) (by omega)) (fun _ h => nomatch h) ?_ rfl
  rintro v h2 tk2 F2 k2 rfl
  have N2 : News g L h2 _ := fun p hp => ⟨k2 _ _ (N₁ p hp).1 (fun h => nomatch h), (N₁ p hp).2⟩
  rw [show decide (cn < cn) = false by simp, Bool.false_or]
  clear F1 N₁ S1 k2 mled
  by_cases hrz : rv = []
  · subst hrz
    have hR0 : R = [] := by cases hrv; rfl
    subst hR0
    rw [show (!([] : List Value).isEmpty) = false from rfl]
    k_steps
    refine hq _ _ _ rds rp ss N k F2 (fun y h => by simp [h]) (fun p hp => N2 p ?_) hrd hP
    rcases List.mem_cons.mp hp with rfl | hp
    · exact .head _
    rcases List.mem_cons.mp hp with rfl | hp
    · exact .tail _ (.head _)
    · exact .tail _ (.tail _ (.tail _ (.tail _ (.tail _ (.tail _ (List.mem_append_right _ hp))))))
  · have hbb : (!rv.isEmpty) = true := by cases rv with
      | nil => exact absurd rfl hrz
      | cons _ _ => rfl
    have hRne : R ≠ [] := fun q => hrz (by rw [q] at hrv; cases hrv; rfl)
    rw [hbb]
    k_steps
    refine ⟨?_⟩
    have mled : ∀ p ∈ led (put G N U), p ∈ (ln, W.listOf vs.toArray lp) :: (rn, W.listOf (rrefs rds).toArray rp) :: (rl, W.listOf rv.toArray ep) :: (x, instObj 171 dx) :: (dx, dictOf (sdict w.params t1 t2 t3 t4 (.ref nd) (.ref rl) (.int cn u1) (.int cn u2)) 4) :: (nd, od) :: (led (put G N U) ++ rled rds) := fun p hp => .tail _ (.tail _ (.tail _ (.tail _ (.tail _ (.tail _ (List.mem_append_left _ hp))))))
    have S2 := Sor.all (G := put G N U) (N2 _ (.tail _ (.tail _ (.tail _ (.head _))))).1 (N2 _ (.tail _ (.tail _ (.tail _ (.tail _ (.head _)))))).1 (N2 _ (.tail _ (.tail _ (.tail _ (.tail _ (.tail _ (.head _))))))).1 (by rw [put_kvs]; exact hD) (fun p hp => (N2 p (mled p hp)).1) (by rw [put_feet]; exact apf)
    have O2 : Off g L (rl :: feet x dx nd G) := put_feet (x := x) (dx := dx) (nd := nd) G N U ▸ List.forall_mem_cons.mpr ⟨(N2 _ (.tail _ (.tail _ (.head _)))).2, feet_all (N2 _ (.tail _ (.tail _ (.tail _ (.head _))))).2 (N2 _ (.tail _ (.tail _ (.tail _ (.tail _ (.head _)))))).2 (N2 _ (.tail _ (.tail _ (.tail _ (.tail _ (.tail _ (.head _))))))).2 fun p hp => (N2 p (mled p hp)).2⟩
    refine use_call (n + 6) B F2 N2 X T ⟨by omega, by omega⟩ (fun b' A' C1 k1 n1 => ready_spec C1 k1 S2 (N2 _ (.tail _ (.tail _ (.head _)))).1 (put_feet (x := x) (dx := dx) (nd := nd) G N U ▸ offN n1) hrf hnn (by omega) hrz hrv hRs) O2 ?_ rfl
    intro v h3 tk3 F3 k3 hXX
    refine cps_EEEEAAAA hXX ?_
    rintro t U3 u3 ep3 rfl htn ht S3 hrl3
    clear hXX
    have htO := new_off F2 htn
    refine cps_EEEEEA (S3.ledger (by rw [put_feet]; exact fun a ha => O2 a (.tail _ ha))) ?_
    intro z1 z2 z3 z4 od3 hD3 N3
    rw [put_kvs] at hD3
    refine cps_AAAAAA (ap_facts ap) ?_
    intro c1 c2 c3 c4 c5 c6 c7
    have hsep : ∀ p ∈ (ln, W.listOf vs.toArray lp) :: (rn, W.listOf (rrefs rds).toArray rp) :: rled rds, p.1 ∉ rl :: feet x dx nd G := by
      refine List.forall_mem_cons.mpr ⟨c1, List.forall_mem_cons.mpr ⟨c2, fun p hp => ?_⟩⟩
      with_reducible refine hide ?_
      intro GG hGG
      obtain ⟨r, hr, rfl⟩ := mem_rled hp
      with_reducible refine hGG ?_
      clear hGG GG
      exact c3 r hr
    have keepm : ∀ p ∈ (ln, W.listOf vs.toArray lp) :: (rn, W.listOf (rrefs rds).toArray rp) :: rled rds, h2.get? p.1 = some p.2 ∧ p.1 ≠ L ∧ g.get? p.1 = none := fun p hp => N2 p (by
      rcases List.mem_cons.mp hp with rfl | hp
      · exact .head _
      rcases List.mem_cons.mp hp with rfl | hp
      · exact .tail _ (.head _)
      · exact .tail _ (.tail _ (.tail _ (.tail _ (.tail _ (.tail _ (List.mem_append_right _ hp)))))))
    have N4 : News g L h3 ((t, ({ cls := .type "tuple", data := .seq rv.toArray } : Obj)) :: (ln, W.listOf vs.toArray lp) :: (rn, W.listOf (rrefs rds).toArray rp) :: (rl, W.listOf ([] : List Value).toArray ep3) :: (x, instObj 171 dx) :: (dx, dictOf (sdict w.params z1 z2 z3 z4 (.ref nd) (.ref rl) (.int (cn + rv.length) u3) (.int cn u2)) 4) :: (nd, od3) :: (led (put G (outs N R) U3) ++ rled rds)) := by
      have kk : ∀ p ∈ (ln, W.listOf vs.toArray lp) :: (rn, W.listOf (rrefs rds).toArray rp) :: rled rds, h3.get? p.1 = some p.2 ∧ p.1 ≠ L ∧ g.get? p.1 = none := fun p hp => ⟨k3 _ _ (keepm p hp).1 (hsep p hp), (keepm p hp).2⟩
      refine news_cons1 ht htO.1 htO.2 (news_cons1 (kk _ (.head _)).1 (kk _ (.head _)).2.1 (kk _ (.head _)).2.2 (news_cons1 (kk _ (.tail _ (.head _))).1 (kk _ (.tail _ (.head _))).2.1 (kk _ (.tail _ (.head _))).2.2 (news_cons1 hrl3 (O2 _ (.head _)).1 (O2 _ (.head _)).2 ?_)))
      rw [← List.cons_append, ← List.cons_append, ← List.cons_append]
      exact fun p hp => (List.mem_append.mp hp).elim (N3 p) fun hp => kk p (.tail _ (.tail _ hp))
    have hlt : ∀ p ∈ led (put G (outs N R) U3) ++ rled rds, p.1 ≠ rn := fun p hp => (List.mem_append.mp hp).elim (fun hp => c6 p.1 (.tail _ (.tail _ (.tail _ (put_addrs G (outs N R) U3 ▸ led_addrs _ ▸ List.mem_map_of_mem (f := (·.1)) hp))))) fun hp => by
      with_reducible refine hide ?_
      intro GG hGG
      obtain ⟨r, hr, rfl⟩ := mem_rled hp
      with_reducible refine hGG ?_
      clear hGG GG
      exact c7 r hr
    have hrnx : (@Ne Nat ln rn) ∧ (@Ne Nat rl rn) ∧ (@Ne Nat x rn) ∧ (@Ne Nat dx rn) ∧ (@Ne Nat nd rn) := ⟨c4, c5, c6 x (.head _), c6 dx (.tail _ (.head _)), c6 nd (.tail _ (.tail _ (.head _)))⟩
    have htrn : @Ne Nat t rn := fun q => by have := (keepm _ (.tail _ (.head _))).1; rw [← show t = rn from q, htn] at this; cases this
    have hrz2 : (rrefs rds).toArray.size ≤ sizeLine := by rw [List.size_toArray, List.length_map, sizeLine_eq, paired_len hrd]; omega
    clear S2 S3 F2 N2 N3 keepm mled
    generalize htl : led (put G (outs N R) U3) ++ rled rds = tl at N4 hlt
    k_steps
    refine call_bound_star (K := (Mine.hd.heap_39 w.params)) ?_
    k_steps
    refine ⟨_, 154, .ref x, rfl, by k_is, ?_⟩
    k_steps
    rename_i hA hB D vs5 ss5 e5 hS5 hp5 hs5 lD hC qm h5 F5 N5 lq
    refine star_seq (ws := rv) F5 N5 (.tail _ (.tail _ (.head _))) rfl rfl (.inr rfl) rfl (by rw [List.size_toArray, sizeLine_eq]; omega) ?_
    intro h6 F6 N6
    refine ⟨⟨(N6 _ (.head _)).1, X.keeps F6.keep⟩, ?_⟩
    subst htl
    have q1 : ∀ {b : Addr × Obj}, b ∈ led (put G (outs N R) U3) → b ∈ led (put G (outs N R) U3) ++ rled rds := fun h => List.mem_append_left _ h
    have S6 := Sor.all (G := put G (outs N R) U3) (N6 _ (.tail _ (.tail _ (.tail _ (.tail _ (.tail _ (.tail _ (.head _)))))))).1 (N6 _ (.tail _ (.tail _ (.tail _ (.tail _ (.tail _ (.tail _ (.tail _ (.head _))))))))).1 (N6 _ (.tail _ (.tail _ (.tail _ (.tail _ (.tail _ (.tail _ (.tail _ (.tail _ (.head _)))))))))).1 (by rw [put_kvs]; exact hD3)
      (fun p hp => (N6 p (.tail _ (.tail _ (.tail _ (.tail _ (.tail _ (.tail _ (.tail _ (.tail _ (.tail _ (q1 hp)))))))))) ).1) (by rw [put_feet]; exact apf)
    refine use_code (n + 6) B F6 N6 X T ⟨by omega, by omega⟩ (fun b' A' C1 kb1 n1 => done_spec (vs := rv) (N := outs N R) (R := []) C1 kb1 S6 (N6 _ (.tail _ (.tail _ (.tail _ (.tail _ (.tail _ (.head _))))))).1 .nil
      (off_led (P := fun a => b'.get? a = none) (N := outs N R) (U := U3) (n1 _ (.tail _ (.tail _ (.tail _ (.tail _ (.tail _ (.head _))))))) (n1 _ (.tail _ (.tail _ (.tail _ (.tail _ (.tail _ (.tail _ (.head _)))))))) (n1 _ (.tail _ (.tail _ (.tail _ (.tail _ (.tail _ (.tail _ (.tail _ (.head _))))))))) (n1 _ (.tail _ (.tail _ (.tail _ (.tail _ (.tail _ (.tail _ (.tail _ (.tail _ (.head _)))))))))) fun p hp => n1 p (.tail _ (.tail _ (.tail _ (.tail _ (.tail _ (.tail _ (.tail _ (.tail _ (.tail _ (q1 hp)))))))))))
      hrf hnn (by omega) (by simp only [List.length_nil]; omega) hrv hRs hok (HP.out _ _ _ _ hP hRne) lo) O2 ?_ rfl
    intro v h7 tk7 F7 k7 hXX
    refine cps_AEEEEAA hXX ?_
    rintro rfl U7 rv7 ep7 u7 S7 hrl7 hrv7
    clear hXX
    refine ⟨_, rfl, ?_⟩
    dsimp only
    refine cps_EEEEEA (S7.ledger (by rw [put_feet]; exact fun a ha => O2 a (.tail _ ha))) ?_
    intro z1 z2 z3 z4 od7 hD7 N7
    rw [put_kvs] at hD7
    have keep7 : ∀ p ∈ (ln, W.listOf vs.toArray lp) :: (rn, W.listOf (rrefs (rds ++ [⟨D, vs5, e5⟩])).toArray (rp + 1)) :: rled (rds ++ [⟨D, vs5, e5⟩]), h6.get? p.1 = some p.2 ∧ p.1 ≠ L ∧ g.get? p.1 = none := fun p hp => by
      rcases List.mem_cons.mp hp with rfl | hp
      · exact N6 _ (.tail _ (.tail _ (.tail _ (.head _))))
      rcases List.mem_cons.mp hp with rfl | hp
      · have := N6 _ (.tail _ (.tail _ (.tail _ (.tail _ (.head _)))))
        have e : (rrefs (rds ++ [⟨D, vs5, e5⟩])).toArray = (rrefs rds).toArray.push (.ref D) := by simp
        rw [e]; exact this
      · with_reducible refine hide ?_
        intro GG hGG
        obtain ⟨r, hr, rfl⟩ := mem_rled hp
        with_reducible refine hGG ?_
        clear hGG GG
        rcases List.mem_append.mp hr with hr | hr
        · have hm : (r.a, W.listOf r.vs.toArray r.ep) ∈ led (put G (outs N R) U3) ++ rled rds := List.mem_append_right _ (List.mem_map_of_mem (f := fun r : Rd => (r.a, W.listOf r.vs.toArray r.ep)) hr)
          exact N6 _ (.tail _ (.tail _ (.tail _ (.tail _ (.tail _ (.tail _ (.tail _ (.tail _ (.tail _ hm)))))))))
        · rw [List.mem_singleton.mp hr]; exact N6 _ (.tail _ (.head _))
    have hDne : ∀ a ∈ ln :: rn :: rl :: (feet x dx nd G ++ rds.map (·.a)), @Ne Nat a D := by
      have lt := ne_of_allLt lD.2.2.2.2.2.2.2
      refine List.forall_mem_cons.mpr ⟨Nat.ne_of_lt lD.2.1, List.forall_mem_cons.mpr ⟨Nat.ne_of_lt lD.2.2.1, List.forall_mem_cons.mpr ⟨Nat.ne_of_lt lD.2.2.2.1, fun a ha => ?_⟩⟩⟩
      rcases List.mem_append.mp ha with ha | ha
      · exact feet_all (G := put G (outs N R) U3) (P := fun a => @Ne Nat a D) (Nat.ne_of_lt lD.2.2.2.2.1) (Nat.ne_of_lt lD.2.2.2.2.2.1) (Nat.ne_of_lt lD.2.2.2.2.2.2.1) (fun p hp => lt p (List.mem_append_left _ hp)) a (by rw [put_feet]; exact ha)
      · with_reducible refine hide ?_
        intro GG hGG
        obtain ⟨r, hr, rfl⟩ := List.mem_map.mp ha
        with_reducible refine hGG ?_
        clear hGG GG
        exact lt (r.a, W.listOf r.vs.toArray r.ep) (List.mem_append_right _ (List.mem_map_of_mem (f := fun r : Rd => (r.a, W.listOf r.vs.toArray r.ep)) hr))
    have hsep7 : ∀ p ∈ (ln, W.listOf vs.toArray lp) :: (rn, W.listOf (rrefs (rds ++ [⟨D, vs5, e5⟩])).toArray (rp + 1)) :: rled (rds ++ [⟨D, vs5, e5⟩]), p.1 ∉ rl :: feet x dx nd G := by
      refine List.forall_mem_cons.mpr ⟨c1, List.forall_mem_cons.mpr ⟨c2, fun p hp => ?_⟩⟩
      with_reducible refine hide ?_
      intro GG hGG
      obtain ⟨r, hr, rfl⟩ := mem_rled hp
      with_reducible refine hGG ?_
      clear hGG GG
      rcases List.mem_append.mp hr with hr | hr
      · exact c3 r hr
      · rw [List.mem_singleton.mp hr]
        intro q
        refine hDne D (.tail _ (.tail _ ?_)) rfl
        rcases List.mem_cons.mp q with q | q
        · exact q ▸ .head _
        · exact .tail _ (List.mem_append_left _ q)
    have ap7 : (ln :: rn :: rl :: (feet x dx nd G ++ (rds ++ [Rd.mk D vs5 e5]).map (·.a))).Nodup := by
      have e : (ln :: rn :: rl :: (feet x dx nd G ++ (rds ++ [Rd.mk D vs5 e5]).map (·.a))) = (ln :: rn :: rl :: (feet x dx nd G ++ rds.map (·.a))) ++ [D] := by rw [List.map_append]; simp only [List.map_cons, List.map_nil, List.cons_append, List.append_assoc]
      rw [e, List.nodup_append]
      exact ⟨ap, by simp, fun a ha b hb e => hDne a ha (by rw [List.mem_singleton.mp hb] at e; exact e)⟩
    have N8 : News g L h7 ((ln, W.listOf vs.toArray lp) :: (rn, W.listOf (rrefs (rds ++ [⟨D, vs5, e5⟩])).toArray (rp + 1)) :: (rl, W.listOf rv7.toArray ep7) :: (x, instObj 171 dx) :: (dx, dictOf (sdict w.params z1 z2 z3 z4 (.ref nd) (.ref rl) (.int (cn + rv.length) u3) (.int (cn + R.length) u7)) 4) :: (nd, od7) :: (led (put G (finAll (succOf G) (outs N R, []) R).1 U7) ++ rled (rds ++ [⟨D, vs5, e5⟩]))) := by
      have kk : ∀ p ∈ (ln, W.listOf vs.toArray lp) :: (rn, W.listOf (rrefs (rds ++ [⟨D, vs5, e5⟩])).toArray (rp + 1)) :: rled (rds ++ [⟨D, vs5, e5⟩]), h7.get? p.1 = some p.2 ∧ p.1 ≠ L ∧ g.get? p.1 = none := fun p hp => ⟨k7 _ _ (keep7 p hp).1 (hsep7 p hp), (keep7 p hp).2⟩
      refine news_cons1 (kk _ (.head _)).1 (kk _ (.head _)).2.1 (kk _ (.head _)).2.2 (news_cons1 (kk _ (.tail _ (.head _))).1 (kk _ (.tail _ (.head _))).2.1 (kk _ (.tail _ (.head _))).2.2 (news_cons1 hrl7 (O2 _ (.head _)).1 (O2 _ (.head _)).2 ?_))
      rw [← List.cons_append, ← List.cons_append, ← List.cons_append]
      exact fun p hp => (List.mem_append.mp hp).elim (N7 p) fun hp => kk p (.tail _ (.tail _ hp))
    rw [show ((rv.length : Nat) : Int) = (R.length : Int) by rw [strs_len hrv]] at N8
    with_reducible refine hide ?_
    intro GG hGG
    obtain ⟨k', hk', hP'⟩ := HP.step _ _ _ _ ss5 hP hRne hp5 hs5
    with_reducible refine hGG ?_
    clear hGG GG
    clear F5 N5 F6 N6 N7 S6 S7
    k_steps
    show Qt _ _
    refine hQt _ _ ?_
    refine ⟨_, _, _, _, k', rfl, F7, N8, hk', fun y h => by simp [h], _, U7, _, rv7, ep7, cn + R.length, u3, u7, z1, z2, z3, z4, od7, rds ++ [⟨D, vs5, e5⟩], rp + 1, ss ++ [ss5], hP', hrv7, hD7, hrd.snoc hS5, ?_, rfl⟩
    exact ap7
end
section
open PyProof.Rows.TI (Frs SameUp)
local macro_rules | `(tactic| walk_at "exec Try") => `(tactic| refine stop_here ?_)
noncomputable def ToldOut (ns : List (Str × Str)) (ln : Addr) (v : Value) (h : Heap) : Prop :=
  ∃ r re rn rp rds, v = .ref r ∧ h.get? r = some (W.listOf #[.ref ln, .bool (!(dueR ns 60 (left0 ns)).2.isEmpty), .ref rn] re) ∧ h.get? rn = some (W.listOf (rrefs rds).toArray rp) ∧ (∀ p ∈ rled rds, h.get? p.1 = some p.2) ∧ Paired (fun (r : Rd) (l : List Str) => StrsAre r.vs l) rds (dueR ns 60 (left0 ns)).1

theorem news_re4 {g h : Heap} {L : Addr} {a b c e : Addr × Obj} (N : News g L h [a, b, c, e]) : News g L h [e, b, c, a] := fun p hp => N p (by
  simp only [List.mem_cons, List.not_mem_nil, or_false] at hp ⊢
  rcases hp with rfl | rfl | rfl | rfl
  · exact .inr (.inr (.inr rfl))
  · exact .inr (.inl rfl)
  · exact .inr (.inr (.inl rfl))
  · exact .inl rfl)
theorem allLt_mem {d : Addr} : ∀ {l : List (Addr × Obj)}, AllLt d l → ∀ p ∈ l, p.1 < d
  | [], _, _, h => nomatch h
  | q :: l, h, p, hp => by
    obtain ⟨h1, h2⟩ := h
    rcases List.mem_cons.mp hp with rfl | hp
    · exact h1
    · exact allLt_mem h2 p hp
theorem suok_of {ns : List (Str × Str)} {G : List Nd} (hv : view G = vall ns) (hok : ∀ q ∈ G, OkSu q) (hnl : ns.length ≤ 11) : SuOk G := fun r hr => by
  refine ⟨hok r hr, fun k hk => ?_, ?_⟩
  · have e : r.su.map strOf = fol ns r.nm := (vall_is ns).su r.view (hv ▸ List.mem_map_of_mem hr)
    rw [e] at hk
    rw [← view_names, hv]
    exact ((vall_is ns).names k).mpr ⟨_, mem_fol.mp hk, .inl rfl⟩
  · have := view_su hv r hr; omega
set_option maxHeartbeats 8000000 in
theorem told_spec {w : World} {A : Around} {b : Heap} {s : Shared} {n : Nat} {ln : Addr} {vs : List Value} {lp : Nat} {ns : List (Str × Str)} {outer : List Env} {frs : List (Addr × Obj)}
   (C : CxS w (n + 40) A b s.heap outer frs) (kb : b.StaysIn s.heap) (hln : s.heap.get? ln = some (W.listOf vs.toArray lp)) (hlb : b.get? ln = none) (hvs : StrsAre vs (flat ns)) (hnl : ns.length ≤ 11) (hfl : ∀ p ∈ frs, p.1 ≠ ln) :
   codeAny (model PP w) A (.call (.ref 199) ⟨[.ref ln], []⟩) (RetS s [] frs fun v h' => ToldOut ns ln v h') s := by
  have Fs₀ := C.fr
  have hfr₀ := C.at_
  have hn : ∀ p ∈ [(ln, W.listOf vs.toArray lp)], s.heap.get? p.1 = some p.2 ∧ b.get? p.1 = none := List.forall_mem_cons.mpr ⟨⟨hln, hlb⟩, fun _ h => nomatch h⟩
  walk_at "M enterS"
  intro g h₁ d u loose mean mg mb eA F N X T bg hd hu hg gs ll kh
  subst eA
  dsimp only
  have hfl₀ : ∀ p ∈ frs, p.1 < s.heap.objs.size := fun p hp => ll p (List.mem_append_right _ hp)
  refine cps_EAAAAAAAA (rebaseS d u F Fs₀ (fun p hp => N p (List.mem_append_right _ hp)) hfl₀ X T [(ln, W.listOf vs.toArray lp)] (fun p hp => N p (List.mem_append_left _ hp)) (fun p hp q => by simp only [List.map_cons, List.map_nil, List.mem_singleton] at q; exact hfl p hp q)) ?_
  intro g1 F1 N1 k1 K1 K2 hfr1 B1 X1 T1
  have hfrN : Stop (News g s.heap.objs.size h₁ frs) := ⟨fun p hp => N p (List.mem_append_right _ hp)⟩
  have hFg := Stop.mk F
  clear hn hfr₀ C N F
  show wpAny _ _ _ _ _ _
  k_fold
  have hvl2 : vs.length = 2 * ns.length := by rw [strs_len hvs, flat_len]
  k_steps
  refine ⟨?_⟩
  rename Fr g1 _ _ _ => F2
  rename News g1 _ _ _ => N2
  rename_i qk0 ek0 x dx hz7 la lb g9 L9 hz6 B9 X9 T9 tk1 nd hz5 od lo hs fs hi9 fi9 lc hz4 hz3 hz2 hz1 F9 N9 tk2 Tc9 kX9 h2
  clear F9 N9 B9 X9 T9 Tc9 kX9 fs hi9 fi9
  have hup : ∀ p ∈ frs, p.1 < ln ∨ p.1 > ln := fun p hp => Nat.lt_or_gt_of_ne (hfl p hp)
  refine told_for (n := n) (x := x) (dx := dx) (nd := nd) (ln := ln) (od := od) B1 X1 T1 (by omega) (by omega) hvs hnl hs lo ?ap (fr_congr F2 ?m) (news_re4 N2) ?q
  case ap =>
    simp only [feet, addrs, List.flatMap_nil, List.nodup_cons, List.mem_cons, List.not_mem_nil, or_false, not_or, not_false_eq_true, List.nodup_nil, and_true]
    have e1 := Nat.ne_of_lt la
    have e2 := Nat.ne_of_lt lb
    have e3 := Nat.ne_of_lt lc.1
    have e4 := Nat.ne_of_lt lc.2.1
    have e5 := Nat.ne_of_lt lc.2.2
    have e6 := Nat.ne_of_lt (Nat.lt_trans la lb)
    exact ⟨⟨e6, e1, e5⟩, ⟨Ne.symm e2, e3⟩, e4⟩
  case m =>
    intro y
    by_cases q : y = Str.ofString "sorter"
    · simp [tdm0, q]
    · by_cases q2 : y = Str.ofString "names"
      · simp [tdm0, q2, List.lookup]
      · simp [tdm0, q, q2, List.lookup, show (y == Str.ofString "names") = false from beq_false_of_ne q2]
  case q =>
    intro h3 tk3 kv G y1 y2 y3 y4 od3 F3 N3 hD3 hv hok ap3 hGl
    clear F2 N2
    dsimp only
    k_steps
    refine ⟨?_⟩
    rename Fr g1 _ _ _ => F4
    rename News g1 _ _ _ => N4
    have hnn : (G.map (·.nm)).Nodup := by rw [view_names' hv]; exact (vall_is _).nd
    have hfa : ∀ p ∈ frs, p.1 ∉ ln :: feet x dx nd G := fun p hp q => by
      have nap := news_apart N4 hfr1
      have hpm : p.1 ∈ frs.map (·.1) := List.mem_map_of_mem (f := (·.1)) hp
      rcases List.mem_cons.mp q with q | q
      · exact nap _ (.head _) (by rw [show ((ln, W.listOf vs.toArray lp) : Addr × Obj).1 = ln from rfl, ← q]; exact hpm)
      · exact feet_all (P := fun a => a ∉ frs.map (·.1)) (nap _ (.tail _ (.head _))) (nap _ (.tail _ (.tail _ (.head _)))) (nap _ (.tail _ (.tail _ (.tail _ (.head _))))) (fun p hp => nap p (.tail _ (.tail _ (.tail _ (.tail _ hp))))) p.1 q hpm
    obtain ⟨F5, N5⟩ := back_down hFg.go k1 F4 N4 hfrN.go hfr1
    have live : ∀ a ∈ ln :: feet x dx nd G, ∃ o, Heap.get? _ a = some o := List.forall_mem_cons.mpr ⟨⟨_, (N4 _ (.head _)).1⟩, feet_all ⟨_, (N4 _ (.tail _ (.head _))).1⟩ ⟨_, (N4 _ (.tail _ (.tail _ (.head _)))).1⟩ ⟨_, (N4 _ (.tail _ (.tail _ (.tail _ (.head _))))).1⟩ (fun p hp => ⟨_, (N4 p (.tail _ (.tail _ (.tail _ (.tail _ hp))))).1⟩)⟩
    have liveF : ∀ p ∈ frs, Heap.get? _ p.1 = some p.2 := fun p hp => F4.keep _ _ (hfr1 p hp)
    clear F4 N4
    refine told_try (n := n) (ut := 0) (G := G) Fs₀ X T (by omega) (by omega) hD3 lo ap3 hnn (by omega) (suok_of hv hok hnl) hfl₀ hfa F5 N5 ?_
    intro h6 tk6 rb rl vs6 ep6 z1 z2 z3 z4 od6 fr6 SU6 Fs6 F6 N6 hD6 hz6 hrl6 hring1 hring2
    dsimp only
    have hrlx : rl ∉ ln :: feet x dx nd G := fun q => by
      obtain ⟨o, e⟩ := live rl q
      rw [hrl6] at e; cases e
    have hap6 : ∀ (ua ub : Tok), ∀ p ∈ fr6, p.1 ∉ ((ln, W.listOf vs.toArray lp) :: (rl, W.listOf vs6.toArray ep6) :: fclow w x dx nd z1 z2 z3 z4 (.ref rl) (.int 0 ua) (.int 0 ub) od6 G).map (·.1) := fun ua ub p hp q => by
      with_reducible refine hide ?_
      intro GG hGG
      obtain ⟨y, hy, z⟩ := SU6.fwd p hp
      with_reducible refine hGG ?_
      clear hGG GG
      rw [List.map_cons, List.map_cons, fclow_addr, z] at q
      rcases List.mem_cons.mp q with q | q
      · exact hfa y hy (by rw [q]; exact .head _)
      rcases List.mem_cons.mp q with q | q
      · have := liveF y hy
        rw [show y.1 = rl from q, hrl6] at this; cases this
      · exact hfa y hy (.tail _ q)
    have hfl6 : ∀ p ∈ fr6, p.1 < s.heap.objs.size := fun p hp => by
      with_reducible refine hide ?_
      intro GG hGG
      obtain ⟨y, hy, z⟩ := SU6.fwd p hp
      with_reducible refine hGG ?_
      clear hGG GG
      rw [z]; exact hfl₀ y hy
    refine cps_EAAAAAAAA (rebaseS d u F6 Fs6 (fun p hp => N6 p (List.mem_append_right _ hp)) hfl6 X T _ (fun p hp => N6 p (List.mem_append_left _ hp)) (hap6 _ _)) ?_
    intro g2 F7 N7 k2 K12 K22 hfr2 B2 X2 T2
    have hF6 := Stop.mk F6
    have hN6 : Stop (News g s.heap.objs.size h6 fr6) := ⟨fun p hp => N6 p (List.mem_append_right _ hp)⟩
    clear F5 N5 F6 N6 B1 X1 T1
    k_steps
    refine ⟨?_⟩
    rename Fr g2 _ _ _ => F8
    rename News g2 _ _ _ => N8
    rename_i rn hz8 lrn hz9
    obtain ⟨U, hU⟩ := put_start hv hnn
    have hlrn : ∀ a ∈ ln :: rl :: feet x dx nd G, a < rn := by
      have lt := lrn.2.2.2.2.2
      refine List.forall_mem_cons.mpr ⟨lrn.1, List.forall_mem_cons.mpr ⟨lrn.2.1, feet_all lrn.2.2.1 lrn.2.2.2.1 lrn.2.2.2.2.1 (allLt_mem lt)⟩⟩
    have ap8 : (ln :: rn :: rl :: feet x dx nd G).Nodup := by
      refine List.nodup_cons.mpr ⟨fun q => ?_, List.nodup_cons.mpr ⟨fun q => ?_, List.nodup_cons.mpr ⟨fun q => hrlx (.tail _ q), (List.nodup_cons.mp ap3).2⟩⟩⟩
      · rcases List.mem_cons.mp q with q | q
        · exact Nat.lt_irrefl _ (q ▸ hlrn ln (.head _))
        rcases List.mem_cons.mp q with q | q
        · exact hrlx (q ▸ .head _)
        · exact (List.nodup_cons.mp ap3).1 q
      · exact Nat.lt_irrefl _ (hlrn rn (.tail _ q))
    have N9 : ∀ {hh : Heap} {ua ub : Tok}, News g2 s.heap.objs.size hh ((rn, W.listOf #[] 0) :: (ln, W.listOf vs.toArray lp) :: (rl, W.listOf vs6.toArray ep6) :: fclow w x dx nd z1 z2 z3 z4 (.ref rl) (.int 0 ua) (.int 0 ub) od6 G) → News g2 s.heap.objs.size hh ((ln, W.listOf vs.toArray lp) :: (rn, W.listOf (rrefs []).toArray 0) :: (rl, W.listOf vs6.toArray ep6) :: (x, instObj 171 dx) :: (dx, dictOf (sdict w.params z1 z2 z3 z4 (.ref nd) (.ref rl) (.int 0 ua) (.int 0 ub)) 4) :: (nd, od6) :: (led (put G (cnt ns) U) ++ rled [])) := fun N8 p hp => N8 p (by
      rw [hU] at hp
      simp only [List.mem_cons, List.mem_append, rled, List.map_nil, List.not_mem_nil, or_false, fclow] at hp ⊢
      rcases hp with h | h | h | h | h | h | h
      · exact .inr (.inl h)
      · exact .inl h
      · exact .inr (.inr (.inl h))
      · exact .inr (.inr (.inr (.inl h)))
      · exact .inr (.inr (.inr (.inr (.inl h))))
      · exact .inr (.inr (.inr (.inr (.inr (.inl h)))))
      · exact .inr (.inr (.inr (.inr (.inr (.inr h))))))
    have HP : Rounds (succOf G) (G.map (·.nm)) (Going ns (G.map (·.nm)) 60 (left0 ns)) := by rw [succ_fol hv hnn]; exact going_rounds (Nat.le_refl _)
    have hst : Going ns (G.map (·.nm)) 60 (left0 ns) (cnt ns) (zeros G) [] (left0 ns).length := ⟨left0 ns, 60, start_at hv hnn (by omega), rfl, by rw [left0_len hv]; omega, rfl, rfl⟩
    refine told_while (n := n) (kv := kv) (rb := .bool rb) (G := G) HP B2 X2 T2 (by omega) (by omega) hD6 lo ap8 hnn (by omega) (suok_of hv hok hnl) F8 (N9 N8) hz6 hst ?_
    clear F8 N8 N9
    intro h9 tk9 m9 rds rp ss N' k9 F9 hm9 N9 hrd hP9
    have F10 := fr_norm F9 hm9
    obtain ⟨hss, hfix⟩ := going_end hP9
    subst hss
    have hring := ring_word hv hnn hring1 hring2 60 hfix (dueR_sub ns 60 _)
    clear F9
    dsimp only
    k_steps
    rename Fr g2 _ _ _ => F11
    rename News g2 _ _ _ => N11
    obtain ⟨F12, N12⟩ := back_down hF6.go k2 F11 N11 hN6.go hfr2
    rw [hring] at N12
    refine ⟨_, _, _, fr6, rfl, rfl, SU6, fun p hp => (N12 p (List.mem_append_right _ hp)).1, fun b o e _ q => ?_, _, _, rn, rp, rds, rfl, (N12 _ (.head _)).1, (N12 _ (.tail _ (.tail _ (.head _)))).1, fun p hp => (N12 p (.tail _ (.tail _ (.tail _ (List.mem_append_left _ hp))))).1, hrd⟩
    by_cases qb : b = ln
    · subst qb
      rw [hln] at e
      rw [← e]
      exact (N12 _ (.tail _ (.head _))).1
    · refine F12.keep _ _ (hg b o e fun z => ?_)
      rw [List.map_append, List.mem_append] at z
      rcases z with z | z
      · exact qb (List.mem_singleton.mp z)
      · exact q z
end
end
end

section
section
variable {w : World} {A : Around} {E : Value → Shared → Prop} {s : Shared}
theorem gather_run (D : Addr) (f : (Option (Sem Value) × Sem Value) → (Option Addr × List (Sem Value × Sem Value)) → Sem (ForInStep (Option Addr × List (Sem Value × Sem Value))))
    (hf : ∀ (p : Sem Value × Sem Value) (run : List (Sem Value × Sem Value)), run.length + 1 < 17 → f (some p.1, p.2) (some D, run) = pure (.yield (some D, run ++ [p]))) :
    ∀ (items run : List (Sem Value × Sem Value)), run.length + items.length < 17 → forIn (items.map fun p => (some p.1, p.2)) (some D, run) f = pure (some D, run ++ items)
  | [], run, _ => by rw [List.map_nil, List.forIn_nil, List.append_nil]
  | p :: rest, run, h => by
    rw [List.length_cons] at h
    rw [List.map_cons, List.forIn_cons, hf p run (by omega), pure_bind]
    dsimp only
    rw [gather_run D f hf rest (run ++ [p]) (by rw [List.length_append, List.length_singleton]; omega), List.append_assoc]; rfl

end
section
variable {w : World} {A : Around} {E : Value → Shared → Prop} {s : Shared} {env : Env} {g : Heap} {L : Addr} {m : Str → Option Value} {news : List (Addr × Obj)}
end
end

section
theorem empty_dict {w : World} : Obj.IsDictOf (PySem.strKind PP w) { cls := .type "dict", data := .dict #[] } [] := by
  with_reducible refine hide ?_
  intro GG hGG
  obtain ⟨o, ho, h⟩ := Heap.dictOf_iff.mp (Heap.DictOf.new (knd := PySem.strKind PP w) (⟨#[], default⟩ : Heap))
  with_reducible refine hGG ?_
  clear hGG GG
  have e := Heap.get?_push_size (⟨#[], default⟩ : Heap) (o := { cls := .type "dict", data := .dict #[] }) rfl
  rw [e] at ho
  cases ho; exact h
noncomputable def entry (w : World) (p : Str × Tok × Value) : DictEntry := ⟨(PySem.strKind PP w).hash p.1, .str p.1 p.2.1, p.2.2⟩
noncomputable def Ent (w : World) (o : Obj) (l : List (Str × Tok × Value)) : Prop := o.ExactDict ∧ (l.map (·.1)).Nodup ∧ ∃ ep, o.data = .dict (l.map (entry w)).toArray ep
noncomputable def plain (l : List (Str × Tok × Value)) : List (Str × Value) := l.map fun p => (p.1, p.2.2)
theorem keys_ent (w : World) (l : List (Str × Tok × Value)) : KeysOf (PySem.strKind PP w) (l.map (entry w)).toArray := by
  intro e he
  with_reducible refine hide ?_
  intro GG hGG
  obtain ⟨p, -, rfl⟩ := List.mem_map.mp (List.mem_toArray.mp he)
  with_reducible refine hGG ?_
  clear hGG GG
  exact ⟨p.1, strKind_is _ _ _ _, rfl⟩
theorem pairs_ent (w : World) : ∀ l : List (Str × Tok × Value), Pairs (PySem.strKind PP w) (l.map (entry w)) (plain l)
  | [] => .nil
  | _ :: r => .cons (strKind_is _ _ _ _) rfl (pairs_ent w r)
theorem plain_keys (l : List (Str × Tok × Value)) : (plain l).map (·.1) = l.map (·.1) := by unfold plain; rw [List.map_map]; rfl
theorem Ent.isDict {w : World} {o : Obj} {l : List (Str × Tok × Value)} (h : Ent w o l) : o.IsDictOf (PySem.strKind PP w) (plain l) := by
  refine cps_AAE h ?_
  intro hc hn ep hd
  clear h
  exact ⟨_, ep, hc, hd, keys_ent w l, by simpa using pairs_ent w l, by rw [plain_keys]; exact hn⟩
theorem Ent.nil (w : World) : Ent w { cls := .type "dict", data := .dict #[] } [] := by
  refine cps_EEAAAA (empty_dict (w := w)) ?_
  intro es ep hc hd hk hp hn
  exact ⟨hc, List.nodup_nil, _, rfl⟩
section
variable {w : World} {A : Around} {E : Value → Shared → Prop} {s : Shared}
theorem put_ent {d : Addr} {o : Obj} {l : List (Str × Tok × Value)} {k : Str} {t : Tok} {v : Value} {Q : Unit → Shared → Prop} (ho : s.heap.get? d = some o) (he : Ent w o l) (hn : k ∉ l.map (·.1)) (hsz : l.length ≤ 1000)
    (hQ : ∀ h' o', h'.get? d = some o' → Ent w o' (l ++ [(k, t, v)]) → Heap.SameBut d s.heap h' → Q () { s with heap := h' }) :
    wpAny (model PP w) A (dictPut d ((PySem.strKind PP w).hash k) (.str k t) v) Q E s := by
  refine cps_AAE he ?_
  intro hc hnd ep hd
  clear he
  have hnone : ((l.map (entry w)).toArray.findIdx? fun e => (PySem.strKind PP w).is k e.key) = none := by
    have e1 : ((l.map (entry w)).toArray.findIdx? fun e => (PySem.strKind PP w).is k e.key) = (plain l).findIdx? fun kv => decide (kv.1 = k) := by
      rw [← (pairs_ent w l).findIdx k]; simp
    rw [e1, List.findIdx?_eq_none_iff]
    intro p hp'
    rw [decide_eq_false_iff_not]
    exact fun q => hn (by rw [← plain_keys, ← q]; exact List.mem_map_of_mem (f := (·.1)) hp')
  unfold dictPut
  refine wpAny_bind (wpAny_dictFind_of (knd := PySem.strKind PP w) (strKind_is _ _ _ _) ho hd (keys_ent w l) ?_)
  rw [hnone]
  refine wpAny_updateDictKeys (hz := by rw [sizeLine_eq]; simp; omega) ho hd (hQ _ _ (Heap.get?_update_self _ ho (Obj.isFreed_of_dict (Obj.data_mapDictKeys hd _))) ⟨hc.mapDictKeys _, ?_, ep + 1, ?_⟩ (Heap.SameBut.update ..))
  · rw [List.map_append, List.nodup_append]
    refine ⟨hnd, by simp, fun a ha b hb e => hn ?_⟩
    simp only [List.map_cons, List.map_nil, List.mem_singleton] at hb
    rw [← hb, ← e]; exact ha
  · rw [Obj.data_mapDictKeys hd]
    simp [entry]

theorem set_ent {d : Addr} {o : Obj} {l : List (Str × Tok × Value)} {k : Str} {t : Tok} {v : Value} {Q : Unit → Shared → Prop} (ho : s.heap.get? d = some o) (he : Ent w o l) (hn : k ∉ l.map (·.1)) (hsz : l.length ≤ 1000)
    (hQ : ∀ h' o', h'.get? d = some o' → Ent w o' (l ++ [(k, t, v)]) → Heap.SameBut d s.heap h' → Q () { s with heap := h', toks := s.toks + 1 }) :
    wpAny (model PP w) A (dictSet d (.str k t) v) Q E s := by
  refine cps_AAE he ?_
  intro hc hnd ep hd
  clear he
  have hnone : ((l.map (entry w)).toArray.findIdx? fun e => (PySem.strKind PP w).is k e.key) = none := by
    have e1 : ((l.map (entry w)).toArray.findIdx? fun e => (PySem.strKind PP w).is k e.key) = (plain l).findIdx? fun kv => decide (kv.1 = k) := by
      rw [← (pairs_ent w l).findIdx k]; simp
    rw [e1, List.findIdx?_eq_none_iff]
    intro p hp'
    rw [decide_eq_false_iff_not]
    exact fun q => hn (by rw [← plain_keys, ← q]; exact List.mem_map_of_mem (f := (·.1)) hp')
  unfold dictSet
  try with_reducible refine wpAny_holding ?_
  refine wpAny_bind ((PySem.strKind PP w).pyHash (strKind_is _ _ _ _) ?_)
  unfold dictSetHashed
  try with_reducible refine wpAny_holding ?_
  refine wpAny_bind (wpAny_dictFind_of (knd := PySem.strKind PP w) (s := { s with toks := s.toks + 1 }) (strKind_is _ _ _ _) ho hd (keys_ent w l) ?_)
  rw [hnone]
  refine wpAny_bind (wpAny_rule ?_)
  refine wpAny_updateDictKeys (hz := by rw [sizeLine_eq]; simp; omega) ho hd (hQ _ _ (Heap.get?_update_self _ ho (Obj.isFreed_of_dict (Obj.data_mapDictKeys hd _))) ⟨hc.mapDictKeys _, ?_, ep + 1, ?_⟩ (Heap.SameBut.update ..))
  · rw [List.map_append, List.nodup_append]
    refine ⟨hnd, by simp, fun a ha b hb e => hn ?_⟩
    simp only [List.map_cons, List.map_nil, List.mem_singleton] at hb
    rw [← hb, ← e]; exact ha
  · rw [Obj.data_mapDictKeys hd]
    simp [entry]
theorem store_ent {d : Addr} : ∀ (vs : List (Str × Tok × Value)) (acc : List (Str × Tok × Value)) (s : Shared) (o : Obj) (Q : PUnit → Shared → Prop), s.heap.get? d = some o → Ent w o acc → ((acc ++ vs).map (·.1)).Nodup → acc.length + vs.length ≤ 1000 →
    (∀ h' o', h'.get? d = some o' → Ent w o' (acc ++ vs) → Heap.SameBut d s.heap h' → Q PUnit.unit { s with heap := h', toks := s.toks + vs.length }) →
    wpAny (model PP w) A (forIn (vs.map fun p => (Value.str p.1 p.2.1, p.2.2)) PUnit.unit fun (x : Value × Value) (_ : PUnit) => (do dictSet d x.1 x.2; pure (ForInStep.yield PUnit.unit) : Sem (ForInStep PUnit))) Q E s
  | [], acc, s, o, Q, ho, he, _, _, hQ => by
    rw [List.map_nil, List.forIn_nil]
    refine wpAny_pure ?_
    have := hQ s.heap o ho (by rw [List.append_nil]; exact he) (Heap.SameBut.refl _ _)
    exact this
  | p :: vs, acc, s, o, Q, ho, he, hnd, hsz, hQ => by
    rw [List.length_cons] at hsz
    rw [List.map_cons, List.forIn_cons]
    have hn : p.1 ∉ acc.map (·.1) := by
      rw [List.map_append, List.nodup_append] at hnd
      exact fun q => hnd.2.2 p.1 q p.1 (by simp) rfl
    refine wpAny_bind (wpAny_bind (set_ent ho he hn (by omega) fun h₁ o₁ ho₁ he₁ hs₁ => wpAny_pure ?_))
    refine store_ent vs (acc ++ [(p.1, p.2.1, p.2.2)]) { s with heap := h₁, toks := s.toks + 1 } o₁ Q ho₁ he₁ (by rw [List.append_assoc]; exact hnd) (by rw [List.length_append, List.length_singleton]; omega) fun h' o' ho' he' hs' => ?_
    rw [List.append_assoc] at he'
    have := hQ h' o' ho' he' (hs₁.trans hs')
    simpa [Nat.add_assoc, Nat.add_comm 1] using this
theorem sub_ent {pairs : List (Sem Value × Sem Value)} {Q : Addr → Shared → Prop} (hlen : pairs.length ≤ 15)
    (h : wpAny (model PP w) A (evalPairs pairs) (fun vs s₁ => ∃ l : List (Str × Tok × Value), vs = l.map (fun p => (Value.str p.1 p.2.1, p.2.2)) ∧ (l.map (·.1)).Nodup ∧ l.length ≤ 100 ∧ s₁.heap.get? s.heap.objs.size = some { cls := .type "dict", data := .dict #[] } ∧
      ∀ h' o', h'.get? s.heap.objs.size = some o' → Ent w o' l → Heap.SameBut s.heap.objs.size s₁.heap h' → Q s.heap.objs.size { s₁ with heap := h', toks := s₁.toks + l.length }) E
      { s with heap := s.heap.push { cls := .type "dict", data := .dict #[] } }) :
    wpAny (model PP w) A (subDict pairs) Q E s := by
  unfold subDict
  refine wpAny_bind (wpAny_alloc ?_)
  refine wpAny_bind (wpAny_holding ?_)
  rw [if_pos hlen]
  refine wpAny_bind (wpAny_mono h (fun vs s₁ h₁ => ?_) fun _ _ e => e)
  refine cps_EAAAA h₁ ?_
  rintro l rfl hnd hl ho hQ
  clear h₁
  refine wpAny_holding ?_
  exact wpAny_bind (store_ent l [] s₁ _ _ ho (Ent.nil w) hnd (by rw [List.length_nil]; omega) fun h' o' ho' he' hs' => wpAny_pure (wpAny_pure (hQ h' o' ho' he' hs')))
end
end

section
section
variable {w : World} {A : Around} {E : Value → Shared → Prop} {s : Shared}
theorem pour_ent {d a : Addr} {od oa : Obj} {more : List (Str × Tok × Value)} {Q : Unit → Shared → Prop} (hda : d ≠ a) (hS : (a == sysModules) = false) (hod : s.heap.get? d = some od) (hd : Ent w od []) (hoa : s.heap.get? a = some oa) (ha : Ent w oa more) (hsz : more.length ≤ 100)
    (hQ : ∀ h' o', h'.get? d = some o' → Ent w o' more → Heap.SameBut d s.heap h' → Q () { s with heap := h' }) :
    wpAny (model PP w) A (mergeMapping d (.ref a) false) Q E s := by
  with_reducible refine hide ?_
  intro GG hGG
  refine cps_AAE (id hd) ?_
  intro hcd hnd epd hdd
  refine cps_AAE (id ha) ?_
  intro hca hna epa hda'
  with_reducible refine hGG ?_
  clear hGG GG
  have haD : s.heap.DictOf (PySem.strKind PP w) a (plain more) := Heap.dictOf_iff.mpr ⟨_, hoa, ha.isDict⟩
  unfold mergeMapping
  refine wpAny_bind (m := isInstance (.ref a) (.type "dict")) (wpAny_isInstance (b := true) haD.typeIs (by rw [isSubtype_type]; kernel_rfl) ?_)
  dsimp only
  rw [if_pos rfl]
  refine wpAny_bind (m := specialOf (.ref a) (Str.ofString "__iter__")) (wpAny_specialOf haD.typeIs PySem.F.slot_dict_iter.lookup ?_)
  refine wpAny_bind (wpAny_pure ?_)
  rw [show (some (Value.builtin "dict.__iter__") == some (Value.builtin "dict.__iter__")) = true from by simp]
  dsimp only
  rw [if_neg (by rw [hS]; exact Bool.false_ne_true)]
  refine wpAny_bind (wpAny_dictEntries hod hdd ?_)
  rw [if_pos (by rfl)]
  refine wpAny_bind (wpAny_dictEntries hoa hda' ?_)
  refine wpAny_bind (Q := Q) ?_
  rw [← Array.forIn_toList]
  refine wpAny_forIn_list _ (fun l _ s' => s' = s ∧ ∀ e ∈ l, ∃ k t, e.key = Value.str k t) _ ?_ ?_ _ _ ⟨rfl, fun e he => ?_⟩
  · rintro e rest b s' ⟨rfl, hl⟩
    with_reducible refine hide ?_
    intro GG hGG
    obtain ⟨k, t, hk⟩ := hl e (.head _)
    with_reducible refine hGG ?_
    clear hGG GG
    rw [hk]
    exact wpAny_pure ⟨rfl, fun e' h' => hl e' (.tail _ h')⟩
  · rintro b s' ⟨rfl, -⟩
    refine wpAny_bind (wpAny_dictEntries hoa hda' ?_)
    refine wpAny_bind (wpAny_dictEpoch hoa hda' ?_)
    refine wpAny_bind ?_
    have hsize : (more.map (entry w)).toArray.size = more.length := by simp
    refine wpAny_forIn_list _
      (fun rest _ s₁ => ∃ h' i o', s₁ = { s' with heap := h' } ∧ rest = List.range' i (more.length - i) ∧ i ≤ more.length ∧ h'.get? d = some o' ∧ Ent w o' (more.take i) ∧ h'.get? a = some oa ∧ Heap.SameBut d s'.heap h')
      _ ?_ ?_ _ _ ⟨s'.heap, 0, od, rfl, by rw [hsize, List.range_eq_range', Nat.sub_zero], Nat.zero_le _, hod, by simpa using hd, hoa, Heap.SameBut.refl _ _⟩
    · intro x rest b s₁ hXX
      refine cps_EEEAAAAAA hXX ?_
      rintro h' i o' rfl hr hi hod' hd' hoa' hs'
      clear hXX
      have hlt : i < more.length := by
        rcases Nat.lt_or_ge i more.length with h | h
        · exact h
        · rw [Nat.sub_eq_zero_of_le h] at hr; simp at hr
      have e1 : more.length - i = (more.length - (i + 1)) + 1 := sb2 hlt
      rw [e1, List.range'_succ] at hr
      obtain ⟨rfl, hrest⟩ := List.cons.inj hr
      refine wpAny_bind (wpAny_dictEntries hoa' hda' ?_)
      rw [Array.getElem?_eq_getElem (by rw [hsize]; exact hlt)]
      have hent : (more.map (entry w)).toArray[x]'(by rw [hsize]; exact hlt) = entry w more[x] := by simp
      have htk : more.take (x + 1) = more.take x ++ [more[x]] := by rw [List.take_add_one, List.getElem?_eq_getElem hlt]; rfl
      have hfresh : more[x].1 ∉ (more.take x).map (·.1) := by
        have : ((more.take (x + 1)).map (·.1)).Nodup := hna.sublist ((List.take_sublist _ _).map _)
        rw [htk, List.map_append, List.nodup_append] at this
        exact fun q => this.2.2 _ q _ (by simp) rfl
      dsimp only
      rw [hent]
      refine wpAny_bind (wpAny_holding ?_)
      rw [if_neg Bool.false_ne_true]
      refine put_ent (t := more[x].2.1) hod' hd' hfresh (by rw [List.length_take]; omega) fun h'' o'' hod'' hd'' hs'' => ?_
      have hoa'' : h''.get? a = some oa := (hs''.2 a (Ne.symm hda)).trans hoa'
      refine wpAny_bind (wpAny_dictEpoch hoa'' hda' ?_)
      rw [if_neg (by simp)]
      exact wpAny_pure ⟨h'', x + 1, o'', rfl, hrest, hlt, hod'', by rw [htk]; exact hd'', hoa'', hs'.trans hs''⟩
    · intro b s₁ hXX
      refine cps_EEEAAAAAA hXX ?_
      rintro h' i o' rfl hr hi hod' hd' hoa' hs'
      clear hXX
      have hin : i = more.length := by
        rcases Nat.lt_or_ge i more.length with h | h
        · have e : more.length - i = (more.length - (i + 1)) + 1 := sb2 h
          rw [e, List.range'_succ] at hr; exact nomatch hr
        · exact Nat.le_antisymm hi h
      refine wpAny_pure (hQ h' o' hod' ?_ hs')
      rw [hin, List.take_length] at hd'; exact hd'
  · with_reducible refine hide ?_
    intro GG hGG
    obtain ⟨p, -, rfl⟩ := List.mem_map.mp (show e ∈ more.map (entry w) from he)
    with_reducible refine hGG ?_
    clear hGG GG
    exact ⟨_, _, rfl⟩

theorem star_ent {v0 : Sem Value} {pairs : List (Sem Value × Sem Value)} {Q : Value → Shared → Prop} (h0 : pairs ≠ []) (hlen : pairs.length ≤ 15)
    (h : wpAny (model PP w) A v0 (fun m s₂ => ∃ a oD oa, m = .ref a ∧ (a == sysModules) = false ∧ s.heap.objs.size ≠ a ∧ s₂.heap.get? s.heap.objs.size = some oD ∧ Ent w oD [] ∧ s₂.heap.get? a = some oa ∧ Ent w oa [] ∧ ∀ h₁ o₁, h₁.get? s.heap.objs.size = some o₁ → Ent w o₁ [] → Heap.SameBut s.heap.objs.size s₂.heap h₁ →
      wpAny (model PP w) A (subDict pairs) (fun S s₃ => ∃ oD oS more, s.heap.objs.size ≠ S ∧ (S == sysModules) = false ∧ s₃.heap.get? s.heap.objs.size = some oD ∧ Ent w oD [] ∧ s₃.heap.get? S = some oS ∧ Ent w oS more ∧ more.length ≤ 100 ∧
        ∀ h' o', h'.get? s.heap.objs.size = some o' → Ent w o' more → Heap.SameBut s.heap.objs.size s₃.heap h' → Q (.ref s.heap.objs.size) { s₃ with heap := h' }) E { s₂ with heap := h₁ }) E { s with heap := s.heap.push { cls := .type "dict", data := .dict #[] } }) :
    wpAny (model PP w) A (dictDisplay ((none, v0) :: pairs.map fun p => (some p.1, p.2))) Q E s := by
  unfold dictDisplay
  dsimp only
  rw [List.forIn_cons]
  dsimp only
  refine wpAny_bind (wpAny_bind ?_)
  rw [if_pos (show ([] : List (Sem Value × Sem Value)).isEmpty = true from rfl)]
  refine wpAny_bind (wpAny_pure ?_)
  dsimp only
  refine wpAny_bind (wpAny_alloc ?_)
  refine wpAny_bind (wpAny_holding (wpAny_mono h (fun m s₂ h₂ => ?_) fun _ _ x => x))
  refine cps_EEEAAAAAAA h₂ ?_
  rintro a oD oa rfl hS hDa hD hDe ha hae h₂
  refine wpAny_bind (wpAny_onRaise (wpAny_tryCatch (wpAny_onRaise (wpAny_holding (pour_ent hDa hS hD hDe ha hae (by simp) fun h₁ o₁ d₁ e₁ sb₁ => ?_)))))
  refine wpAny_pure ?_
  dsimp only
  rw [gather_run s.heap.objs.size _ (fun p run hr => ?_) pairs [] (by simp only [List.length_nil]; omega), List.nil_append]
  refine wpAny_pure ?_
  dsimp only
  rw [if_neg (by rw [List.isEmpty_iff]; exact h0)]
  · refine wpAny_bind (wpAny_bind (wpAny_holding (wpAny_mono (h₂ h₁ o₁ d₁ e₁ sb₁) (fun S s₃ h₃ => ?_) fun _ _ x => x)))
    refine cps_EEEAAAAAAA h₃ ?_
    intro oD oS more hDS hSS hD₃ hDe₃ hS₃ hSe₃ hsz h₃
    refine wpAny_bind (wpAny_onRaise (wpAny_holding (pour_ent hDS hSS hD₃ hDe₃ hS₃ hSe₃ hsz fun h' o' e1 e2 e3 => wpAny_pure ?_)))
    exact wpAny_pure (h₃ h' o' e1 e2 e3)
  · dsimp only
    rw [if_neg (by rw [List.length_append, List.length_singleton, beq_iff_eq]; omega)]
end
section
variable {w : World} {A : Around} {E : Value → Shared → Prop} {s : Shared} {env : Env} {g : Heap} {L : Addr} {m : Str → Option Value} {news : List (Addr × Obj)}
theorem dict_star_E {e : PySem.Expr} {keys : List (Option PySem.Expr)} {values : List PySem.Expr} {pos : Pos} {a : Addr} {oa : Obj} {Q : Value → Shared → Prop} (F : Fr g L s.heap m) (N : News g L s.heap news) (hbig : g.NoLimit)
    (hga : g.get? a = some oa) (hoa : Ent w oa []) (haS : (a == sysModules) = false)
    (he : ∀ (s' : Shared) (Q' : Value → Shared → Prop), s'.heap.Ns L m → Q' (.ref a) s' → wpAny (model PP w) A (eval e env) Q' E s')
    (hall : keys.all (·.isSome) = true) (hl : keys.length = values.length) (h0' : keys ≠ []) (hlen' : keys.length ≤ 15)
    (h : ∀ D S h' oD oS, Fr g L h' m → News g L h' ((S, oS) :: (D, oD) :: news) → (∀ p ∈ news, p.1 < D) → @LT.lt Nat _ D S → (D == sysModules) = false →
      wpAny (model PP w) A (evalPairs (pairTrees keys values env pos)) (fun vs s₁ => Stop (∃ l : List (Str × Tok × Value), vs = l.map (fun p => (Value.str p.1 p.2.1, p.2.2)) ∧ (l.map (·.1)).Nodup ∧ l.length ≤ 100 ∧ s₁.heap = h' ∧
        ∀ h'' oS' oD', Fr g L h'' m → News g L h'' ((S, oS') :: (D, oD') :: news) → Ent w oD' l → Q (.ref D) { s₁ with heap := h'', toks := s₁.toks + l.length })) E { s with heap := h' }) :
    wpAny (model PP w) A (eval (.Dict (none :: keys) (e :: values) pos) env) Q E s := by
  have hpl := pairTrees_length keys values env pos hall hl
  have hlen : (pairTrees keys values env pos).length ≤ 15 := by rw [hpl]; exact hlen'
  have h0 : pairTrees keys values env pos ≠ [] := fun q => h0' (List.length_eq_zero_iff.mp (by rw [← hpl, q]; rfl))
  have hshape : (evalEachOpt (none :: keys) env).zip ((evalEach (e :: values) env).map fun v => do let x ← v; standAt pos; pure x) = (none, do let x ← eval e env; standAt pos; pure x) :: (pairTrees keys values env pos).map fun p => (some p.1, p.2) := by
    rw [← zip_pairTrees keys values env pos hall hl]; rfl
  rw [arm_eval_Dict, hshape]
  refine wpAny_bind (wpAny_standAt (star_ent h0 hlen ?_))
  have hoD := Heap.get?_push_size s.heap (o := { cls := .type "dict", data := .dict #[] }) rfl
  have up1 : ∀ b o, s.heap.get? b = some o → (s.heap.push { cls := .type "dict", data := .dict #[] }).get? b = some o := fun b o q => Heap.get?_push_of_some _ q
  have F1 := F.kept up1
  have N1 : News g L _ ((s.heap.objs.size, _) :: news) := news_pushed F N up1 hoD rfl
  have hDlt : ∀ p ∈ news, p.1 < s.heap.objs.size := fun p hp => Heap.lt_size (N p hp).1
  have hDa : s.heap.objs.size ≠ a := fun q => by
    have := Heap.lt_size (F.keep _ _ hga)
    rw [← q] at this; exact Nat.lt_irrefl _ this
  refine wpAny_bind (he _ _ F1.ns (wpAny_bind (wpAny_standAt (wpAny_pure ⟨a, _, _, rfl, haS, hDa, hoD, Ent.nil w, F1.keep _ _ hga, hoa, fun h₁ oD1 hoD1 hdD1 sb₁ => ?_⟩))))
  have nD := (N1 _ (.head _)).2
  have F2 : Fr g L h₁ m := F1.change sb₁ nD.1 nD.2
  have N2 : News g L h₁ ((s.heap.objs.size, oD1) :: news) := List.forall_mem_cons.mpr ⟨⟨hoD1, nD⟩, fun p hp => ⟨sb₁.extBut _ _ (Nat.ne_of_lt (hDlt p hp)) (N1 p (.tail _ hp)).1, (N1 p (.tail _ hp)).2⟩⟩
  refine sub_ent hlen ?_
  have hoS := Heap.get?_push_size h₁ (o := { cls := .type "dict", data := .dict #[] }) rfl
  have up2 : ∀ b o, h₁.get? b = some o → (h₁.push { cls := .type "dict", data := .dict #[] }).get? b = some o := fun b o q => Heap.get?_push_of_some _ q
  have F3 := F2.kept up2
  have N3 : News g L _ ((h₁.objs.size, _) :: (s.heap.objs.size, oD1) :: news) := news_pushed (s := { s with heap := h₁ }) F2 N2 up2 hoS rfl
  have hSlt : ∀ p ∈ (s.heap.objs.size, oD1) :: news, p.1 < h₁.objs.size := fun p hp => Heap.lt_size (N2 p hp).1
  have hDS : @LT.lt Nat _ s.heap.objs.size h₁.objs.size := hSlt _ (.head _)
  refine wpAny_mono (h s.heap.objs.size h₁.objs.size _ oD1 _ F3 N3 hDlt hDS (F.notModules (modules_low hbig))) (fun vs s₁ z => ?_) fun _ _ x => x
  with_reducible refine hide ?_
  intro GG hGG
  refine cps_EAAAA (z.go) ?_
  intro l hvs hnd hkl hh hQ
  obtain ⟨hp1, gg, dd, tt, oo⟩ := s₁
  with_reducible refine hGG ?_
  clear hGG GG
  have hh : hp1 = h₁.push { cls := .type "dict", data := .dict #[] } := hh
  subst hh
  refine ⟨l, hvs, hnd, hkl, hoS, fun h' oS' hoS' hdS' hs' => ?_⟩
  have nS := (N3 _ (.head _)).2
  have F4 : Fr g L h' m := F3.change hs' nS.1 nS.2
  have N4 : News g L h' ((h₁.objs.size, oS') :: (s.heap.objs.size, oD1) :: news) := List.forall_mem_cons.mpr ⟨⟨hoS', nS⟩, fun p hp => ⟨hs'.extBut _ _ (Nat.ne_of_lt (hSlt p hp)) (N3 p (.tail _ hp)).1, (N3 p (.tail _ hp)).2⟩⟩
  refine ⟨oD1, oS', l, Nat.ne_of_lt hDS, F2.notModules (modules_low hbig), (N4 _ (.tail _ (.head _))).1, hdD1, hoS', hdS', hkl, fun h'' oD' hoD' hdD' hs'' => ?_⟩
  refine hQ h'' oS' oD' (F4.change hs'' nD.1 nD.2) (List.forall_mem_cons.mpr ⟨⟨hs''.extBut _ _ (Nat.ne_of_gt hDS) (N4 _ (.head _)).1, nS⟩, List.forall_mem_cons.mpr ⟨⟨hoD', nD⟩, fun p hp => ⟨hs''.extBut _ _ (Nat.ne_of_lt (hDlt p hp)) (N4 p (.tail _ (.tail _ hp))).1, (N4 p (.tail _ (.tail _ hp))).2⟩⟩⟩) hdD'

theorem dict_lit_E {keys : List (Option PySem.Expr)} {values : List PySem.Expr} {pos : Pos} {Q : Value → Shared → Prop} (F : Fr g L s.heap m) (N : News g L s.heap news) (hbig : g.NoLimit)
    (hall : keys.all (·.isSome) = true) (hl : keys.length = values.length) (h0' : keys ≠ []) (hlen' : keys.length ≤ 15)
    (h : ∀ D h' oD, Fr g L h' m → News g L h' ((D, oD) :: news) → (∀ p ∈ news, p.1 < D) → (D == sysModules) = false →
      wpAny (model PP w) A (evalPairs (pairTrees keys values env pos)) (fun vs s₁ => Stop (∃ l : List (Str × Tok × Value), vs = l.map (fun p => (Value.str p.1 p.2.1, p.2.2)) ∧ (l.map (·.1)).Nodup ∧ l.length ≤ 100 ∧ s₁.heap = h' ∧
        ∀ h'' oD', Fr g L h'' m → News g L h'' ((D, oD') :: news) → Ent w oD' l → Q (.ref D) { s₁ with heap := h'', toks := s₁.toks + l.length })) E { s with heap := h' }) :
    wpAny (model PP w) A (eval (.Dict keys values pos) env) Q E s := by
  have hpl := pairTrees_length keys values env pos hall hl
  have hlen : (pairTrees keys values env pos).length ≤ 15 := by rw [hpl]; exact hlen'
  have h0 : pairTrees keys values env pos ≠ [] := fun q => h0' (List.length_eq_zero_iff.mp (by rw [← hpl, q]; rfl))
  rw [arm_eval_Dict, zip_pairTrees keys values env pos hall hl, dictDisplay_pairs _ h0 (by omega)]
  refine wpAny_bind (wpAny_standAt (wpAny_bind (sub_ent (Q := fun d s' => wpAny (model PP w) A (pure (Value.ref d)) Q E s') hlen ?_)))
  have hoD := Heap.get?_push_size s.heap (o := { cls := .type "dict", data := .dict #[] }) rfl
  have up1 : ∀ b o, s.heap.get? b = some o → (s.heap.push { cls := .type "dict", data := .dict #[] }).get? b = some o := fun b o q => Heap.get?_push_of_some _ q
  have F1 := F.kept up1
  have N1 : News g L _ ((s.heap.objs.size, _) :: news) := news_pushed F N up1 hoD rfl
  have hDlt : ∀ p ∈ news, p.1 < s.heap.objs.size := fun p hp => Heap.lt_size (N p hp).1
  refine wpAny_mono (h s.heap.objs.size _ _ F1 N1 hDlt (F.notModules (modules_low hbig))) (fun vs s₁ z => ?_) fun _ _ x => x
  with_reducible refine hide ?_
  intro GG hGG
  refine cps_EAAAA (z.go) ?_
  intro l hvs hnd hkl hh hQ
  obtain ⟨hp1, gg, dd, tt, oo⟩ := s₁
  with_reducible refine hGG ?_
  clear hGG GG
  have hh : hp1 = s.heap.push { cls := .type "dict", data := .dict #[] } := hh
  subst hh
  refine ⟨l, hvs, hnd, hkl, hoD, fun h' oD' hoD' hdD' hs' => wpAny_pure ?_⟩
  have nD := (N1 _ (.head _)).2
  exact hQ h' oD' (F1.change hs' nD.1 nD.2) (List.forall_mem_cons.mpr ⟨⟨hoD', nD⟩, fun p hp => ⟨hs'.extBut _ _ (Nat.ne_of_lt (hDlt p hp)) (N1 p (.tail _ hp)).1, (N1 p (.tail _ hp)).2⟩⟩) hdD'
end
end

section
open PyProof.V
section
variable {w : World} {A : Around} {E : Value → Shared → Prop} {s : Shared}
theorem next_ent {it d : Addr} {i ep : Nat} {od : Obj} {es : Array DictEntry} {ok ov : Value} {Q : Option Value → Shared → Prop} (hit : IsItemIter s.heap it d i es.size ep ok ov)
    (hod : s.heap.get? d = some od) (hdd : od.data = .dict es ep) (hlt' : i < es.size)
    (hQ : ∀ h', IsItemIterOut h' it d (i + 1) es.size ep es[i].key es[i].val s.heap.objs.size →
      h'.get? s.heap.objs.size = some { cls := .type "tuple", data := .seq #[es[i].key, es[i].val] } →
      (∀ b o, b ≠ it → s.heap.get? b = some o → h'.get? b = some o) → Q (some (.ref s.heap.objs.size)) { s with heap := h' }) :
    wpAny (model PP w) A (pyNext (.ref it)) Q E s := by
  with_reducible refine hide ?_
  intro GG hGG
  obtain ⟨hp, g, dr, tk, os⟩ := s
  with_reducible refine hGG ?_
  clear hGG GG
  have hT : Shared.TypeIs ⟨hp, g, dr, tk, os⟩ (.ref it) "dict_itemiterator" := ⟨_, hit, rfl⟩
  have hil : it < hp.objs.size := Heap.lt_size hit
  unfold pyNext
  refine wpAny_bind (wpAny_attempt (wpAny_callSpecial?_slot (name := Str.ofString "__next__") hT PySem.F.slot_dict_itemiterator_next
    (wpAny_call_entry PySem.F.slot_dict_itemiterator_next hT PySem.F.entry_dict_itemiterator_next ?_ (PySem.F.args_dict_itemiterator_next_1 _))))
  refine wpAny_bind (wpAny_pure (wpAny_bind (wpAny_bind ?_)))
  first | refine wpAny_bind (wpAny_typeNameOfWhole_itemiter hT (wpAny_pure ?_)) | refine wpAny_bind (wpAny_typeNameOf_itemiter hT (wpAny_pure ?_))
  refine wpAny_bind (wpAny_fieldsOf hit rfl ?_)
  simp only [show Builtin.Dict_items.ownsTuple "dict_itemiterator" = true from by decide, if_true]
  show wpAny _ _ (if (Value.ref d == Value.none) = true then _ else _) _ _ _
  rw [if_neg (show ¬ ((Value.ref d == Value.none) = true) from Bool.false_ne_true)]
  refine wpAny_bind (wpAny_pure (wpAny_bind (wpAny_dictEntries hod hdd ?_)))
  rw [if_neg (by simp)]
  refine wpAny_bind (wpAny_pure (wpAny_bind (wpAny_dictEpoch hod hdd ?_)))
  rw [if_neg (by simp)]
  refine wpAny_pure ?_
  simp only [show ¬ ((i : Int) < 0) from by omega, if_false, Int.toNat_natCast, Array.getElem?_eq_getElem hlt']
  refine wpAny_bind ?_
  first | refine wpAny_bind (wpAny_typeNameOfWhole_itemiter hT (wpAny_pure ?_)) | refine wpAny_bind (wpAny_typeNameOf_itemiter hT (wpAny_pure ?_))
  refine wpAny_bind (wpAny_isOneOf_itemiter hT ?_)
  show wpAny _ _ (setField (.ref it) 3 (rawInt ((i : Int) + 1)) >>= _) _ _ ⟨hp, g, dr, tk, os⟩
  refine wpAny_bind (wpAny_setField_rec hit (by simp) fun a₁ i₁ b₁ => ?_)
  replace b₁ : Heap.SameBut it hp a₁ := b₁
  replace i₁ : IsItemIter a₁ it d (i + 1) es.size ep ok ov := by
    have e : ((i + 1 : Nat) : Int) = (i : Int) + 1 := by omega
    unfold IsItemIter; rw [e]; simpa [rawInt] using i₁
  have hT₁ : Shared.TypeIs ⟨a₁, g, dr, tk, os⟩ (.ref it) "dict_itemiterator" := ⟨_, i₁, rfl⟩
  refine wpAny_bind (wpAny_holding (wpAny_bind (wpAny_isOneOf_itemiter hT₁ (wpAny_bind (wpAny_isOneOf_itemiter hT₁ ?_)))))
  show wpAny _ _ (Builtin.Dict_items.pairFromOwner (.ref it) 6 es[i].key es[i].val) _ _ ⟨a₁, g, dr, tk, os⟩
  unfold Builtin.Dict_items.pairFromOwner
  refine wpAny_bind (wpAny_newTuple ?_)
  have z₁ : a₁.objs.size = hp.objs.size := b₁.1
  have i₂ : IsItemIter (a₁.push { cls := .type "tuple", data := .seq #[es[i].key, es[i].val] }) it d (i + 1) es.size ep ok ov := Heap.get?_push_of_some _ i₁
  have t₂ : (a₁.push { cls := .type "tuple", data := .seq #[es[i].key, es[i].val] }).get? hp.objs.size = some { cls := .type "tuple", data := .seq #[es[i].key, es[i].val] } := by rw [← z₁]; exact Heap.get?_push_size _ rfl
  have k₂ : ∀ b o, b ≠ it → hp.get? b = some o → (a₁.push { cls := .type "tuple", data := .seq #[es[i].key, es[i].val] }).get? b = some o := fun b o hb e => Heap.get?_push_of_some _ (b₁.extBut b o hb e)
  show wpAny _ _ (Builtin.Dict_items.ownedTupleIsFree (.ref it) >>= _) _ _ ⟨a₁.push { cls := .type "tuple", data := .seq #[es[i].key, es[i].val] }, g, dr, tk, os⟩
  rw [z₁]
  generalize a₁.push { cls := .type "tuple", data := .seq #[es[i].key, es[i].val] } = a₂ at i₂ t₂ k₂ ⊢
  refine wpAny_bind ?_
  unfold Builtin.Dict_items.ownedTupleIsFree
  refine wpAny_bind (wpAny_field i₂ rfl (x := .none) rfl (wpAny_pure ?_))
  simp only [if_true]
  refine wpAny_bind (wpAny_field i₂ rfl (x := ok) rfl (wpAny_bind (wpAny_field i₂ rfl (x := ov) rfl ?_)))
  refine wpAny_bind (wpAny_setField_rec i₂ (by simp) fun a₃ i₃ b₃ => ?_)
  replace i₃ : IsItemIter a₃ it d (i + 1) es.size ep es[i].key ov := i₃
  refine wpAny_bind (wpAny_setField_rec i₃ (by simp) fun a₄ i₄ b₄ => ?_)
  replace i₄ : IsItemIter a₄ it d (i + 1) es.size ep es[i].key es[i].val := i₄
  refine wpAny_bind (wpAny_setField_rec i₄ (by simp) fun a₅ i₅ b₅ => ?_)
  replace i₅ : IsItemIterOut a₅ it d (i + 1) es.size ep es[i].key es[i].val hp.objs.size := i₅
  refine wpAny_bind (wpAny_setField_rec i₅ (by simp) fun a₆ i₆ b₆ => ?_)
  have up : ∀ b o, b ≠ it → a₂.get? b = some o → a₆.get? b = some o := fun b o hb e => b₆.extBut b o hb (b₅.extBut b o hb (b₄.extBut b o hb (b₃.extBut b o hb e)))
  exact wpAny_bind (wpAny_letGo (wpAny_pure (wpAny_pure ⟨_, rfl, wpAny_pure (hQ a₆ i₆ (up _ _ (Nat.ne_of_gt hil) t₂) fun b o hb e => up b o hb (k₂ b o hb e))⟩)))

theorem turns_ent {elts : List Expr} {kk : Nat} {pos : Pos} (hh : A.handled = none) (I d : Addr) (hne : d ≠ I) (od : Obj) (es : Array DictEntry) (ep : Nat) (kvs : List (Str × Value)) (hdd : od.data = .dict es ep) (hat : ∀ h : Heap, h.get? d = some od → h.DictAt (PySem.strKind PP w) d kvs ep) (hsz : kvs.length = es.size) :
    KTurns PP w A (.Tuple elts kk pos) I [I, d] [I] es.size
      (fun i v h => ∃ T e, v = .ref T ∧ es[i]? = some e ∧ h.IsTuple T #[e.key, e.val])
      (fun i v h => ∃ T e ok ov, v = .ref T ∧ es[i]? = some e ∧ h.IsTuple T #[e.key, e.val] ∧ IsItemIterOut h I d (i + 1) es.size ep ok ov T ∧ h.get? d = some od ∧ T ≠ I)
      (fun i h => (∃ ok ov, IsItemIter h I d i es.size ep ok ov) ∧ h.get? d = some od) where
  sub := fun b hb => by simp at hb; simp [hb]
  frame := fun i h h' st hk => by
    with_reducible refine hide ?_
    intro GG hGG
    obtain ⟨⟨ok, ov, he⟩, hm⟩ := st
    with_reducible refine hGG ?_
    clear hGG GG
    exact ⟨⟨ok, ov, hk I (by simp) _ he⟩, hk d (by simp) _ hm⟩
  item := fun i s Q E hi st hQ => by
    with_reducible refine hide ?_
    intro GG hGG
    obtain ⟨⟨ok, ov, he⟩, hm⟩ := st
    with_reducible refine hGG ?_
    clear hGG GG
    refine next_ent he hm hdd hi fun h' ho hT hk => ?_
    exact hQ _ h' s.toks ⟨_, es[i], _, _, rfl, Array.getElem?_eq_getElem hi, ⟨_, hT, rfl, _, rfl⟩, ho, hk d od hne hm, Nat.ne_of_gt (Heap.lt_size he)⟩ fun b o hb e => hk b o (fun h => hb (by simp [h])) e
  go := fun i v s Q E hm hQ => by
    refine cps_EEEEAAAAA hm ?_
    rintro T e ok ov rfl hx hT ho hd hTI
    clear hm
    refine wpAny_letOwnedTupleGo_items ho fun h' he hs => ?_
    exact hQ h' ⟨T, e, rfl, hx, hT.at fun o e => hs.extBut T o hTI e⟩ ⟨⟨ok, ov, he⟩, hs.extBut _ _ hne hd⟩ fun b o hb e => hs.extBut b o (fun h => hb (by simp [h])) e
  done := fun s Q E st hQ => by
    with_reducible refine hide ?_
    intro GG hGG
    obtain ⟨⟨ok, ov, he⟩, hm⟩ := st
    with_reducible refine hGG ?_
    clear hGG GG
    exact wpAny_pyNext_items_end hh (by rw [hsz]; exact he) (hat _ hm) (by rw [← hsz]; simp) fun h' hx => hQ h' s.toks fun b o hb e => hx b o (fun h => hb (by simp [h])) e

theorem for_items_E {env : Env} {h₀ : Heap} {body : List Stmt} {Q : Flow → Shared → Prop} {elts : List Expr} {kk : Nat} {pos : Pos} {d vw : Addr} {od : Obj} {l : List (Str × Tok × Value)} {m₀ : Str → Option Value} {news : List (Addr × Obj)}
    {xs : List Itm} (hd : Ent w od l) (hx : l.map (fun p => Itm.pair (fun _ => .str p.1 p.2.1) p.2.2) = xs) (hh : A.handled = none) (F : Fr h₀ env.locals s.heap m₀) (N : News h₀ env.locals s.heap news) (hvw : ∃ ov, s.heap.get? vw = some ov ∧ ov.cls = .type "dict_items" ∧ ov.data = .fields #[.ref d]) (hm : (d, od) ∈ news)
    (rest₀ : ∀ I : Addr, (∀ p ∈ news, p.1 < I) → ItemsRest PP w A E h₀ env (.Tuple elts kk pos) body Q s [(I, "dict_itemiterator")] [(d, od)] xs m₀ news) :
    wpAny (model PP w) A (pyIter (.ref vw)) (fun it s₂ => TurnsAt PP w A h₀ env (.Tuple elts kk pos) body Q E it s₂) E s := by
  subst hx
  have hax := N _ hm
  refine cps_AAE (id hd) ?_
  intro hc hn ep hdd
  have hat : ∀ h : Heap, h.get? d = some od → h.DictAt (PySem.strKind PP w) d (plain l) ep := fun h e =>
    ⟨od, _, e, hc, hdd, keys_ent w l, by simpa using pairs_ent w l, by rw [plain_keys]; exact hn⟩
  have hsz : (plain l).length = (l.map (entry w)).toArray.size := by unfold plain; simp
  have hne : d ≠ s.heap.objs.size := Nat.ne_of_lt (Heap.lt_size hax.1)
  refine wpAny_pyIter_items hvw (hat _ hax.1) ?_
  refine ktu_core (tk0 := s.toks) (keep := [(d, od)]) (turns_ent hh s.heap.objs.size d hne od _ ep (plain l) hdd hat hsz) (by simp) ?_ ?_ ?_ ?_ ?_ ?_ ?_ ?_ (F.push _) (fun p hp => ⟨Heap.get?_push_of_some _ (N p hp).1, (N p hp).2⟩) (And.intro hm trivial) (rest₀ _ fun p hp => Heap.lt_size (N p hp).1)
  · intro i v h hXX
    refine cps_EEAA hXX ?_
    rintro T' e rfl hx hT
    clear hXX
    with_reducible refine hide ?_
    intro GG hGG
    obtain ⟨p, hp, rfl⟩ : ∃ p, l[i]? = some p ∧ entry w p = e := by simpa using hx
    with_reducible refine hGG ?_
    clear hGG GG
    exact ⟨.pair (fun _ => .str p.1 p.2.1) p.2.2, by rw [List.getElem?_map, hp]; rfl, T', 0, rfl, hT⟩
  · intro i h hXX
    with_reducible refine hide ?_
    intro GG hGG
    obtain ⟨⟨ok, ov, he⟩, _⟩ := hXX
    with_reducible refine hGG ?_
    clear hGG GG
    have e1 : ∃ o : Obj, h.get? s.heap.objs.size = some o ∧ o.cls = .type "dict_itemiterator" := ⟨_, he, rfl⟩
    with_reducible refine hide ?_
    intro GG hGG
    obtain ⟨oi, g, c⟩ := e1
    with_reducible refine hGG ?_
    clear hGG GG
    exact ⟨[(s.heap.objs.size, oi)], ⟨⟨rfl, c⟩, trivial⟩, fun p hp => by rw [List.mem_singleton.mp hp]; exact g⟩
  · intro b hb
    have hb' : b = s.heap.objs.size := by simpa using hb
    rw [hb']
    exact ⟨List.mem_cons_self .., next_is_new F⟩
  · intro b hb
    simpa using hb
  · intro b hb
    have hb' : b = s.heap.objs.size ∨ b = d := by simpa using hb
    rcases hb' with e | e
    · exact .inl (by simp [e])
    · exact .inr ⟨od, by simp [e]⟩
  · intro hI
    have hb' : env.locals = s.heap.objs.size ∨ env.locals = d := by simpa using hI
    rcases hb' with e | e
    · exact absurd F.ns.lt (e ▸ Nat.lt_irrefl _)
    · exact hax.2.1 e.symm
  · intro p hp hI
    exact absurd (Heap.lt_size (N p hp).1) ((List.mem_singleton.mp hI) ▸ Nat.lt_irrefl _)
  · refine ⟨⟨.none, .none, ?_⟩, Heap.get?_push_of_some _ hax.1⟩
    rw [← hsz]; exact Heap.get?_push_size _ rfl
end
end

section
theorem gen_tk {α : Type} {M : Model} {A : Around} {t : Sem α} {Q : α → Shared → Prop} {E : Value → Shared → Prop} {h : Heap} {g : Array GenState} {d : Drawn} {os : OsState} {x y : Nat} (hp : 0 < x + y)
    (k : ∀ tk : Nat, 0 < tk → wpAny M A t Q E ⟨h, g, d, tk, os⟩) : wpAny M A t Q E ⟨h, g, d, x + y, os⟩ := k _ hp
theorem replace_lit {prog : Program} {w : World} {A : Around} {E : Value → Shared → Prop} {s : Shared} {x y z r : Str} {t u v : Tok} {Q : Value → Shared → Prop}
    (hf : Txt.replace x y z = r ∧ (y == z) = false ∧ Nat.ble (x.length + (x.length + 1) * z.length) 16777216 = true) (h0 : 0 < s.toks) (hu : @LT.lt Nat _ 0 u) (huv : @LT.lt Nat _ u v)
    (hq : ∀ t' k, 0 < k → Q (.str r t') { s with toks := k }) : wpAny (model prog w) A (call (.builtin "str.replace") [.str x t, .str y u, .str z v]) Q E s :=
  wpAny_with_toks (n := 1) h0 (SC.replace (Nat.ne_of_gt hu) (Nat.ne_of_gt (Nat.lt_trans hu huv)) (Nat.ne_of_lt huv) hf.2.1 (Nat.le_of_ble_eq_true hf.2.2) fun t' k hk => hf.1 ▸ hq t' k hk)
theorem truthy_dK {prog : Program} {w : World} {A : Around} {E : Value → Shared → Prop} {s : Shared} {g : Heap} {L d : Addr} {o : Obj} {news : List (Addr × Obj)} {kvs : List (Str × Value)} {Q : Bool → Shared → Prop}
    (N : News g L s.heap news) (hm : (d, o) ∈ news) (hd : o.IsDictOf (PySem.strKind prog w) kvs) (lo : (d == sysModules) = false) (hf : Nat.ble kvs.length 1000 = true)
    (h : Q (!kvs.isEmpty) { s with toks := s.toks + 1 + 1 }) : wpAny (model prog w) A (truthy (.ref d)) Q E s :=
  wpAny_truthy_dict lo (Heap.dictOf_iff.mpr ⟨_, (N _ hm).1, hd⟩) (by have := Nat.le_of_ble_eq_true hf; omega) h
theorem in_lit {prog : Program} {w : World} {A : Around} {E : Value → Shared → Prop} {s : Shared} {x y : Str} {t u : Tok} {b : Bool} {Q : Value → Shared → Prop} (hf : (!(Builtin.Str.occurrences x y 0 x.length 1).isEmpty) = b) (h : Q (.bool b) s) :
    wpAny (model prog w) A (compareOp .In (.str y u) (.str x t)) Q E s := PyProof.Rows.in_str (hf ▸ h)

noncomputable def Rep (x y z r : Str) : Prop := Txt.replace x y z = r ∧ (y == z) = false ∧ Nat.ble (x.length + (x.length + 1) * z.length) 16777216 = true
noncomputable def six : List Str := [Str.ofString "a", Str.ofString "<&>", Str.ofString "it's \"", Str.ofString "x\ty\n\r", Str.ofString "\"", Str.ofString "&quot;"]
theorem pct_dq {prog : Program} {w : World} {A : Around} {E : Value → Shared → Prop} {s : Shared} {x : Str} {t u : Tok} {Q : Value → Shared → Prop} (hl : x.length ≤ 1000000)
    (h : ∀ t' k, Q (.str (Str.ofString "\"" ++ x ++ Str.ofString "\"") t') { s with toks := k }) : wpAny (model prog w) A (binaryOp .Mod (.str (Str.ofString "\"%s\"") t) (.str x u)) Q E s := by
  refine' KPc.mod_str ?kpcF hl ?kpcm ?_
  case kpcF => kpc_eq
  case kpcm => k_dflt kpc_run_s
  exact h
theorem pct_sq {prog : Program} {w : World} {A : Around} {E : Value → Shared → Prop} {s : Shared} {x : Str} {t u : Tok} {Q : Value → Shared → Prop} (hl : x.length ≤ 1000000)
    (h : ∀ t' k, Q (.str (Str.ofString "'" ++ x ++ Str.ofString "'") t') { s with toks := k }) : wpAny (model prog w) A (binaryOp .Mod (.str (Str.ofString "'%s'") t) (.str x u)) Q E s := by
  refine' KPc.mod_str ?kpcF hl ?kpcm ?_
  case kpcF => kpc_eq
  case kpcm => k_dflt kpc_run_s
  exact h
end

section
local macro_rules | `(tactic| walk_at "X gentoks") => `(tactic| (with_reducible refine gen_tk ?hp ?_; (case hp => walk_at "X pos"); intro tk hpos))
local macro_rules | `(tactic| walk_at "X forE") => `(tactic| ((refine Stop.mk ?_); (rename Fr _ _ _ _ => lF'); (rename News _ _ _ _ => lN'); (with_unfolding_all refine' For_turns lF' ?_); k_whole; (with_unfolding_all refine MethodCall_ ?_); (refine ld lF' (by rfl) ?_); (with_unfolding_all refine kdl_method (knd := PySem.strKind _ _) PySem.F.slot_dict_items PySem.F.type_dict_items lN' (by k_mem) (by k_asm) ?_); (with_unfolding_all refine callWith_method0 ?_); (with_unfolding_all refine kta_callItems (knd := PySem.strKind _ _) lF' lN' (by k_mem) (by k_asm) (by k_asm) ?_); intro h' hv' F' N'; (with_unfolding_all refine for_items_E (by with_reducible assumption) (by dsimp only [List.map]) (by rfl) F' N' hv' (by k_mem) ?_); clear lF' lN'; intro i' l1; (try k_lt l1)))
local macro_rules | `(tactic| walk_at "execs cons") => `(tactic| (k_here; walk_at "X gentoks"))
local macro_rules | `(tactic| walk_at "execs nil") => `(tactic| (k_here; walk_at "X gentoks"))
local macro_rules | `(tactic| walk_at "call builtin:str.replace") => `(tactic| (walk_at "Y 13"; intro _ _ _))
local macro_rules | `(tactic| walk_at "truthy ref") => `(tactic| walk_at "Y 14")
local macro_rules | `(tactic| walk_at "exec For Tuple Call cons nil") => `(tactic| refine stop_here ?_)
local macro_rules | `(tactic| walk_at "compareOp In str str") => `(tactic| (k_here; refine in_lit (by with_reducible assumption) ?_))
section
local macro_rules | `(tactic| walk_at "binaryOp Mod str str") => `(tactic| (walk_at "Y pct"; intro _ _))
noncomputable def qres (b0 b1 : Bool) (x6 x7 : Str) : Str := if b0 = true then (if b1 = true then Str.ofString "\"" ++ x7 ++ Str.ofString "\"" else Str.ofString "'" ++ x6 ++ Str.ofString "'") else Str.ofString "\"" ++ x6 ++ Str.ofString "\""
set_option maxHeartbeats 8000000 in
theorem quo_gen {w : World} {A : Around} {b : Heap} {s : Shared} {n : Nat} {t : Tok} {x0 x1 x2 x3 x4 x5 x6 x7 : Str} {c0 c1 : Bool} (C : Cx w (n + 20) A b) (kb : b.StaysIn s.heap)
   (e0 : Rep x0 (Str.ofString "&") (Str.ofString "&amp;") x1)
   (e1 : Rep x1 (Str.ofString ">") (Str.ofString "&gt;") x2)
   (e2 : Rep x2 (Str.ofString "<") (Str.ofString "&lt;") x3)
   (e3 : Rep x3 (Str.ofString "\n") (Str.ofString "&#10;") x4)
   (e4 : Rep x4 (Str.ofString "\r") (Str.ofString "&#13;") x5)
   (e5 : Rep x5 (Str.ofString "\t") (Str.ofString "&#9;") x6)
   (e6 : Rep x6 (Str.ofString "\"") (Str.ofString "&quot;") x7)
   (f0 : (!(Builtin.Str.occurrences x6 (Str.ofString "\"") 0 x6.length 1).isEmpty) = c0)
   (f1 : (!(Builtin.Str.occurrences x6 (Str.ofString "'") 0 x6.length 1).isEmpty) = c1)
   (l6 : x6.length ≤ 1000000) (l7 : x7.length ≤ 1000000)
   :
   codeAny (model PP w) A (.call (.ref 55) ⟨[.str x0 t], []⟩) (Ret s [] fun v h' => ∃ t', v = .str (qres c0 c1 x6 x7) t') s := by
  have hn : ∀ p ∈ ([] : List (Addr × Obj)), s.heap.get? p.1 = some p.2 ∧ b.get? p.1 = none := fun _ h => nomatch h
  unfold Rep at e0
  unfold Rep at e1
  unfold Rep at e2
  unfold Rep at e3
  unfold Rep at e4
  unfold Rep at e5
  unfold Rep at e6
  have X0 := C.kin.keeps kb
  walk_at "M enter"
  intro g h₁ base outer d u loose mean mg mb F N B X T bg hd hu hg gs ll kh
  dsimp only
  k_fold
  k_steps
  refine dict_star_E (a := 47) F N (Top.nolimit T) (X _ _ (by k_is)) (Ent.nil w) (by decide) (fun s' Q' hns h => wpAny_Name (wpAny_loadName_local rfl rfl hns rfl h) (by decide)) rfl rfl (List.cons_ne_nil _ _) (by decide) ?_
  intro D S h' oD oS F' N' l1 l2 lo
  k_steps
  refine ⟨[(Str.ofString "\n", _, .str (Str.ofString "&#10;") _), (Str.ofString "\r", _, .str (Str.ofString "&#13;") _), (Str.ofString "\t", _, .str (Str.ofString "&#9;") _)], rfl, of_decide_eq_true (by first | rfl | kernel_rfl!), Nat.le_of_ble_eq_true rfl, rfl, fun h2 oS2 oD2 F2 N2 hd2 => ?_⟩
  refine cps_EEEEEEAAAAAA ((⟨_, _, _, _, _, _, hd2, by walk_at "X pos", by walk_at "X pos", by walk_at "X pos", by walk_at "X pos", by walk_at "X pos", by walk_at "X pos"⟩) : ∃ a1 b1 a2 b2 a3 b3 : Tok, Ent w oD2 [(Str.ofString "\n", a1, .str (Str.ofString "&#10;") b1), (Str.ofString "\r", a2, .str (Str.ofString "&#13;") b2), (Str.ofString "\t", a3, .str (Str.ofString "&#9;") b3)] ∧ @LT.lt Nat _ 0 a1 ∧ @LT.lt Nat _ 0 a2 ∧ @LT.lt Nat _ 0 a3 ∧ @LT.lt Nat _ a1 b1 ∧ @LT.lt Nat _ a2 b2 ∧ @LT.lt Nat _ a3 b3) ?_
  intro a1 b1 a2 b2 a3 b3 hd2 p1 p2 p3 q1 q2 q3
  have hd3 := hd2.isDict
  dsimp only [plain, List.map] at hd3
  clear F N F' N'
  k_steps
  k_steps
  walk_at "X forE"
  k_steps
  k_steps
  all_goals dsimp only
  k_steps
  all_goals rename Fr g _ _ _ => Ff
  all_goals refine ⟨_, _, _, rfl, rfl, fun b o e q => Ff.keep b o (hg b o e fun h => nomatch h), ?_⟩
  all_goals first
    | (obtain rfl : c0 = true := by assumption
       obtain rfl : c1 = true := by assumption
       exact ⟨_, rfl⟩)
    | (obtain rfl : c0 = true := by assumption
       obtain rfl : c1 = false := by first | assumption | exact Bool.eq_false_iff.mpr (by assumption)
       exact ⟨_, rfl⟩)
    | (obtain rfl : c0 = false := by first | assumption | exact Bool.eq_false_iff.mpr (by assumption)
       exact ⟨_, rfl⟩)
end
section
@[reducible] noncomputable def refs4 (a1 b1 a2 b2 a3 b3 a4 b4 : Tok) : List (Str × Tok × Value) := [((Str.ofString "&quot;"), a1, .str (Str.ofString "\"") b1), ((Str.ofString "&#10;"), a2, .str (Str.ofString "\n") b2), ((Str.ofString "&#13;"), a3, .str (Str.ofString "\r") b3), ((Str.ofString "&#9;"), a4, .str (Str.ofString "\t") b4)]
set_option maxHeartbeats 8000000 in
theorem une_gen {w : World} {A : Around} {b : Heap} {s : Shared} {n : Nat} {t : Tok} {D : Addr} {oD : Obj} {x0 x1 x2 x3 x4 x5 x6 x7 : Str} {a1 b1 a2 b2 a3 b3 a4 b4 : Tok} (C : Cx w (n + 20) A b) (kb : b.StaysIn s.heap)
   (hD : s.heap.get? D = some oD ∧ b.get? D = none) (hE : Ent w oD (refs4 a1 b1 a2 b2 a3 b3 a4 b4)) (lo : (D == sysModules) = false)
   (p1 : @LT.lt Nat _ 0 a1) (q1 : @LT.lt Nat _ a1 b1)
   (p2 : @LT.lt Nat _ 0 a2) (q2 : @LT.lt Nat _ a2 b2)
   (p3 : @LT.lt Nat _ 0 a3) (q3 : @LT.lt Nat _ a3 b3)
   (p4 : @LT.lt Nat _ 0 a4) (q4 : @LT.lt Nat _ a4 b4)
   (e0 : Rep x0 (Str.ofString "&lt;") (Str.ofString "<") x1)
   (e1 : Rep x1 (Str.ofString "&gt;") (Str.ofString ">") x2)
   (e2 : Rep x2 (Str.ofString "&quot;") (Str.ofString "\"") x3)
   (e3 : Rep x3 (Str.ofString "&#10;") (Str.ofString "\n") x4)
   (e4 : Rep x4 (Str.ofString "&#13;") (Str.ofString "\r") x5)
   (e5 : Rep x5 (Str.ofString "&#9;") (Str.ofString "\t") x6)
   (e6 : Rep x6 (Str.ofString "&amp;") (Str.ofString "&") x7)
   :
   codeAny (model PP w) A (.call (.ref 46) ⟨[.str x0 t, .ref D], []⟩) (Ret s [] fun v h' => ∃ t', v = .str x7 t') s := by
  have hn : ∀ p ∈ [(D, oD)], s.heap.get? p.1 = some p.2 ∧ b.get? p.1 = none := List.forall_mem_cons.mpr ⟨hD, fun _ h => (nomatch h)⟩
  unfold Rep at e0
  unfold Rep at e1
  unfold Rep at e2
  unfold Rep at e3
  unfold Rep at e4
  unfold Rep at e5
  unfold Rep at e6
  have hd3 := hE.isDict
  dsimp only [plain, List.map, refs4] at hd3
  unfold refs4 at hE
  have X0 := C.kin.keeps kb
  walk_at "M enter"
  intro g h₁ base outer d u loose mean mg mb F N B X T bg hd hu hg gs ll kh
  dsimp only
  k_fold
  k_steps
  k_steps
  walk_at "X forE"
  k_steps
  k_steps
  rename Fr g _ _ _ => Ff
  rename News g _ _ _ => Nf
  exact ⟨_, _, _, rfl, rfl, kept_of Ff hg (foot := []) (by
    simp only [List.map_cons, List.map_nil, List.forall_mem_cons]
    exact ⟨fun _ o e => Option.some.inj (hD.1.symm.trans e) ▸ (Nf _ (by k_mem)).1, fun _ h => (nomatch h)⟩), _, rfl⟩
end
end

section
theorem quo_at0 {w : World} {A : Around} {b : Heap} {s : Shared} {n : Nat} {t : Tok} (C : Cx w (n + 20) A b) (kb : b.StaysIn s.heap) :
    codeAny (model PP w) A (.call (.ref 55) ⟨[.str (Str.ofString "a") t], []⟩) (Ret s [] fun v h' => ∃ t', v = .str (Str.ofString "\"a\"") t') s := by
  have h := quo_gen (t := t) C kb (show Rep (Str.ofString "a") (Str.ofString "&") (Str.ofString "&amp;") (Str.ofString "a") from ⟨by kernel_rfl, by kernel_rfl, by kernel_rfl⟩) (show Rep (Str.ofString "a") (Str.ofString ">") (Str.ofString "&gt;") (Str.ofString "a") from ⟨by kernel_rfl, by kernel_rfl, by kernel_rfl⟩) (show Rep (Str.ofString "a") (Str.ofString "<") (Str.ofString "&lt;") (Str.ofString "a") from ⟨by kernel_rfl, by kernel_rfl, by kernel_rfl⟩) (show Rep (Str.ofString "a") (Str.ofString "\n") (Str.ofString "&#10;") (Str.ofString "a") from ⟨by kernel_rfl, by kernel_rfl, by kernel_rfl⟩) (show Rep (Str.ofString "a") (Str.ofString "\r") (Str.ofString "&#13;") (Str.ofString "a") from ⟨by kernel_rfl, by kernel_rfl, by kernel_rfl⟩) (show Rep (Str.ofString "a") (Str.ofString "\t") (Str.ofString "&#9;") (Str.ofString "a") from ⟨by kernel_rfl, by kernel_rfl, by kernel_rfl⟩) (show Rep (Str.ofString "a") (Str.ofString "\"") (Str.ofString "&quot;") (Str.ofString "a") from ⟨by kernel_rfl, by kernel_rfl, by kernel_rfl⟩) (show (!(Builtin.Str.occurrences (Str.ofString "a") (Str.ofString "\"") 0 (Str.ofString "a").length 1).isEmpty) = false from by kernel_rfl) (show (!(Builtin.Str.occurrences (Str.ofString "a") (Str.ofString "'") 0 (Str.ofString "a").length 1).isEmpty) = false from by kernel_rfl) (show (Str.ofString "a").length ≤ 1000000 from Nat.le_of_ble_eq_true (by kernel_rfl)) (show (Str.ofString "a").length ≤ 1000000 from Nat.le_of_ble_eq_true (by kernel_rfl))
  rw [show qres false false (Str.ofString "a") (Str.ofString "a") = (Str.ofString "\"a\"") from by kernel_rfl] at h
  exact h
theorem quo_at1 {w : World} {A : Around} {b : Heap} {s : Shared} {n : Nat} {t : Tok} (C : Cx w (n + 20) A b) (kb : b.StaysIn s.heap) :
    codeAny (model PP w) A (.call (.ref 55) ⟨[.str (Str.ofString "<&>") t], []⟩) (Ret s [] fun v h' => ∃ t', v = .str (Str.ofString "\"&lt;&amp;&gt;\"") t') s := by
  have h := quo_gen (t := t) C kb (show Rep (Str.ofString "<&>") (Str.ofString "&") (Str.ofString "&amp;") (Str.ofString "<&amp;>") from ⟨by kernel_rfl, by kernel_rfl, by kernel_rfl⟩) (show Rep (Str.ofString "<&amp;>") (Str.ofString ">") (Str.ofString "&gt;") (Str.ofString "<&amp;&gt;") from ⟨by kernel_rfl, by kernel_rfl, by kernel_rfl⟩) (show Rep (Str.ofString "<&amp;&gt;") (Str.ofString "<") (Str.ofString "&lt;") (Str.ofString "&lt;&amp;&gt;") from ⟨by kernel_rfl, by kernel_rfl, by kernel_rfl⟩) (show Rep (Str.ofString "&lt;&amp;&gt;") (Str.ofString "\n") (Str.ofString "&#10;") (Str.ofString "&lt;&amp;&gt;") from ⟨by kernel_rfl, by kernel_rfl, by kernel_rfl⟩) (show Rep (Str.ofString "&lt;&amp;&gt;") (Str.ofString "\r") (Str.ofString "&#13;") (Str.ofString "&lt;&amp;&gt;") from ⟨by kernel_rfl, by kernel_rfl, by kernel_rfl⟩) (show Rep (Str.ofString "&lt;&amp;&gt;") (Str.ofString "\t") (Str.ofString "&#9;") (Str.ofString "&lt;&amp;&gt;") from ⟨by kernel_rfl, by kernel_rfl, by kernel_rfl⟩) (show Rep (Str.ofString "&lt;&amp;&gt;") (Str.ofString "\"") (Str.ofString "&quot;") (Str.ofString "&lt;&amp;&gt;") from ⟨by kernel_rfl, by kernel_rfl, by kernel_rfl⟩) (show (!(Builtin.Str.occurrences (Str.ofString "&lt;&amp;&gt;") (Str.ofString "\"") 0 (Str.ofString "&lt;&amp;&gt;").length 1).isEmpty) = false from by kernel_rfl) (show (!(Builtin.Str.occurrences (Str.ofString "&lt;&amp;&gt;") (Str.ofString "'") 0 (Str.ofString "&lt;&amp;&gt;").length 1).isEmpty) = false from by kernel_rfl) (show (Str.ofString "&lt;&amp;&gt;").length ≤ 1000000 from Nat.le_of_ble_eq_true (by kernel_rfl)) (show (Str.ofString "&lt;&amp;&gt;").length ≤ 1000000 from Nat.le_of_ble_eq_true (by kernel_rfl))
  rw [show qres false false (Str.ofString "&lt;&amp;&gt;") (Str.ofString "&lt;&amp;&gt;") = (Str.ofString "\"&lt;&amp;&gt;\"") from by kernel_rfl] at h
  exact h
theorem quo_at2 {w : World} {A : Around} {b : Heap} {s : Shared} {n : Nat} {t : Tok} (C : Cx w (n + 20) A b) (kb : b.StaysIn s.heap) :
    codeAny (model PP w) A (.call (.ref 55) ⟨[.str (Str.ofString "it's \"") t], []⟩) (Ret s [] fun v h' => ∃ t', v = .str (Str.ofString "\"it's &quot;\"") t') s := by
  have h := quo_gen (t := t) C kb (show Rep (Str.ofString "it's \"") (Str.ofString "&") (Str.ofString "&amp;") (Str.ofString "it's \"") from ⟨by kernel_rfl, by kernel_rfl, by kernel_rfl⟩) (show Rep (Str.ofString "it's \"") (Str.ofString ">") (Str.ofString "&gt;") (Str.ofString "it's \"") from ⟨by kernel_rfl, by kernel_rfl, by kernel_rfl⟩) (show Rep (Str.ofString "it's \"") (Str.ofString "<") (Str.ofString "&lt;") (Str.ofString "it's \"") from ⟨by kernel_rfl, by kernel_rfl, by kernel_rfl⟩) (show Rep (Str.ofString "it's \"") (Str.ofString "\n") (Str.ofString "&#10;") (Str.ofString "it's \"") from ⟨by kernel_rfl, by kernel_rfl, by kernel_rfl⟩) (show Rep (Str.ofString "it's \"") (Str.ofString "\r") (Str.ofString "&#13;") (Str.ofString "it's \"") from ⟨by kernel_rfl, by kernel_rfl, by kernel_rfl⟩) (show Rep (Str.ofString "it's \"") (Str.ofString "\t") (Str.ofString "&#9;") (Str.ofString "it's \"") from ⟨by kernel_rfl, by kernel_rfl, by kernel_rfl⟩) (show Rep (Str.ofString "it's \"") (Str.ofString "\"") (Str.ofString "&quot;") (Str.ofString "it's &quot;") from ⟨by kernel_rfl, by kernel_rfl, by kernel_rfl⟩) (show (!(Builtin.Str.occurrences (Str.ofString "it's \"") (Str.ofString "\"") 0 (Str.ofString "it's \"").length 1).isEmpty) = true from by kernel_rfl) (show (!(Builtin.Str.occurrences (Str.ofString "it's \"") (Str.ofString "'") 0 (Str.ofString "it's \"").length 1).isEmpty) = true from by kernel_rfl) (show (Str.ofString "it's \"").length ≤ 1000000 from Nat.le_of_ble_eq_true (by kernel_rfl)) (show (Str.ofString "it's &quot;").length ≤ 1000000 from Nat.le_of_ble_eq_true (by kernel_rfl))
  rw [show qres true true (Str.ofString "it's \"") (Str.ofString "it's &quot;") = (Str.ofString "\"it's &quot;\"") from by kernel_rfl] at h
  exact h
theorem quo_at3 {w : World} {A : Around} {b : Heap} {s : Shared} {n : Nat} {t : Tok} (C : Cx w (n + 20) A b) (kb : b.StaysIn s.heap) :
    codeAny (model PP w) A (.call (.ref 55) ⟨[.str (Str.ofString "x\ty\n\r") t], []⟩) (Ret s [] fun v h' => ∃ t', v = .str (Str.ofString "\"x&#9;y&#10;&#13;\"") t') s := by
  have h := quo_gen (t := t) C kb (show Rep (Str.ofString "x\ty\n\r") (Str.ofString "&") (Str.ofString "&amp;") (Str.ofString "x\ty\n\r") from ⟨by kernel_rfl, by kernel_rfl, by kernel_rfl⟩) (show Rep (Str.ofString "x\ty\n\r") (Str.ofString ">") (Str.ofString "&gt;") (Str.ofString "x\ty\n\r") from ⟨by kernel_rfl, by kernel_rfl, by kernel_rfl⟩) (show Rep (Str.ofString "x\ty\n\r") (Str.ofString "<") (Str.ofString "&lt;") (Str.ofString "x\ty\n\r") from ⟨by kernel_rfl, by kernel_rfl, by kernel_rfl⟩) (show Rep (Str.ofString "x\ty\n\r") (Str.ofString "\n") (Str.ofString "&#10;") (Str.ofString "x\ty&#10;\r") from ⟨by kernel_rfl, by kernel_rfl, by kernel_rfl⟩) (show Rep (Str.ofString "x\ty&#10;\r") (Str.ofString "\r") (Str.ofString "&#13;") (Str.ofString "x\ty&#10;&#13;") from ⟨by kernel_rfl, by kernel_rfl, by kernel_rfl⟩) (show Rep (Str.ofString "x\ty&#10;&#13;") (Str.ofString "\t") (Str.ofString "&#9;") (Str.ofString "x&#9;y&#10;&#13;") from ⟨by kernel_rfl, by kernel_rfl, by kernel_rfl⟩) (show Rep (Str.ofString "x&#9;y&#10;&#13;") (Str.ofString "\"") (Str.ofString "&quot;") (Str.ofString "x&#9;y&#10;&#13;") from ⟨by kernel_rfl, by kernel_rfl, by kernel_rfl⟩) (show (!(Builtin.Str.occurrences (Str.ofString "x&#9;y&#10;&#13;") (Str.ofString "\"") 0 (Str.ofString "x&#9;y&#10;&#13;").length 1).isEmpty) = false from by kernel_rfl) (show (!(Builtin.Str.occurrences (Str.ofString "x&#9;y&#10;&#13;") (Str.ofString "'") 0 (Str.ofString "x&#9;y&#10;&#13;").length 1).isEmpty) = false from by kernel_rfl) (show (Str.ofString "x&#9;y&#10;&#13;").length ≤ 1000000 from Nat.le_of_ble_eq_true (by kernel_rfl)) (show (Str.ofString "x&#9;y&#10;&#13;").length ≤ 1000000 from Nat.le_of_ble_eq_true (by kernel_rfl))
  rw [show qres false false (Str.ofString "x&#9;y&#10;&#13;") (Str.ofString "x&#9;y&#10;&#13;") = (Str.ofString "\"x&#9;y&#10;&#13;\"") from by kernel_rfl] at h
  exact h
theorem quo_at4 {w : World} {A : Around} {b : Heap} {s : Shared} {n : Nat} {t : Tok} (C : Cx w (n + 20) A b) (kb : b.StaysIn s.heap) :
    codeAny (model PP w) A (.call (.ref 55) ⟨[.str (Str.ofString "\"") t], []⟩) (Ret s [] fun v h' => ∃ t', v = .str (Str.ofString "'\"'") t') s := by
  have h := quo_gen (t := t) C kb (show Rep (Str.ofString "\"") (Str.ofString "&") (Str.ofString "&amp;") (Str.ofString "\"") from ⟨by kernel_rfl, by kernel_rfl, by kernel_rfl⟩) (show Rep (Str.ofString "\"") (Str.ofString ">") (Str.ofString "&gt;") (Str.ofString "\"") from ⟨by kernel_rfl, by kernel_rfl, by kernel_rfl⟩) (show Rep (Str.ofString "\"") (Str.ofString "<") (Str.ofString "&lt;") (Str.ofString "\"") from ⟨by kernel_rfl, by kernel_rfl, by kernel_rfl⟩) (show Rep (Str.ofString "\"") (Str.ofString "\n") (Str.ofString "&#10;") (Str.ofString "\"") from ⟨by kernel_rfl, by kernel_rfl, by kernel_rfl⟩) (show Rep (Str.ofString "\"") (Str.ofString "\r") (Str.ofString "&#13;") (Str.ofString "\"") from ⟨by kernel_rfl, by kernel_rfl, by kernel_rfl⟩) (show Rep (Str.ofString "\"") (Str.ofString "\t") (Str.ofString "&#9;") (Str.ofString "\"") from ⟨by kernel_rfl, by kernel_rfl, by kernel_rfl⟩) (show Rep (Str.ofString "\"") (Str.ofString "\"") (Str.ofString "&quot;") (Str.ofString "&quot;") from ⟨by kernel_rfl, by kernel_rfl, by kernel_rfl⟩) (show (!(Builtin.Str.occurrences (Str.ofString "\"") (Str.ofString "\"") 0 (Str.ofString "\"").length 1).isEmpty) = true from by kernel_rfl) (show (!(Builtin.Str.occurrences (Str.ofString "\"") (Str.ofString "'") 0 (Str.ofString "\"").length 1).isEmpty) = false from by kernel_rfl) (show (Str.ofString "\"").length ≤ 1000000 from Nat.le_of_ble_eq_true (by kernel_rfl)) (show (Str.ofString "&quot;").length ≤ 1000000 from Nat.le_of_ble_eq_true (by kernel_rfl))
  rw [show qres true false (Str.ofString "\"") (Str.ofString "&quot;") = (Str.ofString "'\"'") from by kernel_rfl] at h
  exact h
theorem quo_at5 {w : World} {A : Around} {b : Heap} {s : Shared} {n : Nat} {t : Tok} (C : Cx w (n + 20) A b) (kb : b.StaysIn s.heap) :
    codeAny (model PP w) A (.call (.ref 55) ⟨[.str (Str.ofString "&quot;") t], []⟩) (Ret s [] fun v h' => ∃ t', v = .str (Str.ofString "\"&amp;quot;\"") t') s := by
  have h := quo_gen (t := t) C kb (show Rep (Str.ofString "&quot;") (Str.ofString "&") (Str.ofString "&amp;") (Str.ofString "&amp;quot;") from ⟨by kernel_rfl, by kernel_rfl, by kernel_rfl⟩) (show Rep (Str.ofString "&amp;quot;") (Str.ofString ">") (Str.ofString "&gt;") (Str.ofString "&amp;quot;") from ⟨by kernel_rfl, by kernel_rfl, by kernel_rfl⟩) (show Rep (Str.ofString "&amp;quot;") (Str.ofString "<") (Str.ofString "&lt;") (Str.ofString "&amp;quot;") from ⟨by kernel_rfl, by kernel_rfl, by kernel_rfl⟩) (show Rep (Str.ofString "&amp;quot;") (Str.ofString "\n") (Str.ofString "&#10;") (Str.ofString "&amp;quot;") from ⟨by kernel_rfl, by kernel_rfl, by kernel_rfl⟩) (show Rep (Str.ofString "&amp;quot;") (Str.ofString "\r") (Str.ofString "&#13;") (Str.ofString "&amp;quot;") from ⟨by kernel_rfl, by kernel_rfl, by kernel_rfl⟩) (show Rep (Str.ofString "&amp;quot;") (Str.ofString "\t") (Str.ofString "&#9;") (Str.ofString "&amp;quot;") from ⟨by kernel_rfl, by kernel_rfl, by kernel_rfl⟩) (show Rep (Str.ofString "&amp;quot;") (Str.ofString "\"") (Str.ofString "&quot;") (Str.ofString "&amp;quot;") from ⟨by kernel_rfl, by kernel_rfl, by kernel_rfl⟩) (show (!(Builtin.Str.occurrences (Str.ofString "&amp;quot;") (Str.ofString "\"") 0 (Str.ofString "&amp;quot;").length 1).isEmpty) = false from by kernel_rfl) (show (!(Builtin.Str.occurrences (Str.ofString "&amp;quot;") (Str.ofString "'") 0 (Str.ofString "&amp;quot;").length 1).isEmpty) = false from by kernel_rfl) (show (Str.ofString "&amp;quot;").length ≤ 1000000 from Nat.le_of_ble_eq_true (by kernel_rfl)) (show (Str.ofString "&amp;quot;").length ≤ 1000000 from Nat.le_of_ble_eq_true (by kernel_rfl))
  rw [show qres false false (Str.ofString "&amp;quot;") (Str.ofString "&amp;quot;") = (Str.ofString "\"&amp;quot;\"") from by kernel_rfl] at h
  exact h
theorem une_at0 {w : World} {A : Around} {b : Heap} {s : Shared} {n : Nat} {t : Tok} {D : Addr} {oD : Obj} {a1 b1 a2 b2 a3 b3 a4 b4 : Tok} (C : Cx w (n + 20) A b) (kb : b.StaysIn s.heap) (hD : s.heap.get? D = some oD ∧ b.get? D = none) (hE : Ent w oD (refs4 a1 b1 a2 b2 a3 b3 a4 b4)) (lo : (D == sysModules) = false)
   (p1 : @LT.lt Nat _ 0 a1) (q1 : @LT.lt Nat _ a1 b1) (p2 : @LT.lt Nat _ 0 a2) (q2 : @LT.lt Nat _ a2 b2) (p3 : @LT.lt Nat _ 0 a3) (q3 : @LT.lt Nat _ a3 b3) (p4 : @LT.lt Nat _ 0 a4) (q4 : @LT.lt Nat _ a4 b4) :
    codeAny (model PP w) A (.call (.ref 46) ⟨[.str (Str.ofString "a") t, .ref D], []⟩) (Ret s [] fun v h' => ∃ t', v = .str (Str.ofString "a") t') s :=
  une_gen C kb hD hE lo p1 q1 p2 q2 p3 q3 p4 q4 (show Rep (Str.ofString "a") (Str.ofString "&lt;") (Str.ofString "<") (Str.ofString "a") from ⟨by kernel_rfl, by kernel_rfl, by kernel_rfl⟩) (show Rep (Str.ofString "a") (Str.ofString "&gt;") (Str.ofString ">") (Str.ofString "a") from ⟨by kernel_rfl, by kernel_rfl, by kernel_rfl⟩) (show Rep (Str.ofString "a") (Str.ofString "&quot;") (Str.ofString "\"") (Str.ofString "a") from ⟨by kernel_rfl, by kernel_rfl, by kernel_rfl⟩) (show Rep (Str.ofString "a") (Str.ofString "&#10;") (Str.ofString "\n") (Str.ofString "a") from ⟨by kernel_rfl, by kernel_rfl, by kernel_rfl⟩) (show Rep (Str.ofString "a") (Str.ofString "&#13;") (Str.ofString "\r") (Str.ofString "a") from ⟨by kernel_rfl, by kernel_rfl, by kernel_rfl⟩) (show Rep (Str.ofString "a") (Str.ofString "&#9;") (Str.ofString "\t") (Str.ofString "a") from ⟨by kernel_rfl, by kernel_rfl, by kernel_rfl⟩) (show Rep (Str.ofString "a") (Str.ofString "&amp;") (Str.ofString "&") (Str.ofString "a") from ⟨by kernel_rfl, by kernel_rfl, by kernel_rfl⟩)
theorem une_at1 {w : World} {A : Around} {b : Heap} {s : Shared} {n : Nat} {t : Tok} {D : Addr} {oD : Obj} {a1 b1 a2 b2 a3 b3 a4 b4 : Tok} (C : Cx w (n + 20) A b) (kb : b.StaysIn s.heap) (hD : s.heap.get? D = some oD ∧ b.get? D = none) (hE : Ent w oD (refs4 a1 b1 a2 b2 a3 b3 a4 b4)) (lo : (D == sysModules) = false)
   (p1 : @LT.lt Nat _ 0 a1) (q1 : @LT.lt Nat _ a1 b1) (p2 : @LT.lt Nat _ 0 a2) (q2 : @LT.lt Nat _ a2 b2) (p3 : @LT.lt Nat _ 0 a3) (q3 : @LT.lt Nat _ a3 b3) (p4 : @LT.lt Nat _ 0 a4) (q4 : @LT.lt Nat _ a4 b4) :
    codeAny (model PP w) A (.call (.ref 46) ⟨[.str (Str.ofString "&lt;&amp;&gt;") t, .ref D], []⟩) (Ret s [] fun v h' => ∃ t', v = .str (Str.ofString "<&>") t') s :=
  une_gen C kb hD hE lo p1 q1 p2 q2 p3 q3 p4 q4 (show Rep (Str.ofString "&lt;&amp;&gt;") (Str.ofString "&lt;") (Str.ofString "<") (Str.ofString "<&amp;&gt;") from ⟨by kernel_rfl, by kernel_rfl, by kernel_rfl⟩) (show Rep (Str.ofString "<&amp;&gt;") (Str.ofString "&gt;") (Str.ofString ">") (Str.ofString "<&amp;>") from ⟨by kernel_rfl, by kernel_rfl, by kernel_rfl⟩) (show Rep (Str.ofString "<&amp;>") (Str.ofString "&quot;") (Str.ofString "\"") (Str.ofString "<&amp;>") from ⟨by kernel_rfl, by kernel_rfl, by kernel_rfl⟩) (show Rep (Str.ofString "<&amp;>") (Str.ofString "&#10;") (Str.ofString "\n") (Str.ofString "<&amp;>") from ⟨by kernel_rfl, by kernel_rfl, by kernel_rfl⟩) (show Rep (Str.ofString "<&amp;>") (Str.ofString "&#13;") (Str.ofString "\r") (Str.ofString "<&amp;>") from ⟨by kernel_rfl, by kernel_rfl, by kernel_rfl⟩) (show Rep (Str.ofString "<&amp;>") (Str.ofString "&#9;") (Str.ofString "\t") (Str.ofString "<&amp;>") from ⟨by kernel_rfl, by kernel_rfl, by kernel_rfl⟩) (show Rep (Str.ofString "<&amp;>") (Str.ofString "&amp;") (Str.ofString "&") (Str.ofString "<&>") from ⟨by kernel_rfl, by kernel_rfl, by kernel_rfl⟩)
theorem une_at2 {w : World} {A : Around} {b : Heap} {s : Shared} {n : Nat} {t : Tok} {D : Addr} {oD : Obj} {a1 b1 a2 b2 a3 b3 a4 b4 : Tok} (C : Cx w (n + 20) A b) (kb : b.StaysIn s.heap) (hD : s.heap.get? D = some oD ∧ b.get? D = none) (hE : Ent w oD (refs4 a1 b1 a2 b2 a3 b3 a4 b4)) (lo : (D == sysModules) = false)
   (p1 : @LT.lt Nat _ 0 a1) (q1 : @LT.lt Nat _ a1 b1) (p2 : @LT.lt Nat _ 0 a2) (q2 : @LT.lt Nat _ a2 b2) (p3 : @LT.lt Nat _ 0 a3) (q3 : @LT.lt Nat _ a3 b3) (p4 : @LT.lt Nat _ 0 a4) (q4 : @LT.lt Nat _ a4 b4) :
    codeAny (model PP w) A (.call (.ref 46) ⟨[.str (Str.ofString "it's &quot;") t, .ref D], []⟩) (Ret s [] fun v h' => ∃ t', v = .str (Str.ofString "it's \"") t') s :=
  une_gen C kb hD hE lo p1 q1 p2 q2 p3 q3 p4 q4 (show Rep (Str.ofString "it's &quot;") (Str.ofString "&lt;") (Str.ofString "<") (Str.ofString "it's &quot;") from ⟨by kernel_rfl, by kernel_rfl, by kernel_rfl⟩) (show Rep (Str.ofString "it's &quot;") (Str.ofString "&gt;") (Str.ofString ">") (Str.ofString "it's &quot;") from ⟨by kernel_rfl, by kernel_rfl, by kernel_rfl⟩) (show Rep (Str.ofString "it's &quot;") (Str.ofString "&quot;") (Str.ofString "\"") (Str.ofString "it's \"") from ⟨by kernel_rfl, by kernel_rfl, by kernel_rfl⟩) (show Rep (Str.ofString "it's \"") (Str.ofString "&#10;") (Str.ofString "\n") (Str.ofString "it's \"") from ⟨by kernel_rfl, by kernel_rfl, by kernel_rfl⟩) (show Rep (Str.ofString "it's \"") (Str.ofString "&#13;") (Str.ofString "\r") (Str.ofString "it's \"") from ⟨by kernel_rfl, by kernel_rfl, by kernel_rfl⟩) (show Rep (Str.ofString "it's \"") (Str.ofString "&#9;") (Str.ofString "\t") (Str.ofString "it's \"") from ⟨by kernel_rfl, by kernel_rfl, by kernel_rfl⟩) (show Rep (Str.ofString "it's \"") (Str.ofString "&amp;") (Str.ofString "&") (Str.ofString "it's \"") from ⟨by kernel_rfl, by kernel_rfl, by kernel_rfl⟩)
theorem une_at3 {w : World} {A : Around} {b : Heap} {s : Shared} {n : Nat} {t : Tok} {D : Addr} {oD : Obj} {a1 b1 a2 b2 a3 b3 a4 b4 : Tok} (C : Cx w (n + 20) A b) (kb : b.StaysIn s.heap) (hD : s.heap.get? D = some oD ∧ b.get? D = none) (hE : Ent w oD (refs4 a1 b1 a2 b2 a3 b3 a4 b4)) (lo : (D == sysModules) = false)
   (p1 : @LT.lt Nat _ 0 a1) (q1 : @LT.lt Nat _ a1 b1) (p2 : @LT.lt Nat _ 0 a2) (q2 : @LT.lt Nat _ a2 b2) (p3 : @LT.lt Nat _ 0 a3) (q3 : @LT.lt Nat _ a3 b3) (p4 : @LT.lt Nat _ 0 a4) (q4 : @LT.lt Nat _ a4 b4) :
    codeAny (model PP w) A (.call (.ref 46) ⟨[.str (Str.ofString "x&#9;y&#10;&#13;") t, .ref D], []⟩) (Ret s [] fun v h' => ∃ t', v = .str (Str.ofString "x\ty\n\r") t') s :=
  une_gen C kb hD hE lo p1 q1 p2 q2 p3 q3 p4 q4 (show Rep (Str.ofString "x&#9;y&#10;&#13;") (Str.ofString "&lt;") (Str.ofString "<") (Str.ofString "x&#9;y&#10;&#13;") from ⟨by kernel_rfl, by kernel_rfl, by kernel_rfl⟩) (show Rep (Str.ofString "x&#9;y&#10;&#13;") (Str.ofString "&gt;") (Str.ofString ">") (Str.ofString "x&#9;y&#10;&#13;") from ⟨by kernel_rfl, by kernel_rfl, by kernel_rfl⟩) (show Rep (Str.ofString "x&#9;y&#10;&#13;") (Str.ofString "&quot;") (Str.ofString "\"") (Str.ofString "x&#9;y&#10;&#13;") from ⟨by kernel_rfl, by kernel_rfl, by kernel_rfl⟩) (show Rep (Str.ofString "x&#9;y&#10;&#13;") (Str.ofString "&#10;") (Str.ofString "\n") (Str.ofString "x&#9;y\n&#13;") from ⟨by kernel_rfl, by kernel_rfl, by kernel_rfl⟩) (show Rep (Str.ofString "x&#9;y\n&#13;") (Str.ofString "&#13;") (Str.ofString "\r") (Str.ofString "x&#9;y\n\r") from ⟨by kernel_rfl, by kernel_rfl, by kernel_rfl⟩) (show Rep (Str.ofString "x&#9;y\n\r") (Str.ofString "&#9;") (Str.ofString "\t") (Str.ofString "x\ty\n\r") from ⟨by kernel_rfl, by kernel_rfl, by kernel_rfl⟩) (show Rep (Str.ofString "x\ty\n\r") (Str.ofString "&amp;") (Str.ofString "&") (Str.ofString "x\ty\n\r") from ⟨by kernel_rfl, by kernel_rfl, by kernel_rfl⟩)
theorem une_at4 {w : World} {A : Around} {b : Heap} {s : Shared} {n : Nat} {t : Tok} {D : Addr} {oD : Obj} {a1 b1 a2 b2 a3 b3 a4 b4 : Tok} (C : Cx w (n + 20) A b) (kb : b.StaysIn s.heap) (hD : s.heap.get? D = some oD ∧ b.get? D = none) (hE : Ent w oD (refs4 a1 b1 a2 b2 a3 b3 a4 b4)) (lo : (D == sysModules) = false)
   (p1 : @LT.lt Nat _ 0 a1) (q1 : @LT.lt Nat _ a1 b1) (p2 : @LT.lt Nat _ 0 a2) (q2 : @LT.lt Nat _ a2 b2) (p3 : @LT.lt Nat _ 0 a3) (q3 : @LT.lt Nat _ a3 b3) (p4 : @LT.lt Nat _ 0 a4) (q4 : @LT.lt Nat _ a4 b4) :
    codeAny (model PP w) A (.call (.ref 46) ⟨[.str (Str.ofString "\"") t, .ref D], []⟩) (Ret s [] fun v h' => ∃ t', v = .str (Str.ofString "\"") t') s :=
  une_gen C kb hD hE lo p1 q1 p2 q2 p3 q3 p4 q4 (show Rep (Str.ofString "\"") (Str.ofString "&lt;") (Str.ofString "<") (Str.ofString "\"") from ⟨by kernel_rfl, by kernel_rfl, by kernel_rfl⟩) (show Rep (Str.ofString "\"") (Str.ofString "&gt;") (Str.ofString ">") (Str.ofString "\"") from ⟨by kernel_rfl, by kernel_rfl, by kernel_rfl⟩) (show Rep (Str.ofString "\"") (Str.ofString "&quot;") (Str.ofString "\"") (Str.ofString "\"") from ⟨by kernel_rfl, by kernel_rfl, by kernel_rfl⟩) (show Rep (Str.ofString "\"") (Str.ofString "&#10;") (Str.ofString "\n") (Str.ofString "\"") from ⟨by kernel_rfl, by kernel_rfl, by kernel_rfl⟩) (show Rep (Str.ofString "\"") (Str.ofString "&#13;") (Str.ofString "\r") (Str.ofString "\"") from ⟨by kernel_rfl, by kernel_rfl, by kernel_rfl⟩) (show Rep (Str.ofString "\"") (Str.ofString "&#9;") (Str.ofString "\t") (Str.ofString "\"") from ⟨by kernel_rfl, by kernel_rfl, by kernel_rfl⟩) (show Rep (Str.ofString "\"") (Str.ofString "&amp;") (Str.ofString "&") (Str.ofString "\"") from ⟨by kernel_rfl, by kernel_rfl, by kernel_rfl⟩)
theorem une_at5 {w : World} {A : Around} {b : Heap} {s : Shared} {n : Nat} {t : Tok} {D : Addr} {oD : Obj} {a1 b1 a2 b2 a3 b3 a4 b4 : Tok} (C : Cx w (n + 20) A b) (kb : b.StaysIn s.heap) (hD : s.heap.get? D = some oD ∧ b.get? D = none) (hE : Ent w oD (refs4 a1 b1 a2 b2 a3 b3 a4 b4)) (lo : (D == sysModules) = false)
   (p1 : @LT.lt Nat _ 0 a1) (q1 : @LT.lt Nat _ a1 b1) (p2 : @LT.lt Nat _ 0 a2) (q2 : @LT.lt Nat _ a2 b2) (p3 : @LT.lt Nat _ 0 a3) (q3 : @LT.lt Nat _ a3 b3) (p4 : @LT.lt Nat _ 0 a4) (q4 : @LT.lt Nat _ a4 b4) :
    codeAny (model PP w) A (.call (.ref 46) ⟨[.str (Str.ofString "&amp;quot;") t, .ref D], []⟩) (Ret s [] fun v h' => ∃ t', v = .str (Str.ofString "&quot;") t') s :=
  une_gen C kb hD hE lo p1 q1 p2 q2 p3 q3 p4 q4 (show Rep (Str.ofString "&amp;quot;") (Str.ofString "&lt;") (Str.ofString "<") (Str.ofString "&amp;quot;") from ⟨by kernel_rfl, by kernel_rfl, by kernel_rfl⟩) (show Rep (Str.ofString "&amp;quot;") (Str.ofString "&gt;") (Str.ofString ">") (Str.ofString "&amp;quot;") from ⟨by kernel_rfl, by kernel_rfl, by kernel_rfl⟩) (show Rep (Str.ofString "&amp;quot;") (Str.ofString "&quot;") (Str.ofString "\"") (Str.ofString "&amp;quot;") from ⟨by kernel_rfl, by kernel_rfl, by kernel_rfl⟩) (show Rep (Str.ofString "&amp;quot;") (Str.ofString "&#10;") (Str.ofString "\n") (Str.ofString "&amp;quot;") from ⟨by kernel_rfl, by kernel_rfl, by kernel_rfl⟩) (show Rep (Str.ofString "&amp;quot;") (Str.ofString "&#13;") (Str.ofString "\r") (Str.ofString "&amp;quot;") from ⟨by kernel_rfl, by kernel_rfl, by kernel_rfl⟩) (show Rep (Str.ofString "&amp;quot;") (Str.ofString "&#9;") (Str.ofString "\t") (Str.ofString "&amp;quot;") from ⟨by kernel_rfl, by kernel_rfl, by kernel_rfl⟩) (show Rep (Str.ofString "&amp;quot;") (Str.ofString "&amp;") (Str.ofString "&") (Str.ofString "&quot;") from ⟨by kernel_rfl, by kernel_rfl, by kernel_rfl⟩)
noncomputable def inner : List (Str × Str) := [((Str.ofString "a"), (Str.ofString "a")), ((Str.ofString "<&>"), (Str.ofString "&lt;&amp;&gt;")), ((Str.ofString "it's \""), (Str.ofString "it's &quot;")), ((Str.ofString "x\ty\n\r"), (Str.ofString "x&#9;y&#10;&#13;")), ((Str.ofString "\""), (Str.ofString "\"")), ((Str.ofString "&quot;"), (Str.ofString "&amp;quot;"))]
noncomputable def inn (q : Str) : Str := (inner.lookup q).getD q
noncomputable def quoted : List (Str × Str) := [((Str.ofString "a"), (Str.ofString "\"a\"")), ((Str.ofString "<&>"), (Str.ofString "\"&lt;&amp;&gt;\"")), ((Str.ofString "it's \""), (Str.ofString "\"it's &quot;\"")), ((Str.ofString "x\ty\n\r"), (Str.ofString "\"x&#9;y&#10;&#13;\"")), ((Str.ofString "\""), (Str.ofString "'\"'")), ((Str.ofString "&quot;"), (Str.ofString "\"&amp;quot;\""))]
noncomputable def quo (q : Str) : Str := (quoted.lookup q).getD q
theorem six_cases {P : Str → Prop} (h0 : P (Str.ofString "a")) (h1 : P (Str.ofString "<&>")) (h2 : P (Str.ofString "it's \"")) (h3 : P (Str.ofString "x\ty\n\r")) (h4 : P (Str.ofString "\"")) (h5 : P (Str.ofString "&quot;")) : ∀ q ∈ six, P q :=
  List.forall_mem_cons.mpr ⟨h0, List.forall_mem_cons.mpr ⟨h1, List.forall_mem_cons.mpr ⟨h2, List.forall_mem_cons.mpr ⟨h3, List.forall_mem_cons.mpr ⟨h4, List.forall_mem_cons.mpr ⟨h5, fun _ h => (nomatch h)⟩⟩⟩⟩⟩⟩
theorem quo_vals : quo (Str.ofString "a") = (Str.ofString "\"a\"") ∧ quo (Str.ofString "<&>") = (Str.ofString "\"&lt;&amp;&gt;\"") ∧ quo (Str.ofString "it's \"") = (Str.ofString "\"it's &quot;\"") ∧ quo (Str.ofString "x\ty\n\r") = (Str.ofString "\"x&#9;y&#10;&#13;\"") ∧ quo (Str.ofString "\"") = (Str.ofString "'\"'") ∧ quo (Str.ofString "&quot;") = (Str.ofString "\"&amp;quot;\"") := by refine ⟨?_, ?_, ?_, ?_, ?_, ?_⟩ <;> kernel_rfl
theorem inn_vals : inn (Str.ofString "a") = (Str.ofString "a") ∧ inn (Str.ofString "<&>") = (Str.ofString "&lt;&amp;&gt;") ∧ inn (Str.ofString "it's \"") = (Str.ofString "it's &quot;") ∧ inn (Str.ofString "x\ty\n\r") = (Str.ofString "x&#9;y&#10;&#13;") ∧ inn (Str.ofString "\"") = (Str.ofString "\"") ∧ inn (Str.ofString "&quot;") = (Str.ofString "&amp;quot;") := by refine ⟨?_, ?_, ?_, ?_, ?_, ?_⟩ <;> kernel_rfl
theorem quo_spec {w : World} {A : Around} {b : Heap} {s : Shared} {n : Nat} {t : Tok} (C : Cx w (n + 20) A b) (kb : b.StaysIn s.heap) :
    ∀ q ∈ six, codeAny (model PP w) A (.call (.ref 55) ⟨[.str q t], []⟩) (Ret s [] fun v h' => ∃ t', v = .str (quo q) t') s := by
  refine cps_AAAAA quo_vals ?_
  intro v0 v1 v2 v3 v4 v5
  exact six_cases (by rw [v0]; exact quo_at0 C kb) (by rw [v1]; exact quo_at1 C kb) (by rw [v2]; exact quo_at2 C kb) (by rw [v3]; exact quo_at3 C kb) (by rw [v4]; exact quo_at4 C kb) (by rw [v5]; exact quo_at5 C kb)
theorem une_spec {w : World} {A : Around} {b : Heap} {s : Shared} {n : Nat} {t : Tok} {D : Addr} {oD : Obj} {a1 b1 a2 b2 a3 b3 a4 b4 : Tok} (C : Cx w (n + 20) A b) (kb : b.StaysIn s.heap) (hD : s.heap.get? D = some oD ∧ b.get? D = none) (hE : Ent w oD (refs4 a1 b1 a2 b2 a3 b3 a4 b4)) (lo : (D == sysModules) = false)
   (p1 : @LT.lt Nat _ 0 a1) (q1 : @LT.lt Nat _ a1 b1) (p2 : @LT.lt Nat _ 0 a2) (q2 : @LT.lt Nat _ a2 b2) (p3 : @LT.lt Nat _ 0 a3) (q3 : @LT.lt Nat _ a3 b3) (p4 : @LT.lt Nat _ 0 a4) (q4 : @LT.lt Nat _ a4 b4) :
    ∀ q ∈ six, codeAny (model PP w) A (.call (.ref 46) ⟨[.str (inn q) t, .ref D], []⟩) (Ret s [] fun v h' => ∃ t', v = .str q t') s := by
  refine cps_AAAAA inn_vals ?_
  intro v0 v1 v2 v3 v4 v5
  exact six_cases (by rw [v0]; exact une_at0 C kb hD hE lo p1 q1 p2 q2 p3 q3 p4 q4) (by rw [v1]; exact une_at1 C kb hD hE lo p1 q1 p2 q2 p3 q3 p4 q4) (by rw [v2]; exact une_at2 C kb hD hE lo p1 q1 p2 q2 p3 q3 p4 q4) (by rw [v3]; exact une_at3 C kb hD hE lo p1 q1 p2 q2 p3 q3 p4 q4) (by rw [v4]; exact une_at4 C kb hD hE lo p1 q1 p2 q2 p3 q3 p4 q4) (by rw [v5]; exact une_at5 C kb hD hE lo p1 q1 p2 q2 p3 q3 p4 q4)
end

section
local macro_rules | `(tactic| walk_at "X gentoks") => `(tactic| (with_reducible refine gen_tk ?hp ?_; (case hp => walk_at "X pos"); intro tk hpos))
local macro_rules | `(tactic| walk_at "execs cons") => `(tactic| (k_here; walk_at "X gentoks"))
local macro_rules | `(tactic| walk_at "execs nil") => `(tactic| (k_here; walk_at "X gentoks"))
noncomputable def NeedsAt (h : Heap) (ln : Addr) (ns : List (Str × Str)) : Prop := ∃ vs : List Value, h.IsList ln vs.toArray ∧ vs.length = ns.length ∧ ∀ (i : Nat) (p : Str × Str), ns[i]? = some p → ∃ (T : Addr) (a b : Tok), vs[i]? = some (.ref T) ∧ IsTup h T #[.str p.1 a, .str p.2 b]
noncomputable def tag (i : Nat) (p : Str × Str) : Str := Str.ofString "<need name=" ++ quo p.1 ++ Str.ofString " of=" ++ quo p.2 ++ Str.ofString "/>" ++ (if i % 2 = 0 then Str.ofString " " else Str.ofString "\n")
noncomputable def textTo (ns : List (Str × Str)) : Nat → Str
  | 0 => Str.ofString ""
  | i + 1 => match ns[i]? with
    | some p => textTo ns i ++ tag i p
    | none => textTo ns i
theorem list_up {g h : Heap} {L a : Addr} {m : Str → Option Value} {v : Array Value} (F : Fr g L h m) (x : g.IsList a v) : h.IsList a v := let ⟨o, ho, r⟩ := x; ⟨o, F.keep _ _ ho, r⟩
local macro_rules | `(tactic| walk_at "call builtin:len") => `(tactic| walk_at "Y 15")
local macro_rules | `(tactic| walk_at "subscriptTail Name Name ref int") => `(tactic| walk_at "Y 16")
noncomputable def txFn : Stmt := stAt PP.main.body 14
noncomputable def txFor : Stmt := stAt (stBody txFn) 1
@[reducible] noncomputable def txEnv (L : Addr) : Env := envOf (Str.ofString "_law_text") (stScope txFn) L 187 (.ref 186)
@[reducible] noncomputable def txm (ln : Addr) (kv : Option Value) (x : Str) (t : Tok) : Str → Option Value := fun y => if y = Str.ofString "text" then some (.str x t) else if y = Str.ofString "k" then kv else if y = Str.ofString "needs" then some (.ref ln) else none
theorem range1_fits : ∀ k : Nat, k ≤ 11 → Builtin.Range.small 0 (k : Int) 1 = true ∧ Builtin.Range.rangeSize 0 (k : Int) 1 = k := by decide
theorem item_tag (i : Nat) : Txt.item (Str.ofString " \n") ((i : Int).fmod 2) = if i % 2 = 0 then Str.ofString " " else Str.ofString "\n" := by
  rcases (by omega : i % 2 = 0 ∨ i % 2 = 1) with h | h
  · rw [if_pos h, show (i : Int).fmod 2 = 0 from by rw [Int.fmod_eq_emod_of_nonneg _ (by omega)]; omega]; kernel_rfl
  · rw [if_neg (by omega), show (i : Int).fmod 2 = 1 from by rw [Int.fmod_eq_emod_of_nonneg _ (by omega)]; omega]; kernel_rfl
theorem text_map {ln : Addr} {kv : Option Value} {x x' : Str} {t t' : Tok} {v : Value} (y : Str) : (if y = Str.ofString "text" then some (Value.str x' t') else if y = Str.ofString "k" then some v else txm ln kv x t y) = txm ln (some v) x' t' y := by
  unfold txm
  by_cases h1 : y = Str.ofString "text"
  · simp only [if_pos h1]
  · by_cases h2 : y = Str.ofString "k"
    · simp only [if_neg h1, if_pos h2]
    · simp only [if_neg h1, if_neg h2]
theorem quo_len : ∀ q ∈ six, (quo q).length ≤ 40 := by
  refine cps_AAAAA quo_vals ?_
  intro v0 v1 v2 v3 v4 v5
  exact six_cases (by rw [v0]; exact Nat.le_of_ble_eq_true (by kernel_rfl)) (by rw [v1]; exact Nat.le_of_ble_eq_true (by kernel_rfl)) (by rw [v2]; exact Nat.le_of_ble_eq_true (by kernel_rfl)) (by rw [v3]; exact Nat.le_of_ble_eq_true (by kernel_rfl)) (by rw [v4]; exact Nat.le_of_ble_eq_true (by kernel_rfl)) (by rw [v5]; exact Nat.le_of_ble_eq_true (by kernel_rfl))
theorem tag_len (i : Nat) (p : Str × Str) (h : (quo p.1).length ≤ 40 ∧ (quo p.2).length ≤ 40) : (tag i p).length ≤ 200 := by
  unfold tag
  have e1 : (Str.ofString "<need name=").length = 11 := by kernel_rfl
  have e2 : (Str.ofString " of=").length = 4 := by kernel_rfl
  have e3 : (Str.ofString "/>").length = 2 := by kernel_rfl
  have e4 : (if i % 2 = 0 then Str.ofString " " else Str.ofString "\n").length = 1 := by split <;> kernel_rfl
  rw [Str.length_append, Str.length_append, Str.length_append, Str.length_append, Str.length_append, e1, e2, e3, e4]
  omega
theorem textTo_len {ns : List (Str × Str)} (h : ∀ p ∈ ns, (quo p.1).length ≤ 40 ∧ (quo p.2).length ≤ 40) : ∀ i, (textTo ns i).length ≤ 200 * i
  | 0 => by show (Str.ofString "").length ≤ _; exact Nat.le_of_ble_eq_true (by kernel_rfl)
  | i + 1 => by
    have ih := textTo_len h i
    unfold textTo
    split
    · rename_i p hp
      rw [Str.length_append]
      have := tag_len i p (h p (List.mem_of_getElem? hp))
      omega
    · omega
set_option maxHeartbeats 8000000 in
theorem text_for {w : World} {g base h : Heap} {L ln : Addr} {d u n tk : Nat} {outer : List Env} {loose : List Str} {mean : ExcName → Option Value} {mg mb : Str → Option Value} {ns : List (Str × Str)} {vs : List Value} {t0 : Tok} {s : Shared} {Q : Flow → Shared → Prop}
   (B : Below (mkA d u outer) base outer g) (X : (hd.heap_39 w.params).In g) (T : Top hd.view_39 loose mean mg mb g) (hd : d + n + 30 ≤ 900) (hu : u + 20 * n + 600 ≤ 9000)
   (hvs : g.IsList ln vs.toArray) (hvl : vs.length = ns.length) (hT : ∀ (i : Nat) (p : Str × Str), ns[i]? = some p → ∃ (T : Addr) (a b : Tok), vs[i]? = some (.ref T) ∧ IsTup g T #[.str p.1 a, .str p.2 b]) (hsix : ∀ p ∈ ns, p.1 ∈ six ∧ p.2 ∈ six) (hnl : ns.length ≤ 11)
   (F₀ : Fr g L h (txm ln none (Str.ofString "") t0)) (N₀ : News g L h [])
   (hq : ∀ h' tk' kv t, Fr g L h' (txm ln kv (textTo ns ns.length) t) → Q .next { s with heap := h', toks := tk' }) :
   wpAny (model PP w) ((mkA d u outer).deeper (txEnv L)) (exec txFor (txEnv L)) Q (fun _ _ => False) { s with heap := h, toks := tk } := by
  have eW : txFor = .For _ _ _ _ _ := rfl
  have eS : stScope txFn = { kind := _, names := _, isGenerator := _, isCoroutine := _, more := _ } := rfl
  rw [txEnv, eS, eW]
  clear eW eS
  refine for_stmt ?_
  k_steps
  rename IsRange _ _ _ _ _ _ _ _ => hrg
  rename Fr g L _ _ => F1
  rename News g L _ _ => N1
  obtain ⟨hs1, hs2⟩ := range1_fits ns.length hnl
  have hvz : vs.toArray.size = ns.length := by rw [List.size_toArray, hvl]
  rw [hvz] at hrg
  refine for_range rfl hrg hs1 hs2 (fun m₀ i m news => news = [] ∧ ∃ kv t, ∀ y, m y = txm ln kv (textTo ns i) t y) F1 N1 ⟨rfl, none, t0, fun _ => rfl⟩ ?_ ?_
  · intro i t I oI h3 tk3 m news hi hXX
    refine cps_AEE hXX ?_
    rintro rfl kv t1 hm
    clear hXX
    intro F N offI fresh
    with_reducible refine hideT ?_
    intro Qi hQi
    have F2 := fr_congr F hm
    clear F hm F1 N1 hrg
    with_reducible refine hide ?_
    intro GG hGG
    obtain ⟨p, hp⟩ : ∃ p, ns[i]? = some p := ⟨_, List.getElem?_eq_getElem hi⟩
    refine cps_EEEA (hT i p hp) ?_
    intro T1 a1 b1 e1 tp
    obtain ⟨six1, six2⟩ := hsix p (List.mem_of_getElem? hp)
    with_reducible refine hGG ?_
    clear hGG GG
    have ek : (0 : Int) + (i : Int) * 1 = (i : Int) := by omega
    rw [ek]
    have v1' : vs[((i : Int)).toNat]? = some (.ref T1) := by rw [Int.toNat_natCast]; exact e1
    have lq1 := quo_len p.1 six1
    have lq2 := quo_len p.2 six2
    have lt0 : (textTo ns i).length ≤ 200 * i := textTo_len (fun p hp => ⟨quo_len _ (hsix p hp).1, quo_len _ (hsix p hp).2⟩) i
    have hk2 : (i : Int) % 2 = 0 ∨ (i : Int) % 2 = 1 := by omega
    k_steps
    refine ⟨?_⟩
    rename Fr g L _ _ => F3
    rename News g L _ _ => N3
    refine use_call (n + 20) B F3 N3 X T ⟨by omega, by omega⟩ (fun b' A' C1 k1 n1 => quo_spec C1 k1 p.1 six1) (fun _ h => nomatch h) ?_ rfl
    rintro v h4 tk4 F4 k4 ⟨t4, rfl⟩
    have N4 : News g L h4 [(I, oI)] := fun q hq => ⟨k4 _ _ (N3 q hq).1 (fun h => nomatch h), (N3 q hq).2⟩
    clear F3 N3
    k_steps
    refine ⟨?_⟩
    rename Fr g L _ _ => F3
    rename News g L _ _ => N3
    refine use_call (n + 20) B F3 N3 X T ⟨by omega, by omega⟩ (fun b' A' C1 k1 n1 => quo_spec C1 k1 p.2 six2) (fun _ h => nomatch h) ?_ rfl
    rintro v h5 tk5 F5 k5 ⟨t5, rfl⟩
    have N5 : News g L h5 [(I, oI)] := fun q hq => ⟨k5 _ _ (N3 q hq).1 (fun h => nomatch h), (N3 q hq).2⟩
    clear F3 N3
    k_steps
    dsimp only
    show Qi _ _
    refine hQi _ _ ?_
    refine ⟨?_⟩
    rename Fr g L _ _ => F6
    rename News g L _ _ => N6
    refine ⟨_, _, _, [], rfl, F6, N6, (fun _ h => nomatch h), rfl, ?_⟩
    have e9 : textTo ns (i + 1) = textTo ns i ++ tag i p := by
      show (match ns[i]? with | some p => textTo ns i ++ tag i p | none => textTo ns i) = _
      rw [hp]
    have e8 : Txt.item (Str.ofString " \n") ((i : Int).fmod 2) = if i % 2 = 0 then Str.ofString " " else Str.ofString "\n" := item_tag i
    rw [e9, tag, ← e8]
    exact ⟨_, _, text_map⟩
  · intro h3 tk3 m news hXX
    refine cps_AEE hXX ?_
    rintro rfl kv t1 hm
    clear hXX
    intro F N
    exact hq _ _ kv t1 (fr_congr F hm)
end

section
theorem lookup_one {y k : Str} {v : Value} : List.lookup y [(k, v)] = if y = k then some v else none := by
  rw [List.lookup_cons]
  by_cases h : y = k
  · simp [h]
  · have : (y == k) = false := beq_eq_false_iff_ne.mpr h
    simp [h, this]
set_option maxHeartbeats 8000000 in
theorem text_spec {w : World} {A : Around} {b : Heap} {s : Shared} {n : Nat} {ln : Addr} {ns : List (Str × Str)}
   (C : Cx w (n + 40) A b) (kb : b.StaysIn s.heap) (hN : NeedsAt s.heap ln ns) (hsix : ∀ p ∈ ns, p.1 ∈ six ∧ p.2 ∈ six) (hnl : ns.length ≤ 11) :
   codeAny (model PP w) A (.call (.ref 187) ⟨[.ref ln], []⟩) (Ret s [] fun v h' => ∃ t, v = .str (textTo ns ns.length) t) s := by
  have hn : ∀ p ∈ ([] : List (Addr × Obj)), s.heap.get? p.1 = some p.2 ∧ b.get? p.1 = none := fun _ h => nomatch h
  have X0 := C.kin.keeps kb
  refine cps_EAA hN ?_
  intro vs hvs hvl hT
  clear hN
  walk_at "M enter"
  intro g h₁ base outer d u loose mean mg mb F N B X T bg hd hu hg gs ll kh
  dsimp only
  k_fold
  have hgk : ∀ x o, s.heap.get? x = some o → g.get? x = some o := fun x o e => hg x o e fun h => nomatch h
  k_steps
  refine ⟨?_⟩
  rename Fr g _ _ _ => F1
  rename News g _ _ _ => N1
  have hlg : g.IsList ln vs.toArray := let ⟨o, ho, r⟩ := hvs; ⟨o, hgk _ _ ho, r⟩
  have hTg : ∀ (i : Nat) (p : Str × Str), ns[i]? = some p → ∃ (T : Addr) (a b : Tok), vs[i]? = some (.ref T) ∧ IsTup g T #[.str p.1 a, .str p.2 b] := fun i p hp => by
    refine cps_EEEAEA (hT i p hp) ?_
    intro T1 a b e o ho r
    exact ⟨T1, a, b, e, o, hgk _ _ ho, r⟩
  refine' text_for (n := n) (t0 := ?t0) B X T (by omega) (by omega) hlg hvl hTg hsix hnl (fr_congr F1 ?m) N1 ?q
  case m =>
    intro y
    unfold txm
    by_cases h1 : y = Str.ofString "text"
    · rw [if_pos h1, if_pos h1]
    · rw [if_neg h1, if_neg h1]
      refine Eq.trans (b := List.lookup y [(Str.ofString "needs", Value.ref ln)]) (by with_unfolding_all rfl) ?_
      rw [lookup_one]
      by_cases h2 : y = Str.ofString "k"
      · rw [if_pos h2, if_neg (by rw [h2]; decide)]
      · rw [if_neg h2]
  intro h' tk' kv t F'
  have N' : News g s.heap.objs.size h' [] := fun _ h => (nomatch h)
  clear F1 N1
  k_steps
  dsimp only
  exact ⟨_, _, _, rfl, rfl, fun x o e _ => F'.keep _ _ (hgk x o e), t, rfl⟩
end

section
open PySem.Builtin PySem.Builtin.Str
theorem occ_first (x y : Str) : ∀ (l : List Nat) (free : Nat), (∀ i ∈ l, free ≤ i) → l.Pairwise (· < ·) → ∀ k ∈ l, (k + y.length ≤ x.length ∧ subAt x y k = true) → (∀ i ∈ l, i < k → ¬ (i + y.length ≤ x.length ∧ subAt x y i = true)) →
    ∃ r, (forIn l ((#[] : Array Nat), free) (StrLaws.occBody x y x.length 1)).run.fst.toList = k :: r
  | [], _, _, _, _, hk, _, _ => nomatch hk
  | a :: l, free, hf, hp, k, hk, hc, hn => by
    rw [List.forIn_cons]
    have ha : free ≤ a := hf a (.head _)
    obtain ⟨hp1, hp2⟩ := List.pairwise_cons.mp hp
    rcases List.mem_cons.mp hk with rfl | hk'
    · unfold StrLaws.occBody
      have c1 : (((#[] : Array Nat), free).fst.size < 1 ∧ ((#[] : Array Nat), free).snd ≤ k) ∧ k + y.length ≤ x.length := ⟨⟨by simp, ha⟩, hc.1⟩
      rw [if_pos ⟨c1, hc.2⟩]
      have key : ∀ (l : List Nat) (st : Array Nat × Nat), 1 ≤ st.fst.size → (forIn l st (StrLaws.occBody x y x.length 1)).run.fst = st.fst := by
        intro l
        induction l with
        | nil => intro st _; rfl
        | cons b l ih =>
          intro st hst
          rw [List.forIn_cons]
          unfold StrLaws.occBody
          rw [if_neg (fun z => by have := z.1.1.1; omega)]
          exact ih _ hst
      exact ⟨[], congrArg Array.toList (key l _ (by simp))⟩
    · have hlt := hp1 k hk'
      unfold StrLaws.occBody
      rw [if_neg (fun z => hn a (.head _) hlt ⟨z.1.2, z.2⟩)]
      exact occ_first x y l free (fun i hi => Nat.le_trans ha (Nat.le_of_lt (hp1 i hi))) hp2 k hk' hc fun i hi => hn i (.tail _ hi)

theorem find_from {x : Str} {c lo k : Nat} (hlo : lo ≤ k) (hk : x.cps.toList[k]? = some c) (hn : ∀ i, lo ≤ i → i < k → x.cps.toList[i]? ≠ some c) : ∃ r, occurrences x ⟨#[c]⟩ lo x.length 1 = k :: r := by
  rw [StrLaws.occ_eq]
  have hk' := (StrLaws.subAt_one x c k).mpr hk
  have hle : k + 1 ≤ x.length := hk'.1
  refine occ_first x ⟨#[c]⟩ _ lo (fun i hi => ?_) (List.pairwise_lt_range') k ?_ hk' fun i hi hlt z => hn i ?_ hlt ((StrLaws.subAt_one x c i).mp z)
  · exact (List.mem_range'_1.mp hi).1
  · exact List.mem_range'_1.mpr ⟨hlo, by omega⟩
  · exact (List.mem_range'_1.mp hi).1
theorem find_nowhere {x : Str} {c lo : Nat} (hn : ∀ i, lo ≤ i → x.cps.toList[i]? ≠ some c) : occurrences x ⟨#[c]⟩ lo x.length 1 = [] := by
  rw [StrLaws.occ_eq]
  have := (StrLaws.occ_none x ⟨#[c]⟩ x.length (List.range' lo (x.length + 1 - lo)) lo (fun i hi => (List.mem_range'_1.mp hi).1)).mpr fun i hi z => hn i (List.mem_range'_1.mp hi).1 ((StrLaws.subAt_one x c i).mp z)
  rw [this]
theorem find3_is {x : Str} {c lo k : Nat} (hlo : lo ≤ k) (hk : x.cps.toList[k]? = some c) (hn : ∀ i, lo ≤ i → i < k → x.cps.toList[i]? ≠ some c) : Txt.find3 x ⟨#[c]⟩ (lo : Int) = (k : Int) := by
  obtain ⟨r, e⟩ := find_from hlo hk hn
  have e2 : fromIndex x.length (lo : Int) = lo := by unfold fromIndex; rw [if_neg (Int.not_lt.mpr (Int.natCast_nonneg _))]; exact (congrArg Int.toNat (Int.max_eq_right (Int.natCast_nonneg _))).trans (Int.toNat_natCast _)
  unfold Txt.find3
  rw [e2, e]
theorem find3_not {x : Str} {c lo : Nat} (hn : ∀ i, lo ≤ i → x.cps.toList[i]? ≠ some c) : Txt.find3 x ⟨#[c]⟩ (lo : Int) = -1 := by
  have e2 : fromIndex x.length (lo : Int) = lo := by unfold fromIndex; rw [if_neg (Int.not_lt.mpr (Int.natCast_nonneg _))]; exact (congrArg Int.toNat (Int.max_eq_right (Int.natCast_nonneg _))).trans (Int.toNat_natCast _)
  unfold Txt.find3
  rw [e2, find_nowhere hn]
theorem item_is {x : Str} {c k : Nat} (hk : x.cps.toList[k]? = some c) : Txt.item x (k : Int) = ⟨#[c]⟩ := by
  unfold Txt.item Txt.charAt
  obtain ⟨hlt, _⟩ := List.getElem?_eq_some_iff.mp hk
  have hl : k < x.length := by simpa [Str.length] using hlt
  rw [StrLaws.at_nonneg (n := c) (by omega) (by rw [Int.toNat_natCast, ← hk]; simp)]
  rfl
theorem slice_is {x : Str} {a b : Nat} {l : List Nat} (hab : a ≤ b) (hb : b ≤ x.length) (h : (x.cps.toList.drop a).take (b - a) = l) : Txt.slice x (some (a : Int)) (some (b : Int)) = ⟨l.toArray⟩ := by
  rw [← h]
  exact StrLaws.sliceText_nat x hab hb
end

section
noncomputable def body : List (List Nat × Str) → List Nat → List Nat
  | [], t => t
  | (p, q) :: r, t => p ++ 61 :: ((quo q).cps.toList ++ body r t)
theorem body_app : ∀ (l : List (List Nat × Str)) (l' : List (List Nat × Str)) (t : List Nat), body (l ++ l') t = body l (body l' t)
  | [], _, _ => rfl
  | (p, q) :: l, l', t => by show p ++ 61 :: ((quo q).cps.toList ++ body (l ++ l') t) = _; rw [body_app l]; rfl
theorem body_end : ∀ (l : List (List Nat × Str)) (t u : List Nat), body l t ++ u = body l (t ++ u)
  | [], _, _ => rfl
  | (p, q) :: l, t, u => by show (p ++ 61 :: ((quo q).cps.toList ++ body l t)) ++ u = p ++ 61 :: ((quo q).cps.toList ++ body l (t ++ u)); rw [← body_end l]; simp
noncomputable def nmL : List Nat := [60, 110, 101, 101, 100, 32, 110, 97, 109, 101]
noncomputable def ofL : List Nat := [32, 111, 102]
noncomputable def sepL (i : Nat) : List Nat := if i % 2 = 0 then [47, 62, 32] else [47, 62, 10]
theorem tag_list (i : Nat) (p : Str × Str) : (tag i p).cps.toList = nmL ++ 61 :: ((quo p.1).cps.toList ++ (ofL ++ 61 :: ((quo p.2).cps.toList ++ sepL i))) := by
  have app : ∀ a b : Str, (a ++ b).cps.toList = a.cps.toList ++ b.cps.toList := fun a b => Array.toList_append
  have e1 : (Str.ofString "<need name=").cps.toList = nmL ++ [61] := by kernel_rfl
  have e2 : (Str.ofString " of=").cps.toList = ofL ++ [61] := by kernel_rfl
  have e3 : (Str.ofString "/>").cps.toList ++ (if i % 2 = 0 then Str.ofString " " else Str.ofString "\n").cps.toList = sepL i := by unfold sepL; split <;> kernel_rfl
  unfold tag
  rw [app, app, app, app, app, e1, e2, ← e3]
  simp
noncomputable def tailTo (ns : List (Str × Str)) : Nat → List Nat
  | 0 => []
  | i + 1 => match ns[i]? with
    | some _ => sepL i
    | none => tailTo ns i
noncomputable def segsTo (ns : List (Str × Str)) : Nat → List (List Nat × Str)
  | 0 => []
  | i + 1 => match ns[i]? with
    | some p => segsTo ns i ++ [(tailTo ns i ++ nmL, p.1), (ofL, p.2)]
    | none => segsTo ns i
theorem textTo_succ {ns : List (Str × Str)} {i : Nat} {p : Str × Str} (h : ns[i]? = some p) : textTo ns (i + 1) = textTo ns i ++ tag i p := by
  show (match ns[i]? with | some p => textTo ns i ++ tag i p | none => textTo ns i) = _
  rw [h]
theorem tailTo_succ {ns : List (Str × Str)} {i : Nat} {p : Str × Str} (h : ns[i]? = some p) : tailTo ns (i + 1) = sepL i := by
  show (match ns[i]? with | some _ => sepL i | none => tailTo ns i) = _
  rw [h]
theorem segsTo_succ {ns : List (Str × Str)} {i : Nat} {p : Str × Str} (h : ns[i]? = some p) : segsTo ns (i + 1) = segsTo ns i ++ [(tailTo ns i ++ nmL, p.1), (ofL, p.2)] := by
  show (match ns[i]? with | some p => segsTo ns i ++ [(tailTo ns i ++ nmL, p.1), (ofL, p.2)] | none => segsTo ns i) = _
  rw [h]
theorem text_body (ns : List (Str × Str)) : ∀ i, i ≤ ns.length → (textTo ns i).cps.toList = body (segsTo ns i) (tailTo ns i)
  | 0, _ => by kernel_rfl
  | i + 1, hi => by
    have app : ∀ a b : Str, (a ++ b).cps.toList = a.cps.toList ++ b.cps.toList := fun a b => Array.toList_append
    with_reducible refine hide ?_
    intro GG hGG
    obtain ⟨p, hp⟩ : ∃ p, ns[i]? = some p := ⟨_, List.getElem?_eq_getElem hi⟩
    with_reducible refine hGG ?_
    clear hGG GG
    rw [textTo_succ hp, tailTo_succ hp, segsTo_succ hp, app, text_body ns i (Nat.le_of_succ_le hi), tag_list, body_end, body_app]
    refine congrArg (body (segsTo ns i)) ?_
    show _ = (tailTo ns i ++ nmL) ++ 61 :: ((quo p.1).cps.toList ++ (ofL ++ 61 :: ((quo p.2).cps.toList ++ sepL i)))
    rw [List.append_assoc]
theorem tail_no (ns : List (Str × Str)) : ∀ i, i ≤ ns.length → 61 ∉ tailTo ns i
  | 0, _ => List.not_mem_nil
  | i + 1, hi => by
    with_reducible refine hide ?_
    intro GG hGG
    obtain ⟨p, hp⟩ : ∃ p, ns[i]? = some p := ⟨_, List.getElem?_eq_getElem hi⟩
    with_reducible refine hGG ?_
    clear hGG GG
    rw [tailTo_succ hp]
    unfold sepL; split <;> decide
theorem segs_no (ns : List (Str × Str)) : ∀ i, i ≤ ns.length → ∀ x ∈ segsTo ns i, 61 ∉ x.1
  | 0, _ => fun _ h => nomatch h
  | i + 1, hi => by
    with_reducible refine hide ?_
    intro GG hGG
    obtain ⟨p, hp⟩ : ∃ p, ns[i]? = some p := ⟨_, List.getElem?_eq_getElem hi⟩
    with_reducible refine hGG ?_
    clear hGG GG
    rw [segsTo_succ hp]
    intro x hx
    rcases List.mem_append.mp hx with hx | hx
    · exact segs_no ns i (Nat.le_of_succ_le hi) x hx
    · rcases List.mem_cons.mp hx with rfl | hx
      · exact fun h => (List.mem_append.mp h).elim (tail_no ns i (Nat.le_of_succ_le hi)) (by decide)
      · rw [List.mem_singleton.mp hx]; show 61 ∉ ofL; decide
theorem segs_names (ns : List (Str × Str)) : ∀ i, i ≤ ns.length → (segsTo ns i).map (·.2) = flat (ns.take i)
  | 0, _ => by rw [List.take_zero]; rfl
  | i + 1, h => by
    with_reducible refine hide ?_
    intro GG hGG
    obtain ⟨p, hp⟩ : ∃ p, ns[i]? = some p := ⟨_, List.getElem?_eq_getElem h⟩
    with_reducible refine hGG ?_
    clear hGG GG
    rw [segsTo_succ hp, List.map_append, segs_names ns i (Nat.le_of_succ_le h), List.take_add_one, hp]
    show _ = flat (ns.take i ++ [p])
    unfold flat
    rw [List.flatMap_append]
    rfl
noncomputable def chk (q : Str) (c : Nat) : Bool := ((quo q).cps.toList == c :: ((inn q).cps.toList ++ [c])) && !(inn q).cps.toList.contains c && !(c == 61) && (inn q).cps.toList.all fun x => !([60, 62, 9, 10, 13].contains x)
theorem six_chk : ∀ q ∈ six, chk q 34 = true ∨ chk q 39 = true :=
  six_cases (.inl (by kernel_rfl)) (.inl (by kernel_rfl)) (.inl (by kernel_rfl)) (.inl (by kernel_rfl)) (.inr (by kernel_rfl)) (.inl (by kernel_rfl))
structure QIs (q : Str) (c : Nat) : Prop where
  eq : (quo q).cps.toList = c :: ((inn q).cps.toList ++ [c])
  off : c ∉ (inn q).cps.toList
  ne : c ≠ 61
  bare : ∀ x ∈ (inn q).cps.toList, x ∉ [60, 62, 9, 10, 13]
theorem six_is : ∀ q ∈ six, ∃ c, QIs q c := by
  intro q hq
  have key : ∀ c, chk q c = true → QIs q c := fun c h => by
    unfold chk at h
    simp only [Bool.and_eq_true, beq_iff_eq, Bool.not_eq_true', List.all_eq_true] at h
    with_reducible refine hide ?_
    intro GG hGG
    obtain ⟨⟨⟨h1, h2⟩, h3⟩, h4⟩ := h
    with_reducible refine hGG ?_
    clear hGG GG
    refine ⟨h1, fun z => ?_, fun z => ?_, fun x hx z => ?_⟩
    · rw [List.contains_iff_mem.mpr z] at h2; cases h2
    · rw [z] at h3; cases h3
    · have := h4 x hx
      rw [List.contains_iff_mem.mpr z] at this; cases this
  exact (six_chk q hq).elim (fun h => ⟨_, key _ h⟩) fun h => ⟨_, key _ h⟩
noncomputable def Here (T : Str) (p : Int) (tail : List Nat) : List (List Nat × Str) → Prop
  | [] => p = -1
  | (_, q) :: r => ∃ A : List Nat, p = (A.length : Int) ∧ T.cps.toList = A ++ 61 :: ((quo q).cps.toList ++ body r tail)
theorem here_from {T : Str} {P e tail : List Nat} {rest : List (List Nat × Str)} (h : T.cps.toList = P ++ (e ++ body rest tail)) (he : 61 ∉ e) (hr : ∀ x ∈ rest, 61 ∉ x.1) (ht : 61 ∉ tail) : ∃ p, Txt.find3 T ⟨#[61]⟩ (P.length : Int) = p ∧ Here T p tail rest := by
  cases rest with
  | nil =>
    refine ⟨_, find3_not fun i hi z => ?_, rfl⟩
    rw [h, List.getElem?_append_right hi] at z
    exact (List.mem_append.mp (List.mem_of_getElem? z)).elim he ht
  | cons x r =>
    obtain ⟨p, q⟩ := x
    have hp := hr _ (.head _)
    have e1 : T.cps.toList = (P ++ e ++ p) ++ 61 :: ((quo q).cps.toList ++ body r tail) := by rw [h]; show P ++ (e ++ (p ++ 61 :: _)) = _; simp
    refine ⟨((P ++ e ++ p).length : Int), find3_is ?_ ?_ ?_, P ++ e ++ p, rfl, e1⟩
    · simp
    · rw [e1, List.getElem?_append_right (Nat.le_refl _), Nat.sub_self]; rfl
    · intro i h1 h2 z
      rw [e1, List.getElem?_append_left h2, List.append_assoc, List.getElem?_append_right h1] at z
      exact (List.mem_append.mp (List.mem_of_getElem? z)).elim he hp
theorem here_start {T : Str} {tail : List Nat} {rest : List (List Nat × Str)} (h : T.cps.toList = body rest tail) (hr : ∀ x ∈ rest, 61 ∉ x.1) (ht : 61 ∉ tail) : Here T (Txt.find T ⟨#[61]⟩) tail rest := by
  have e : Txt.find T ⟨#[61]⟩ = Txt.find3 T ⟨#[61]⟩ (([] : List Nat).length : Int) := by
    unfold Txt.find Txt.find3
    rw [show fromIndex T.length (([] : List Nat).length : Int) = 0 from by unfold fromIndex; simp]
    cases Builtin.Str.occurrences T ⟨#[61]⟩ 0 T.length 1 <;> rfl
  with_reducible refine hide ?_
  intro GG hGG
  obtain ⟨p, h1, h2⟩ := here_from (P := []) (e := []) (T := T) (rest := rest) (tail := tail) (by simpa using h) List.not_mem_nil hr ht
  with_reducible refine hGG ?_
  clear hGG GG
  rw [e, h1]; exact h2
theorem here_turn {T : Str} {p : Int} {tail pp : List Nat} {q : Str} {r : List (List Nat × Str)} (h : Here T p tail ((pp, q) :: r)) (hq : q ∈ six) (hr : ∀ x ∈ r, 61 ∉ x.1) (ht : 61 ∉ tail) :
    ∃ a e c : Nat, p = (a : Int) ∧ a + 1 < T.length ∧ e < T.length ∧ Txt.item T ((a : Int) + 1) = ⟨#[c]⟩ ∧ Txt.find3 T ⟨#[c]⟩ ((a : Int) + 2) = (e : Int) ∧ Txt.slice T (some ((a : Int) + 2)) (some (e : Int)) = inn q ∧ Here T (Txt.find3 T ⟨#[61]⟩ (e : Int)) tail r := by
  with_reducible refine hide ?_
  intro GG hGG
  obtain ⟨A, rfl, hT⟩ := h
  obtain ⟨c, Q⟩ := six_is q hq
  with_reducible refine hGG ?_
  clear hGG GG
  rw [Q.eq] at hT
  generalize hl : (inn q).cps.toList = l at hT
  have off := Q.off
  rw [hl] at off
  have hlen : T.length = T.cps.toList.length := by simp [Str.length]
  have e1 : T.cps.toList = A ++ 61 :: c :: (l ++ c :: body r tail) := by rw [hT]; simp
  have e2 : T.cps.toList = (A ++ 61 :: c :: l) ++ ([c] ++ body r tail) := by rw [e1]; simp
  have hL : T.length = A.length + 2 + l.length + 1 + (body r tail).length := by rw [hlen, e1]; simp; omega
  have eL : (A ++ 61 :: c :: l).length = A.length + 2 + l.length := by simp; omega
  with_reducible refine hide ?_
  intro GG hGG
  obtain ⟨p', h1, h2⟩ := here_from (P := A ++ 61 :: c :: l) (e := [c]) e2 (fun z => Q.ne (List.mem_singleton.mp z).symm) hr ht
  with_reducible refine hGG ?_
  clear hGG GG
  rw [eL] at h1
  have s1 : ((A.length : Int) + 1) = ((A.length + 1 : Nat) : Int) := rfl
  have s2 : ((A.length : Int) + 2) = ((A.length + 2 : Nat) : Int) := rfl
  refine ⟨A.length, A.length + 2 + l.length, c, rfl, by omega, by omega, ?_, ?_, ?_, h1 ▸ h2⟩
  · rw [s1]
    refine item_is ?_
    rw [e1, List.getElem?_append_right (by omega)]
    simp
  · rw [s2]
    refine find3_is (by omega) ?_ ?_
    · rw [e2, List.getElem?_append_right (by rw [eL]; omega), eL, Nat.sub_self]; rfl
    · intro i h1 h2 z
      rw [e1, List.getElem?_append_right (by omega)] at z
      with_reducible refine hide ?_
      intro GG hGG
      obtain ⟨k, hk⟩ : ∃ k, i - A.length = k + 2 := ⟨i - A.length - 2, sb3 h1⟩
      with_reducible refine hGG ?_
      clear hGG GG
      rw [hk, List.getElem?_cons_succ, List.getElem?_cons_succ, List.getElem?_append_left (by omega)] at z
      exact off (List.mem_of_getElem? z)
  · rw [s2, slice_is (l := l) (by omega) (by omega) ?_]
    · rw [← hl]
    · rw [e1, List.drop_append, List.drop_of_length_le (by omega)]
      simp [show A.length + 2 - A.length = 2 by omega]
end

section
local macro_rules | `(tactic| walk_at "compareOp In str str") => `(tactic| (k_here; refine in_lit (by with_reducible assumption) ?_))
noncomputable def nmFn : Stmt := stAt PP.main.body 15
noncomputable def nmWhile : Stmt := stAt (stBody nmFn) 2
@[reducible] noncomputable def nmEnv (L : Addr) : Env := envOf (Str.ofString "_law_names") (stScope nmFn) L 192 (.ref 191)
noncomputable def nmBare : Stmt := stAt (stBody nmWhile) 2
theorem bare_not {c : Nat} (h : c ∉ [60, 62, 9, 10, 13]) : (!(Builtin.Str.occurrences (Str.ofString "<>\t\n\r") ⟨#[c]⟩ 0 (Str.ofString "<>\t\n\r").length 1).isEmpty) = false := by
  rw [StrLaws.found_one, show (Str.ofString "<>\t\n\r").cps.toList = [60, 62, 9, 10, 13] from by kernel_rfl]
  exact decide_eq_false h
theorem none_paired {ys : List Value} {vs : List Value} {F : Value → Value → Prop} (h : Paired F (vs.filter fun _ => false) ys) : ys = [] := by
  rw [List.filter_eq_nil_iff.mpr (fun _ _ => Bool.false_ne_true)] at h
  cases h; rfl
theorem new_off' {g h : Heap} {L a : Addr} {m : Str → Option Value} (F : Fr g L h m) (z : h.get? a = none) : a ≠ L ∧ g.get? a = none := by
  refine ⟨fun q => ?_, ?_⟩
  · refine cps_EEEA (F.ns) ?_
    intro oL _ _ hL _
    rw [q, hL] at z
    cases z
  · cases e : g.get? a with
    | none => rfl
    | some o =>
      have z' := F.keep _ _ e
      rw [z] at z'
      cases z'
set_option maxHeartbeats 8000000 in
theorem bare_comp {w : World} {g base h : Heap} {L : Addr} {d u tk : Nat} {outer : List Env} {loose : List Str} {mean : ExcName → Option Value} {mg mb : Str → Option Value} {y : Str} {t : Tok} {m : Str → Option Value} {news : List (Addr × Obj)} {s : Shared} {Q : Flow → Shared → Prop} {E : Value → Shared → Prop}
   (_B : Below (mkA d u outer) base outer g) (X : (hd.heap_39 w.params).In g) (TT : Top hd.view_39 loose mean mg mb g)
   (hm : m (Str.ofString "name") = some (.str y t)) (hy : ∀ x ∈ y.cps.toList, x ∉ [60, 62, 9, 10, 13]) (hyl : y.length ≤ 4000)
   (F : Fr g L h m) (N : News g L h news)
   (hq : ∀ D lp h' tk', Fr g L h' (fun z => if z = Str.ofString "bare" then some (.ref D) else m z) → News g L h' ((D, W.listOf #[] lp) :: news) → (∀ p ∈ news, p.1 ≠ D) → Q .next { s with heap := h', toks := tk' }) :
   wpAny (model PP w) ((mkA d u outer).deeper (nmEnv L)) (exec nmBare (nmEnv L)) Q E { s with heap := h, toks := tk } := by
  have eW : nmBare = .Assign _ _ _ := rfl
  have eS : stScope nmFn = { kind := _, names := _, isGenerator := _, isCoroutine := _, more := _ } := rfl
  rw [nmEnv, eS, eW]
  clear eW eS
  refine wpAny_Assign_ListComp_free (cl := []) (fun _ => false) (fun _ _ => True) (by with_unfolding_all rfl) (by with_unfolding_all rfl) (by decide) (by rfl) (by decide) (by decide) (by rfl) (by rfl) ?_
  refine ld F hm ?_
  refine wpAny_pyIter_str fun o St W hst => ?_
  have up : ∀ b o', h.get? b = some o' → (h.push o).get? b = some o' := fun b o' e => Heap.get?_push_of_some _ e
  have F3 := F.kept up
  have N3 := N.grown up
  have hwr : ∀ b ∈ [h.objs.size], b ≠ L ∧ g.get? b = none ∧ ∀ p ∈ news, p.1 ≠ b := fun b hb => by
    rw [List.mem_singleton.mp hb]
    exact ⟨(fr_push1 F).1, (fr_push1 F).2, fun p hp => Nat.ne_of_lt (Heap.lt_size (N p hp).1)⟩
  refine ⟨_, _, _, _, _, St, m, rfl, W _ rfl, ?_, hst, ?_, ?_, F3.ns, ⟨?_, ?_⟩, ?_⟩
  · show y.length ≤ sizeLine
    rw [sizeLine_eq]; omega
  · intro b hb
    rw [List.mem_singleton.mp hb]
    show h.objs.size < (h.push o).objs.size
    rw [Heap.size_push]; exact Nat.lt_succ_self _
  · exact fun q => (hwr _ q).1 rfl
  · rintro C i v ⟨h3, gg, dd, tk3, os⟩ m₃ E' hC ⟨c, u', hc, rfl⟩ hns hm3 hk htk
    have hb := bare_not (hy c (by rw [Array.mem_toList_iff]; exact Array.mem_of_getElem? hc))
    refine cps_AEAA (quiet_frame F3 N3 hC hns hk hwr) ?_
    intro F4 oC nC N4 hCl
    clear N3 F3 F N hwr
    refine wpAny_tests_one ?_
    k_steps
    exact ⟨_, _, rfl, fun _ _ e => e⟩
  · intro C i v hXX
    with_reducible refine hide ?_
    intro GG hGG
    obtain ⟨h3, gg, dd, tk3, os⟩ := hXX
    with_reducible refine hGG ?_
    clear hGG GG
    intro m₃ E' hC _ hf
    cases hf
  · intro D h' tk' ys vs hD _ hpl _ _ hP hns hk
    obtain ⟨_, hpl⟩ := hpl
    have hys := none_paired hP
    have hys : ys = #[] := by rw [← Array.toArray_toList (xs := ys), hys]
    subst hys
    have offL : ∀ b o, g.get? b = some o → b ≠ L := fun b o e q => by
      subst q
      exact absurd (Nat.lt_of_lt_of_le (Heap.lt_size e) F.above) (Nat.lt_irrefl _)
    have offI : ∀ b o, h.get? b = some o → b ∉ [h.objs.size] := fun b o e q => absurd (Heap.lt_size e) (by rw [List.mem_singleton.mp q]; exact Nat.lt_irrefl _)
    have hDh : h.get? D = none := by
      cases e : h.get? D with
      | none => rfl
      | some o' =>
        have e2 := up _ _ e
        rw [show (h.push o).get? D = none from hD] at e2; cases e2
    have nD := new_off' F hDh
    exact hq D _ h' tk' ⟨hns, fun b o e => hk b o (offL b o e) (offI b o (F.keep b o e)) (up _ _ (F.keep b o e)), F.above⟩
      (List.forall_mem_cons.mpr ⟨⟨hpl, nD⟩, fun p hp => ⟨hk _ _ (N p hp).2.1 (offI _ _ (N p hp).1) (up _ _ (N p hp).1), (N p hp).2⟩⟩) fun p hp q => by
        have := (N p hp).1
        rw [q, hDh] at this; cases this
end

section
local macro_rules | `(tactic| walk_at "X gentoks") => `(tactic| (with_reducible refine gen_tk ?hp ?_; (case hp => walk_at "X pos"); intro tk hpos))
section
variable {prog : Program} {w : World} {A : Around} {E : Value → Shared → Prop} {s : Shared} {g : Heap} {L : Addr} {m : Str → Option Value} {news : List (Addr × Obj)} {x y : Str} {t u v : Tok} {i j k : Int} {value slice : Expr} {Q : Value → Shared → Prop}
theorem find_lit (e : Txt.find x y = k) (h : ∀ t', Q (.int k t') { s with toks := s.toks + 1 }) : wpAny (model prog w) A (call (.builtin "str.find") [.str x t, .str y u]) Q E s := SC.find (by rw [e]; exact h _)
theorem find3_lit (e : Txt.find3 x y i = k) (h : ∀ t', Q (.int k t') { s with toks := s.toks + 1 }) : wpAny (model prog w) A (call (.builtin "str.find") [.str x t, .str y u, .int i v]) Q E s := SC.find3 (by rw [e]; exact h _)
theorem item_lit (e : Txt.item x i = y) (hr : fitsSsize i = true) (h1 : -(x.length : Int) ≤ i) (h2 : i < x.length) (h : ∀ t', Q (.str y t') { s with toks := s.toks + 1 })
    (hs : subscripted slice false (.str x t) (.int i u) = operate [.str x t, .int i u] (getItem (.str x t) (.int i u)) := by with_unfolding_all rfl)
    (ht : ∀ r, letTemporaryGo value (.str x t) r = pure () := by intro _; with_unfolding_all rfl) : wpAny (model prog w) A (subscriptTail value slice (.str x t) (.int i u)) Q E s := item_str hr h1 h2 (fun _ => by rw [e]; exact h _) hs ht
end
local macro_rules | `(tactic| walk_at "execs cons") => `(tactic| (k_here; walk_at "X gentoks"))
local macro_rules | `(tactic| walk_at "execs nil") => `(tactic| (k_here; walk_at "X gentoks"))
local macro_rules | `(tactic| walk_at "exec Assign cons ListComp") => `(tactic| refine stop_here ?_)
local macro_rules | `(tactic| walk_at "eval Dict") => `(tactic| refine stop_here ?_)
local macro_rules | `(tactic| walk_at "call builtin:str.find") => `(tactic| (walk_at "Y 17"; intro _))
local macro_rules | `(tactic| walk_at "subscriptTail Name BinOp str int") => `(tactic| (walk_at "Y 18"; intro _))
local macro_rules | `(tactic| walk_at "call builtin:str.find") => `(tactic| (walk_at "Y 19"; intro _))
@[reducible] noncomputable def nmm (T : Str) (t : Tok) (ln : Addr) (p : Int) (pt : Tok) (e1 e2 e3 : Option Value) : Str → Option Value := fun y => if y = Str.ofString "pos" then some (.int p pt) else if y = Str.ofString "end" then e1 else if y = Str.ofString "name" then e2 else if y = Str.ofString "bare" then e3 else if y = Str.ofString "names" then some (.ref ln) else if y = Str.ofString "text" then some (.str T t) else none
theorem nm_map {T : Str} {t : Tok} {ln : Addr} {p p' : Int} {pt pt' : Tok} {e1 e2 e3 : Option Value} {v1 v2 v3 : Value} (y : Str) :
    (if y = Str.ofString "pos" then some (Value.int p' pt') else if y = Str.ofString "bare" then some v3 else if y = Str.ofString "name" then some v2 else if y = Str.ofString "end" then some v1 else nmm T t ln p pt e1 e2 e3 y) = nmm T t ln p' pt' (some v1) (some v2) (some v3) y := by
  unfold nmm
  by_cases h1 : y = Str.ofString "pos"
  · simp only [if_pos h1]
  by_cases h2 : y = Str.ofString "end"
  · have a : ¬ y = Str.ofString "bare" := by rw [h2]; decide
    have b : ¬ y = Str.ofString "name" := by rw [h2]; decide
    simp only [if_neg h1, if_neg a, if_neg b, if_pos h2]
  by_cases h3 : y = Str.ofString "name"
  · have a : ¬ y = Str.ofString "bare" := by rw [h3]; decide
    simp only [if_neg h1, if_neg a, if_neg h2, if_pos h3]
  by_cases h4 : y = Str.ofString "bare"
  · simp only [if_neg h1, if_neg h2, if_neg h3, if_pos h4]
  · simp only [if_neg h1, if_neg h2, if_neg h3, if_neg h4]
theorem inn_len : ∀ q ∈ six, (inn q).length ≤ 4000 := by
  refine cps_AAAAA inn_vals ?_
  intro v0 v1 v2 v3 v4 v5
  exact six_cases (by rw [v0]; exact Nat.le_of_ble_eq_true (by kernel_rfl)) (by rw [v1]; exact Nat.le_of_ble_eq_true (by kernel_rfl)) (by rw [v2]; exact Nat.le_of_ble_eq_true (by kernel_rfl)) (by rw [v3]; exact Nat.le_of_ble_eq_true (by kernel_rfl)) (by rw [v4]; exact Nat.le_of_ble_eq_true (by kernel_rfl)) (by rw [v5]; exact Nat.le_of_ble_eq_true (by kernel_rfl))
inductive NmJ (T : Str) (t : Tok) (tail : List Nat) (segs : List (List Nat × Str)) (ln : Addr) (k : Nat) (m : Str → Option Value) (news : List (Addr × Obj)) : Prop
  | mk (done rest : List (List Nat × Str)) (p : Int) (pt : Tok) (e1 e2 e3 : Option Value) (vs : List Value) (lp : Nat) (es : segs = done ++ rest) (ek : k = rest.length) (hp : Here T p tail rest) (hm : ∀ y, m y = nmm T t ln p pt e1 e2 e3 y)
      (en : news = [(ln, W.listOf vs.toArray lp)]) (hv : StrsAre vs (done.map (·.2)))
set_option maxHeartbeats 8000000 in
theorem names_while {w : World} {g base h : Heap} {L ln : Addr} {d u n tk : Nat} {outer : List Env} {loose : List Str} {mean : ExcName → Option Value} {mg mb : Str → Option Value} {T : Str} {t pt : Tok} {p0 : Int} {tail : List Nat} {segs : List (List Nat × Str)} {lp : Nat} {s : Shared} {Q : Flow → Shared → Prop}
   (B : Below (mkA d u outer) base outer g) (X : (hd.heap_39 w.params).In g) (TT : Top hd.view_39 loose mean mg mb g) (hd : d + n + 30 ≤ 900) (hu : u + 20 * n + 600 ≤ 9000)
   (hTl : T.length ≤ 4000) (hp : Here T p0 tail segs) (hno : ∀ x ∈ segs, 61 ∉ x.1) (hnt : 61 ∉ tail) (hsix : ∀ x ∈ segs, x.2 ∈ six) (hsl : segs.length ≤ 30)
   (F₀ : Fr g L h (nmm T t ln p0 pt none none none)) (N₀ : News g L h [(ln, W.listOf #[] lp)])
   (hq : ∀ h' tk' p pt e1 e2 e3 vs lp, Fr g L h' (nmm T t ln p pt e1 e2 e3) → News g L h' [(ln, W.listOf vs.toArray lp)] → StrsAre vs (segs.map (·.2)) → Q .next { s with heap := h', toks := tk' }) :
   wpAny (model PP w) ((mkA d u outer).deeper (nmEnv L)) (exec nmWhile (nmEnv L)) Q (fun _ _ => False) { s with heap := h, toks := tk } := by
  have eW : nmWhile = .While _ _ _ _ := rfl
  have eS : stScope nmFn = { kind := _, names := _, isGenerator := _, isCoroutine := _, more := _ } := rfl
  rw [nmEnv, eS, eW]
  clear eW eS
  refine while_newsQ (J := fun m₀ k m news => NmJ T t tail segs ln k m news) (n₀ := segs.length) F₀ N₀
    ⟨[], segs, p0, pt, none, none, none, [], lp, rfl, rfl, hp, fun _ => rfl, rfl, .nil⟩ ?_
  intro k m₁ news₁ h₁ tk₁ F N hXX
  obtain ⟨done, rest, p, pt, e1, e2, e3, vs, lp, rfl, rfl, hpI, hm, rfl, hvs⟩ := hXX
  intro Qt hQt
  have F1 := fr_congr F hm
  clear F F₀ N₀ hm
  cases rest with
  | nil =>
    obtain rfl : p = -1 := hpI
    k_steps
    rw [List.append_nil] at hq
    exact hq _ _ _ _ _ _ _ _ _ F1 N hvs
  | cons x r =>
    with_reducible refine hide ?_
    intro GG hGG
    obtain ⟨pp, q⟩ := x
    have hq6 : q ∈ six := hsix _ (List.mem_append_right _ (.head _))
    refine cps_EEEAAAAAA (here_turn hpI hq6 (fun x hx => hno x (List.mem_append_right _ (.tail _ hx))) hnt) ?_
    rintro a e c rfl ha1 ha2 i1 i2 i3 hp2
    obtain ⟨cq, Q6⟩ := six_is q hq6
    have hil : (inn q).length ≤ 4000 := inn_len q hq6
    obtain ⟨p', i4⟩ : ∃ p', Txt.find3 T (Str.ofString "=") (e : Int) = p' := ⟨_, rfl⟩
    with_reducible refine hGG ?_
    clear hGG GG
    have hp3 : Here T p' tail r := by rw [← i4, show Str.ofString "=" = ⟨#[61]⟩ from by kernel_rfl]; exact hp2
    clear hp2
    have hvl : vs.length ≤ 30 := by
      have e1 := strs_len hvs
      rw [List.length_map] at e1
      rw [List.length_append] at hsl
      omega
    k_steps
    refine ⟨?_⟩
    rename Fr g L _ _ => F3
    rename News g L _ _ => N3
    rw [i3] at F3
    refine wpAny_with_toks (n := 1) (by first | assumption | walk_at "X pos") (bare_comp B X TT (by rfl) Q6.bare hil F3 N3 ?_)
    clear F3 N3
    intro D lp2 h2 tk2 F4 N4 off4 hpos2
    have nD : @Ne Nat ln D := off4 _ (.head _)
    have hpos3 : 0 < tk2 := hpos2
    clear hpos2
    k_steps
    refine ⟨?_⟩
    rename Fr g L _ _ => F5
    rename News g L _ _ => N5
    refine dict_lit_E F5 N5 (Top.nolimit TT) rfl rfl (List.cons_ne_nil _ _) (by decide) ?_
    intro D2 h3 oD F6 N6 l6 lo
    clear F5 N5
    k_steps
    refine ⟨[(Str.ofString "&quot;", _, .str (Str.ofString "\"") _), (Str.ofString "&#10;", _, .str (Str.ofString "\n") _), (Str.ofString "&#13;", _, .str (Str.ofString "\r") _), (Str.ofString "&#9;", _, .str (Str.ofString "\t") _)], rfl, of_decide_eq_true (by first | rfl | kernel_rfl!), Nat.le_of_ble_eq_true rfl, rfl, fun h4 oD2 F7 N7 hd2 => ?_⟩
    refine cps_EEEEEEEEAAAAAAAA ((⟨_, _, _, _, _, _, _, _, hd2, by walk_at "X pos", by walk_at "X pos", by walk_at "X pos", by walk_at "X pos", by walk_at "X pos", by walk_at "X pos", by walk_at "X pos", by walk_at "X pos"⟩) : ∃ a1 b1 a2 b2 a3 b3 a4 b4 : Tok, Ent w oD2 (refs4 a1 b1 a2 b2 a3 b3 a4 b4) ∧ @LT.lt Nat _ 0 a1 ∧ @LT.lt Nat _ 0 a2 ∧ @LT.lt Nat _ 0 a3 ∧ @LT.lt Nat _ 0 a4 ∧ @LT.lt Nat _ a1 b1 ∧ @LT.lt Nat _ a2 b2 ∧ @LT.lt Nat _ a3 b3 ∧ @LT.lt Nat _ a4 b4) ?_
    intro a1 b1 a2 b2 a3 b3 a4 b4 hd2 p1 p2 p3 p4 q1 q2 q3 q4
    clear F6 N6
    k_steps
    refine ⟨?_⟩
    have l7 : @Ne Nat ln D2 := Nat.ne_of_lt (l6 _ (.tail _ (.tail _ (.head _))))
    have l8 : @Ne Nat D D2 := Nat.ne_of_lt (l6 _ (.tail _ (.head _)))
    refine use_call (n + 20) B F7 N7 X TT ⟨by omega, by omega⟩ (fun b' A' C1 kb1 n1 => une_spec C1 kb1 ⟨(N7 _ (.head _)).1, n1 _ (.head _)⟩ hd2 lo p1 q1 p2 q2 p3 q3 p4 q4 q hq6) (fun _ h => nomatch h) ?_ rfl
    rintro v h5 tk5 F8 k8 ⟨t5, rfl⟩
    have N8 : News g L h5 [(D, W.listOf #[] lp2), (ln, W.listOf vs.toArray lp)] := fun p hp => ⟨k8 _ _ (N7 p (.tail _ (.tail _ hp))).1 (fun h => nomatch h), (N7 p (.tail _ (.tail _ hp))).2⟩
    clear F7 N7
    k_steps
    dsimp only
    show Qt _ _
    refine hQt _ _ ?_
    rename Fr g L _ _ => F9
    rename News g L _ _ => N9
    rw [List.push_toArray] at N9
    refine ⟨_, _, _, [(ln, W.listOf (vs ++ [Value.str q t5]).toArray (lp + 1))], r.length, rfl, F9, fun p hp => List.mem_singleton.mp hp ▸ N9 _ (.tail _ (.head _)), Nat.lt_succ_self _, done ++ [(pp, q)], r, p', _, _, _, _, vs ++ [Value.str q t5], lp + 1, (by rw [List.append_assoc]; rfl), rfl, hp3, nm_map, rfl, ?_⟩
    rw [List.map_append]
    exact strs_snoc hvs q t5
set_option maxHeartbeats 8000000 in
theorem names_spec {w : World} {A : Around} {b : Heap} {s : Shared} {n : Nat} {T : Str} {t : Tok} {tail : List Nat} {segs : List (List Nat × Str)}
   (C : Cx w (n + 40) A b) (kb : b.StaysIn s.heap) (hT : T.cps.toList = Mine.body segs tail) (hTl : T.length ≤ 4000) (hno : ∀ x ∈ segs, 61 ∉ x.1) (hnt : 61 ∉ tail) (hsix : ∀ x ∈ segs, x.2 ∈ six) (hsl : segs.length ≤ 30) :
   codeAny (model PP w) A (.call (.ref 192) ⟨[.str T t], []⟩) (Ret s [] fun v h' => ∃ ln vs lp, v = .ref ln ∧ h'.get? ln = some (W.listOf vs.toArray lp) ∧ s.heap.get? ln = none ∧ StrsAre vs (segs.map (·.2))) s := by
  have hn : ∀ p ∈ ([] : List (Addr × Obj)), s.heap.get? p.1 = some p.2 ∧ b.get? p.1 = none := fun _ h => nomatch h
  have X0 := C.kin.keeps kb
  with_reducible refine hide ?_
  intro GG hGG
  obtain ⟨p0, i0⟩ : ∃ p0, Txt.find T (Str.ofString "=") = p0 := ⟨_, rfl⟩
  with_reducible refine hGG ?_
  clear hGG GG
  have hp : Here T p0 tail segs := by rw [← i0, show Str.ofString "=" = ⟨#[61]⟩ from by kernel_rfl]; exact here_start hT hno hnt
  walk_at "M enter"
  intro g h₁ base outer d u loose mean mg mb F N B X TT bg hd hu hg gs ll kh
  dsimp only
  k_fold
  have hgk : ∀ x o, s.heap.get? x = some o → g.get? x = some o := fun x o e => hg x o e fun h => nomatch h
  k_steps
  refine ⟨?_⟩
  rename Fr g _ _ _ => F1
  rename News g _ _ _ => N1
  have hfr : ∀ {x : Addr} {o : Obj} {h' : Heap} {lst : List (Addr × Obj)}, News g s.heap.objs.size h' ((x, o) :: lst) → s.heap.get? x = none := fun {x o h' lst} N => by
    cases e : s.heap.get? x with
    | none => rfl
    | some o' =>
      have e1 := hgk _ _ e
      rw [(N _ (.head _)).2.2] at e1; cases e1
  refine' names_while (n := n) (T := T) (t := t) (p0 := p0) (pt := ?pt) B X TT (by omega) (by omega) hTl hp hno hnt hsix hsl (fr_congr F1 ?m) N1 ?q
  case m =>
    intro y
    unfold nmm
    by_cases h1 : y = Str.ofString "pos"
    · rw [if_pos h1, if_pos h1]
    · rw [if_neg h1, if_neg h1]
      refine Eq.trans (b := if y = Str.ofString "names" then some (Value.ref _) else List.lookup y [(Str.ofString "text", Value.str T t)]) (by with_unfolding_all rfl) ?_
      rw [lookup_one]
      by_cases h2 : y = Str.ofString "names"
      · have a : ¬ y = Str.ofString "end" := by rw [h2]; decide
        have b : ¬ y = Str.ofString "name" := by rw [h2]; decide
        have c : ¬ y = Str.ofString "bare" := by rw [h2]; decide
        simp only [if_pos h2, if_neg a, if_neg b, if_neg c]
      by_cases h3 : y = Str.ofString "text"
      · have a : ¬ y = Str.ofString "end" := by rw [h3]; decide
        have b : ¬ y = Str.ofString "name" := by rw [h3]; decide
        have c : ¬ y = Str.ofString "bare" := by rw [h3]; decide
        simp only [if_neg h2, if_pos h3, if_neg a, if_neg b, if_neg c]
      · simp only [if_neg h2, if_neg h3, ite_self]
  intro h' tk' p pt e1 e2 e3 vs lp F2 N2 hvs
  have hln := hfr N2
  clear F1 N1
  k_steps
  dsimp only
  exact ⟨_, _, _, rfl, rfl, fun x o e _ => F2.keep _ _ (hgk x o e), _, vs, lp, rfl, (N2 _ (.head _)).1, hln, hvs⟩
end

section
section
variable {w : World} {A : Around} {E : Value → Shared → Prop} {s : Shared}
theorem newEnv_in {scope : Scope} {globals : Addr} {cl : List (Str × Addr)} {qual : Str} {env : Env} {Q : Env → Shared → Prop}
    (h : Q { scope := scope, locals := s.heap.objs.size, globals := globals, cells := cellsFrom (s.heap.objs.size + 1) scope.names cl, qual := qual, func := none, code := env.code, frame := env.frame, builtins := env.builtins }
      { s with heap := pushCells (s.heap.push { cls := .type "dict", data := .dict #[] }) scope.names }) :
    wpAny (model PP w) A (newFunctionEnv scope globals cl [] qual none .none (some env)) Q E s := by
  simp only [newFunctionEnv, Option.isSome_some, if_true]
  refine wpAny_bind (wpAny_alloc ?_)
  refine wpAny_bind (wpAny_layCells _ (fun name kind cells => by cases hkc : kind == NameKind.cell <;> simp [hkc]) _ _ _ _ ?_)
  rw [show ({ s with heap := s.heap.push { cls := .type "dict", data := .dict #[] } } : Shared).heap.objs.size = s.heap.objs.size + 1 from Heap.size_push ..]
  rw [List.forIn_nil]
  exact wpAny_bind (wpAny_pure (wpAny_pure h))

theorem compLoop_M {elt target iter : Expr} {ifs : List Expr} {scope : Scope} {pos : Pos} {it acc : Value} {env : Env} {R : Result → Shared → Prop} (I : Nat → Shared → Prop)
    (turn : ∀ n s, I n s → wpAny (model PP w) A (pyNext it) (fun r s₁ => match r with
      | none => R (.ok .next) s₁
      | some v => wpAny (model PP w) A (letOwnedTupleGo target it v) (fun _ s₁' => wpAny (model PP w) A (assign target env v) (fun _ s₂ =>
          wpAny (model PP w) A (forIn ifs true fun c r => if r = true then do let ok ← isTrue c env (eval c env); pure (ForInStep.yield ok) else pure (ForInStep.yield r)) (fun ok s₃ =>
            if ok = true then wpAny (model PP w) A (eval elt env) (fun x s₄ =>
              wpAny (model PP w) A (call (.builtin "list.append") [acc, x]) (fun _ s₅ => ∃ m, m < n ∧ I m s₅) (fun _ _ => False) s₄) (fun _ _ => False) s₃
            else ∃ m, m < n ∧ I m s₃) (fun _ _ => False) s₂) (fun _ _ => False) s₁') (fun _ _ => False) s₁) (fun _ _ => False) s)
    (n : Nat) (h : I n s) : codeAny (model PP w) A (.compLoop (.ListComp elt [⟨target, iter, ifs, 0⟩] scope pos) 0 it acc env) R s := by
  refine codeAny_loop rfl I (fun n s hI => ?_) n h
  show wpAny _ A ((compTurn (.ListComp elt [⟨target, iter, ifs, 0⟩] scope pos) 0 it acc env).onRaise (fun x => do noteFrame x env; theTreesLotGoes x)) _ _ s
  refine wpAny_noted ?_
  rw [compTurn_list]
  refine wpAny_bind (wpAny_standAt (wpAny_bind (wpAny_mono (turn n s hI) (fun r s₁ h₁ => ?_) fun _ _ h' => h'.elim)))
  cases r with
  | none => exact wpAny_pure h₁
  | some v =>
    refine wpAny_bind (wpAny_mono h₁ (fun _ s₁' h₁' => ?_) fun _ _ h' => h'.elim)
    refine wpAny_bind (wpAny_mono h₁' (fun _ s₂ h₂ => wpAny_bind (wpAny_mono h₂ (fun ok s₃ h₃ => ?_) fun _ _ h' => h'.elim)) fun _ _ h' => h'.elim)
    cases ok with
    | false => exact wpAny_pure ⟨rfl, h₃⟩
    | true =>
      exact wpAny_bind (wpAny_bind (wpAny_mono h₃ (fun x s₄ h₄ => wpAny_bind (wpAny_mono h₄ (fun _ s₅ h₅ => wpAny_pure (wpAny_pure ⟨rfl, h₅⟩)) fun _ _ h' => h'.elim)) fun _ _ h' => h'.elim))
end
noncomputable def ownc (C : Addr) (scope : Scope) : List Addr := (cellsFrom (C + 1) scope.names []).map (·.2)
noncomputable def Priv (C : Addr) (scope : Scope) (h : Heap) : Prop := (∃ m, h.Ns C m) ∧ ∀ c ∈ ownc C scope, ∃ v, h.IsCell c v
noncomputable def TEnd (g : Heap) (L : Addr) (m : Str → Option Value) (news₀ : List (Addr × Obj)) (C : Addr) (scope : Scope) (oth : List (Addr × Obj)) (G : Option Value → List (Addr × Obj) → Prop) (s : Shared) (y : Option Value) (s' : Shared) : Prop :=
  Stop (∃ h' tk' os, s' = { s with heap := h', toks := tk' } ∧ Fr g L h' m ∧ News g L h' (news₀ ++ oth) ∧ News g L h' os ∧ Priv C scope h' ∧ (∀ p ∈ os, p.1 ∉ C :: ownc C scope ∧ ∀ q ∈ oth, p.1 ≠ q.1) ∧ G y os)
theorem filterMap_snoc {es : List (Value × Option Value × List (Addr × Obj))} {e : Value × Option Value × List (Addr × Obj)} : (es ++ [e]).filterMap (·.2.1) = es.filterMap (·.2.1) ++ e.2.1.toList := by
  rw [List.filterMap_append]
  refine congrArg (es.filterMap (·.2.1) ++ ·) ?_
  with_reducible refine hide ?_
  intro GG hGG
  obtain ⟨v, y, os⟩ := e
  with_reducible refine hGG ?_
  clear hGG GG
  cases y <;> rfl
theorem flatMap_snoc {es : List (Value × Option Value × List (Addr × Obj))} {e : Value × Option Value × List (Addr × Obj)} : (es ++ [e]).flatMap (·.2.2) = es.flatMap (·.2.2) ++ e.2.2 := by
  rw [List.flatMap_append]; simp
theorem Priv.change {C : Addr} {scope : Scope} {h h' : Heap} {a : Addr} (hp : Priv C scope h) (ha : a ∉ C :: ownc C scope) (k : ∀ b o, b ≠ a → h.get? b = some o → h'.get? b = some o) : Priv C scope h' :=
  ⟨let ⟨m, hm⟩ := hp.1; ⟨m, hm.at' fun o e => k _ o (fun q => ha (q ▸ .head _)) e⟩, fun c hc => let ⟨v, o, e, x⟩ := hp.2 c hc; ⟨v, o, k _ _ (fun q => ha (q ▸ .tail _ hc)) e, x⟩⟩
theorem news_but1 {g h h' : Heap} {L I : Addr} {news : List (Addr × Obj)} (N : News g L h news) (off : ∀ p ∈ news, p.1 ≠ I) (k : ∀ b o, b ≠ I → h.get? b = some o → h'.get? b = some o) : News g L h' news :=
  fun p hp => ⟨k _ _ (off p hp) (N p hp).1, (N p hp).2⟩
section
variable {w : World} {A : Around} {E : Value → Shared → Prop} {s : Shared}
theorem comp_loopM {elt target iter : Expr} {ifs : List Expr} {scope scope' : Scope} {pos : Pos} {cenv : Env} {R : Result → Shared → Prop} {g : Heap} {L I C D : Addr} {fp : List Addr} {n : Nat} {P : Nat → Value → Prop} {St : Nat → Heap → Prop} {m : Str → Option Value} {news₀ : List (Addr × Obj)}
    (W : Walks PP w A I fp [I] n P St) (hsz : n ≤ sizeLine) (G : Value → Option Value → List (Addr × Obj) → Prop)
    (hI : I ≠ L ∧ g.get? I = none) (hDL : D ≠ L ∧ g.get? D = none) (hID : I ≠ D) (hIC : I ∉ C :: ownc C scope) (hDC : D ∉ C :: ownc C scope) (offI : ∀ p ∈ news₀, p.1 ≠ I) (offD : ∀ p ∈ news₀, p.1 ≠ D)
    (hlive : ∀ i h, St i h → ∃ o, h.get? I = some o) (hSt : ∀ i h h' o, St i h → h.get? I = some o → h'.get? I = some o → Fr g L h' m → News g L h' news₀ → St i h')
    (st : St 0 s.heap) (F : Fr g L s.heap m) (N : News g L s.heap news₀) (hacc : s.heap.get? D = some (LCg.lst [])) (hp : Priv C scope s.heap)
    (turn : ∀ i v s₃ oth, i < n → P i v → St (i + 1) s₃.heap → Priv C scope s₃.heap → Fr g L s₃.heap m → News g L s₃.heap (news₀ ++ oth) → (∀ p ∈ oth, p.1 ∉ C :: ownc C scope) →
      wpAny (model PP w) A (letOwnedTupleGo target (.ref I) v) (fun _ s₄ => wpAny (model PP w) A (assign target cenv v) (fun _ s₅ =>
        wpAny (model PP w) A (forIn ifs true fun c r => if r = true then do let ok ← isTrue c cenv (eval c cenv); pure (ForInStep.yield ok) else pure (ForInStep.yield r)) (fun ok s₆ =>
          if ok = true then wpAny (model PP w) A (eval elt cenv) (fun y s₇ => TEnd g L m news₀ C scope oth (G v) s₃ (some y) s₇) (fun _ _ => False) s₆ else TEnd g L m news₀ C scope oth (G v) s₃ none s₆) (fun _ _ => False) s₅) (fun _ _ => False) s₄) (fun _ _ => False) s₃)
    (done : ∀ h tk (es : List (Value × Option Value × List (Addr × Obj))), Fr g L h m → News g L h ((D, LCg.lst (es.filterMap (·.2.1))) :: (news₀ ++ es.flatMap (·.2.2))) → (∀ p ∈ es.flatMap (·.2.2), p.1 ∉ C :: ownc C scope ∧ p.1 ≠ D) → es.length = n → Priv C scope h →
      (∀ j e, es[j]? = some e → P j e.1 ∧ G e.1 e.2.1 e.2.2) → R (.ok .next) { s with heap := h, toks := tk }) :
    codeAny (model PP w) A (.compLoop (.ListComp elt [⟨target, iter, ifs, 0⟩] scope' pos) 0 (.ref I) (.ref D) cenv) R s := by
  refine compLoop_M (fun k s' => ∃ h tk, ∃ es : List (Value × Option Value × List (Addr × Obj)), s' = { s with heap := h, toks := tk } ∧ es.length ≤ n ∧ k = n + 1 - es.length ∧ St es.length h ∧ Fr g L h m ∧ News g L h ((D, LCg.lst (es.filterMap (·.2.1))) :: (news₀ ++ es.flatMap (·.2.2))) ∧
    (∀ p ∈ es.flatMap (·.2.2), p.1 ∉ C :: ownc C scope ∧ p.1 ≠ D ∧ p.1 ≠ I) ∧ Priv C scope h ∧ (∀ j e, es[j]? = some e → P j e.1 ∧ G e.1 e.2.1 e.2.2)) ?_ (n + 1)
    ⟨s.heap, s.toks, [], rfl, Nat.zero_le _, rfl, st, F, List.forall_mem_cons.mpr ⟨⟨hacc, hDL⟩, fun p hp => N p (by simpa using hp)⟩, (fun _ h => nomatch h), hp, fun j e h => by simp at h⟩
  clear F N hacc hp st
  intro k s' hXX
  refine cps_EEEAAAAAAAA hXX ?_
  rintro h tk es rfl hl rfl st F N hos hp hP
  clear hXX
  have offAll : ∀ p ∈ (D, LCg.lst (es.filterMap (·.2.1))) :: (news₀ ++ es.flatMap (·.2.2)), p.1 ≠ I := fun p hpp => by
    rcases List.mem_cons.mp hpp with rfl | hpp
    · exact Ne.symm hID
    rcases List.mem_append.mp hpp with hpp | hpp
    · exact offI p hpp
    · exact (hos p hpp).2.2
  by_cases hlt : es.length < n
  · refine W.item es.length _ _ _ hlt st fun v h₁ tk₁ hPv st₁ hk₁ => ?_
    have k₁ : ∀ b o, b ≠ I → h.get? b = some o → h₁.get? b = some o := fun b o hb e => hk₁ b o (fun q => hb (List.mem_singleton.mp q)) e
    have F₁ := fr_but1 F hI.1 hI.2 k₁
    have N₁ := news_but1 N offAll k₁
    have hp₁ := hp.change hIC k₁
    obtain ⟨oI, eI⟩ := hlive _ _ st₁
    have fin : ∀ (y : Option Value) (s₇ : Shared), TEnd g L m news₀ C scope ((I, oI) :: (D, LCg.lst (es.filterMap (·.2.1))) :: es.flatMap (·.2.2)) (G v) { s with heap := h₁, toks := tk₁ } y s₇ → ∃ h' tk' os, s₇ = { s with heap := h', toks := tk' } ∧ St (es.length + 1) h' ∧ Fr g L h' m ∧
        News g L h' ((D, LCg.lst (es.filterMap (·.2.1))) :: (news₀ ++ (es.flatMap (·.2.2) ++ os))) ∧ (∀ p ∈ es.flatMap (·.2.2) ++ os, p.1 ∉ C :: ownc C scope ∧ p.1 ≠ D ∧ p.1 ≠ I) ∧ Priv C scope h' ∧ G v y os ∧ (∃ o, h'.get? I = some o) := by
      intro y s₇ z
      refine cps_EEEAAAAAA (z.go) ?_
      rintro h' tk' os rfl F' N' No hp' ho hG
      have NI := N' (I, oI) (List.mem_append_right _ (.head _))
      have ND := N' (D, _) (List.mem_append_right _ (.tail _ (.head _)))
      refine ⟨h', tk', os, rfl, hSt _ _ _ _ st₁ eI NI.1 F' fun p hpp => N' p (List.mem_append_left _ hpp), F', List.forall_mem_cons.mpr ⟨ND, fun p hpp => ?_⟩, fun p hpp => ?_, hp', hG, ⟨_, NI.1⟩⟩
      · rcases List.mem_append.mp hpp with hpp | hpp
        · exact N' p (List.mem_append_left _ hpp)
        rcases List.mem_append.mp hpp with hpp | hpp
        · exact N' p (List.mem_append_right _ (.tail _ (.tail _ hpp)))
        · exact No p hpp
      · rcases List.mem_append.mp hpp with hpp | hpp
        · exact hos p hpp
        · exact ⟨(ho p hpp).1, (ho p hpp).2 _ (.tail _ (.head _)), (ho p hpp).2 _ (.head _)⟩
    have more : ∀ (y : Option Value) (os : List (Addr × Obj)), G v y os → ∀ j e, (es ++ [(v, y, os)])[j]? = some e → P j e.1 ∧ G e.1 e.2.1 e.2.2 := by
      intro y os hG j e hj
      rcases Nat.lt_trichotomy j es.length with h | h | h
      · exact hP j e (by rwa [List.getElem?_append_left h] at hj)
      · subst h; simp at hj; subst hj; exact ⟨hPv, hG⟩
      · have hnone : (es ++ [(v, y, os)])[j]? = none := List.getElem?_eq_none (by rw [List.length_append, List.length_singleton]; omega)
        rw [hnone] at hj; cases hj
    have turn₁ := turn es.length v { s with heap := h₁, toks := tk₁ } ((I, oI) :: (D, LCg.lst (es.filterMap (·.2.1))) :: es.flatMap (·.2.2)) hlt hPv st₁ hp₁ F₁ (fun p hpp => by
      rcases List.mem_append.mp hpp with hpp | hpp
      · exact N₁ p (.tail _ (List.mem_append_left _ hpp))
      rcases List.mem_cons.mp hpp with rfl | hpp
      · exact ⟨eI, hI⟩
      rcases List.mem_cons.mp hpp with rfl | hpp
      · exact N₁ _ (.head _)
      · exact N₁ p (.tail _ (List.mem_append_right _ hpp))) (fun p hpp => by
      rcases List.mem_cons.mp hpp with rfl | hpp
      · exact hIC
      rcases List.mem_cons.mp hpp with rfl | hpp
      · exact hDC
      · exact (hos p hpp).1)
    refine wpAny_mono turn₁ (fun _ s₄ z => wpAny_mono z (fun _ s₅ z => wpAny_mono z (fun ok s₆ z => ?_) fun _ _ z => z) fun _ _ z => z) fun _ _ z => z
    cases ok with
    | true =>
      simp only [if_true] at z ⊢
      refine wpAny_mono z (fun y s₇ z => ?_) fun _ _ z => z
      refine cps_EEEAAAAAAA (fin _ _ z) ?_
      rintro h' tk' os rfl st' F' N' ho hp' hG ⟨oI', eI'⟩
      have ND := N' _ (.head _)
      refine append_at (hsz := by
        show (es.filterMap (·.2.1)).toArray.size ≤ sizeLine
        rw [List.size_toArray]
        exact Nat.le_trans (List.length_filterMap_le _ _) (Nat.le_trans hl hsz)) ND.1 fun h₂ hs₂ hD₂ => ?_
      have k₂ : ∀ b o, b ≠ D → h'.get? b = some o → h₂.get? b = some o := fun b o hb e => hs₂.extBut b o hb e
      have F₂ := fr_but1 F' hDL.1 hDL.2 k₂
      have offD' : ∀ p ∈ news₀ ++ (es.flatMap (·.2.2) ++ os), p.1 ≠ D := fun p hpp => (List.mem_append.mp hpp).elim (offD p) fun hpp => (ho p hpp).2.1
      have N₂ := news_but1 (fun p hpp => N' p (.tail _ hpp)) offD' k₂
      refine ⟨n + 1 - (es.length + 1), sb1 hlt, h₂, tk', es ++ [(v, some y, os)], rfl, by rw [List.length_append, List.length_singleton]; omega, by rw [List.length_append, List.length_singleton], ?_, F₂, ?_, ?_, hp'.change hDC k₂, more _ _ hG⟩
      · rw [List.length_append, List.length_singleton]
        exact hSt _ _ _ _ st' eI' (k₂ _ _ hID eI') F₂ fun p hpp => N₂ p (List.mem_append_left _ hpp)
      · rw [filterMap_snoc, flatMap_snoc]
        exact List.forall_mem_cons.mpr ⟨⟨hD₂.trans (congrArg some (LCg.lst_snoc _ y)), hDL⟩, N₂⟩
      · rw [flatMap_snoc]; exact ho
    | false =>
      simp only [Bool.false_eq_true, if_false] at z ⊢
      refine cps_EEEAAAAAAA (fin _ _ z) ?_
      rintro h' tk' os rfl st' F' N' ho hp' hG _
      refine ⟨n + 1 - (es.length + 1), sb1 hlt, h', tk', es ++ [(v, none, os)], rfl, by rw [List.length_append, List.length_singleton]; omega, by rw [List.length_append, List.length_singleton], ?_, F', ?_, ?_, hp', more _ _ hG⟩
      · rw [List.length_append, List.length_singleton]; exact st'
      · rw [filterMap_snoc, flatMap_snoc]
        show News g L h' ((D, LCg.lst (_ ++ [])) :: _)
        rw [List.append_nil]; exact N'
      · rw [flatMap_snoc]; exact ho
  · have hin : es.length = n := by omega
    rw [hin] at st
    refine W.done _ _ _ st fun h₁ tk₁ hk₁ => ?_
    have k₁ : ∀ b o, b ≠ I → h.get? b = some o → h₁.get? b = some o := fun b o hb e => hk₁ b o (fun q => hb (List.mem_singleton.mp q)) e
    exact done h₁ tk₁ es (fr_but1 F hI.1 hI.2 k₁) (news_but1 N offAll k₁) (fun p hpp => ⟨(hos p hpp).1, (hos p hpp).2.1⟩) hin (hp.change hIC k₁) hP

theorem comp_M {target elt iter : Expr} {ifs : List Expr} {scope : Scope} {cl : List (Str × Addr)} {pos : Pos} {env : Env} {Q : Value → Shared → Prop} {g : Heap} {L : Addr} {m : Str → Option Value}
    (_F₀ : Fr g L s.heap m) (hclos : closureFor scope env = pure cl) (hkind : scope.kind = .function) (hnames : ∀ y ∈ scope.names, y.2 = .local → scope.names.lookup y.1 = some .local) (G : Value → Option Value → List (Addr × Obj) → Prop)
    (h : wpAny (model PP w) A (eval iter env) (fun xv s₁ => wpAny (model PP w) A (pyIter xv) (fun it s₂ => ∃ (I : Addr) (fp : List Addr) (n : Nat) (P : Nat → Value → Prop) (St : Nat → Heap → Prop) (news₀ : List (Addr × Obj)), it = .ref I ∧ Walks PP w A I fp [I] n P St ∧ n ≤ sizeLine ∧ St 0 s₂.heap ∧ Fr g L s₂.heap m ∧ News g L s₂.heap news₀ ∧
      (I ≠ L ∧ g.get? I = none) ∧ (∀ p ∈ news₀, p.1 ≠ I) ∧ (∀ i h, St i h → ∃ o, h.get? I = some o) ∧ (∀ i h h' o, St i h → h.get? I = some o → h'.get? I = some o → Fr g L h' m → News g L h' news₀ → St i h') ∧
      (∀ (C : Addr) i v s₃ oth, (∀ c ∈ C :: ownc C scope, c ≠ L ∧ g.get? c = none ∧ ∀ p ∈ news₀ ++ oth, p.1 ≠ c) → i < n → P i v → St (i + 1) s₃.heap → Priv C scope s₃.heap → Fr g L s₃.heap m → News g L s₃.heap (news₀ ++ oth) →
        wpAny (model PP w) A (letOwnedTupleGo target (.ref I) v) (fun _ s₄ => wpAny (model PP w) A (assign target (compEnvC scope (cellsFrom (C + 1) scope.names cl) C env) v) (fun _ s₅ =>
          wpAny (model PP w) A (forIn ifs true fun c r => if r = true then do let ok ← isTrue c (compEnvC scope (cellsFrom (C + 1) scope.names cl) C env) (eval c (compEnvC scope (cellsFrom (C + 1) scope.names cl) C env)); pure (ForInStep.yield ok) else pure (ForInStep.yield r)) (fun ok s₆ =>
            if ok = true then wpAny (model PP w) A (eval elt (compEnvC scope (cellsFrom (C + 1) scope.names cl) C env)) (fun y s₇ => TEnd g L m news₀ C scope oth (G v) s₃ (some y) s₇) (fun _ _ => False) s₆ else TEnd g L m news₀ C scope oth (G v) s₃ none s₆) (fun _ _ => False) s₅) (fun _ _ => False) s₄) (fun _ _ => False) s₃) ∧
      (∀ (D : Addr) h' tk (es : List (Value × Option Value × List (Addr × Obj))), Fr g L h' m → News g L h' ((D, LCg.lst (es.filterMap (·.2.1))) :: (news₀ ++ es.flatMap (·.2.2))) → (∀ p ∈ news₀ ++ es.flatMap (·.2.2), p.1 ≠ D) → es.length = n → (∀ j e, es[j]? = some e → P j e.1 ∧ G e.1 e.2.1 e.2.2) →
        (∀ b o, s₂.heap.get? b = some o → b ≠ D) → Q (.ref D) { s₂ with heap := h', toks := tk })) E s₁) E s)
    (hs : ∀ x, foldedSetIterable iter env x = pure x := by intro _; rfl) :
    wpAny (model PP w) A (eval (.ListComp elt [⟨target, iter, ifs, 0⟩] scope pos) env) Q E s := by
  rw [eval_ListComp]
  refine wpAny_comprehension_free (use := none) rfl hs hclos hkind hnames (wpAny_mono h (fun xv s₁ h₁ => wpAny_mono h₁ (fun it s₂ h₂ => ?_) fun _ _ e => e) fun _ _ e => e)
  refine cps_EEEEEEAAAAAAAAAAA h₂ ?_
  rintro I fp n P St news₀ rfl W hsz st F N hI offI hlive hSt turn done
  clear h₂
  refine wpAny_newObj_type (newEnv_in ?_)
  dsimp only
  generalize hH2 : s₂.heap.push { cls := .type "list", dict := none, data := .seq ([] : List Value).toArray } = H2
  have hCs : H2.objs.size = s₂.heap.objs.size + 1 := by rw [← hH2, Heap.size_push]
  have hH3 : (H2.push { cls := .type "dict", data := .dict #[] }).objs.size = H2.objs.size + 1 := Heap.size_push ..
  have up2 : ∀ b o, s₂.heap.get? b = some o → H2.get? b = some o := fun b o e => hH2 ▸ Heap.get?_push_of_some _ e
  have up3 : ∀ b o, H2.get? b = some o → (pushCells (H2.push { cls := .type "dict", data := .dict #[] }) scope.names).get? b = some o := fun b o e => pushCells_keeps _ _ b o (Heap.get?_push_of_some _ e)
  have ok := cellsFrom_ok scope.names (H2.push { cls := .type "dict", data := .dict #[] }) (H2.objs.size + 1) [] ⟨fun _ _ hm => (nomatch hm), List.Pairwise.nil⟩ (Nat.le_of_eq hH3.symm)
  rw [hH3] at ok
  have hns : (pushCells (H2.push { cls := .type "dict", data := .dict #[] }) scope.names).Ns H2.objs.size fun _ => none := (Heap.Ns.new H2 (.type "dict")).keeps (pushCells_keeps _ _)
  generalize hh₁ : pushCells (H2.push { cls := .type "dict", data := .dict #[] }) scope.names = h₁ at ok hns up3 ⊢
  have lo : ∀ c ∈ H2.objs.size :: ownc H2.objs.size scope, H2.objs.size ≤ c := fun c hc => by
    rcases List.mem_cons.mp hc with rfl | hc
    · exact Nat.le_refl _
    · with_reducible refine hide ?_
      intro GG hGG
      obtain ⟨⟨x, c'⟩, hm, rfl⟩ := List.mem_map.mp hc
      with_reducible refine hGG ?_
      clear hGG GG
      exact Nat.le_of_succ_le (ok.empty x c' hm).2
  have hp : Priv H2.objs.size scope h₁ := ⟨⟨_, hns⟩, fun c hc => by
    with_reducible refine hide ?_
    intro GG hGG
    obtain ⟨⟨x, c'⟩, hm, rfl⟩ := List.mem_map.mp hc
    with_reducible refine hGG ?_
    clear hGG GG
    exact ⟨_, (ok.empty x c' hm).1⟩⟩
  have hDlt : s₂.heap.objs.size < H2.objs.size := by rw [hCs]; exact Nat.lt_succ_self _
  have lt2 : ∀ b o, s₂.heap.get? b = some o → b < s₂.heap.objs.size := fun b o e => Heap.lt_size e
  have hacc : h₁.get? s₂.heap.objs.size = some (LCg.lst []) := up3 _ _ (hH2 ▸ Heap.get?_push_size _ rfl)
  have old : ∀ b o, s₂.heap.get? b = some o → h₁.get? b = some o := fun b o e => up3 _ _ (up2 _ _ e)
  have st₁ : St 0 h₁ := W.frame _ _ _ st fun b _ o e => old b o e
  obtain ⟨oI, eI⟩ := hlive _ _ st
  have hIlt : I < s₂.heap.objs.size := lt2 _ _ eI
  have hLlt : L < s₂.heap.objs.size := F.ns.lt
  have fresh : ∀ a, s₂.heap.objs.size ≤ a → g.get? a = none := fun a ha => by
    cases e : g.get? a with
    | none => rfl
    | some o' => exact absurd (lt2 _ _ (F.keep a o' e)) (Nat.not_lt.mpr ha)
  have hDL : s₂.heap.objs.size ≠ L ∧ g.get? s₂.heap.objs.size = none := ⟨Nat.ne_of_gt hLlt, fresh _ (Nat.le_refl _)⟩
  have hCL : ∀ c ∈ H2.objs.size :: ownc H2.objs.size scope, c ≠ L ∧ g.get? c = none := fun c hc => ⟨Nat.ne_of_gt (Nat.lt_of_lt_of_le (Nat.lt_trans hLlt hDlt) (lo c hc)), fresh c (Nat.le_trans (Nat.le_of_lt hDlt) (lo c hc))⟩
  have low : ∀ {b : Addr}, b < H2.objs.size → b ∉ H2.objs.size :: ownc H2.objs.size scope := fun {b} hb q => absurd (lo b q) (Nat.not_le.mpr hb)
  have loop : ∀ s₃ : Shared, s₃ = { s₂ with heap := h₁ } →
      codeAny (model PP w) A (.compLoop (.ListComp elt [⟨target, iter, ifs, 0⟩] scope pos) 0 (.ref I) (.ref s₂.heap.objs.size) (compEnvC scope (cellsFrom (H2.objs.size + 1) scope.names cl) H2.objs.size env))
        (compPost (model PP w) A E none Q (.ref s₂.heap.objs.size) H2.objs.size) s₃ := by
    rintro s₃ rfl
    refine comp_loopM (scope := scope) W hsz G hI hDL (Nat.ne_of_lt hIlt) (low (Nat.lt_trans hIlt hDlt)) (low hDlt) offI (fun p hpp => Nat.ne_of_lt (lt2 _ _ (N p hpp).1)) hlive hSt st₁ (F.keeps old) (N.grown old) hacc hp
      (fun i v s₃ oth hi hP hst hpr F' N' ho => turn H2.objs.size i v s₃ oth (fun c hc => ⟨(hCL c hc).1, (hCL c hc).2, fun p hpp => ?_⟩) hi hP hst hpr F' N') (fun h' tk es F' N' ho hlen hpr hP => ?_)
    · rcases List.mem_append.mp hpp with hpp | hpp
      · exact fun q => low (Nat.lt_trans (lt2 _ _ (N p hpp).1) hDlt) (q ▸ hc)
      · exact fun q => ho p hpp (q ▸ hc)
    · with_reducible refine hide ?_
      intro GG hGG
      obtain ⟨⟨m', hm'⟩, hcs⟩ := hpr
      with_reducible refine hGG ?_
      clear hGG GG
      have nC := hCL _ (.head _)
      have offC : ∀ p ∈ (s₂.heap.objs.size, LCg.lst (es.filterMap (·.2.1))) :: (news₀ ++ es.flatMap (·.2.2)), p.1 ≠ H2.objs.size := fun p hpp => by
        rcases List.mem_cons.mp hpp with rfl | hpp
        · exact Nat.ne_of_lt hDlt
        rcases List.mem_append.mp hpp with hpp | hpp
        · exact Nat.ne_of_lt (Nat.lt_trans (lt2 _ _ (N p hpp).1) hDlt)
        · exact fun q => (ho p hpp).1 (q ▸ .head _)
      exact ⟨m', hm', fun h'' hs'' => done _ h'' tk es (F'.change hs'' nC.1 nC.2) (news_but1 N' offC fun b o hb e => hs''.extBut b o hb e) (fun p hpp => (List.mem_append.mp hpp).elim (fun hpp => Nat.ne_of_lt (lt2 _ _ (N p hpp).1)) fun hpp => (ho p hpp).2) hlen hP fun b o e => Nat.ne_of_lt (lt2 b o e)⟩
  exact codeAny_compStart_list (loop _ rfl) (W.self 0 _ _ _ st₁ (loop _ rfl))
end
end

section
theorem ltAll {d : Addr} : ∀ {l : List (Addr × Obj)}, AllLt d l → ∀ p ∈ l, p.1 < d
  | [], _, _, h => nomatch h
  | _ :: _, x, p, h => by
    rcases List.mem_cons.mp h with rfl | h
    · exact x.1
    · exact ltAll x.2 p h
section
variable {w : World} {A : Around} {E : Value → Shared → Prop} {g : Heap} {L C : Addr} {m : Str → Option Value} {news : List (Addr × Obj)} {scope : Scope} {cl : List (Str × Addr)} {env : Env} {s₃ : Shared} {it v : Value}
theorem fr_butC {h h' : Heap} (F : Fr g L h m) (hC : C ≠ L ∧ g.get? C = none) (k : ∀ b o, b ≠ C → h.get? b = some o → h'.get? b = some o) : Fr g L h' m := fr_but1 F hC.1 hC.2 k
theorem turn_N {x : Str} {px : Pos} {K : Unit → Shared → Prop} (hkind : scope.kind = .function) (hx : scope.names.lookup x = some .local) (hp : Priv C scope s₃.heap) (F : Fr g L s₃.heap m) (N : News g L s₃.heap news)
    (hC : ∀ c ∈ C :: ownc C scope, c ≠ L ∧ g.get? c = none ∧ ∀ p ∈ news, p.1 ≠ c) (hown : ownc C scope = [])
    (h : ∀ h₄ oC mC, LCg.NsObj oC mC → mC x = some v → Fr g L h₄ m → News g L h₄ ((C, oC) :: news) → K () { s₃ with heap := h₄, toks := s₃.toks + 1 }) :
    wpAny (model PP w) A (letOwnedTupleGo (.Name x px) it v) (fun _ s₄ => wpAny (model PP w) A (assign (.Name x px) (compEnvC scope cl C env) v) K E s₄) E s₃ := by
  with_reducible refine hide ?_
  intro GG hGG
  obtain ⟨⟨m₀, hns⟩, _⟩ := hp
  obtain ⟨c1, c2, c3⟩ := hC _ (.head _)
  with_reducible refine hGG ?_
  clear hGG GG
  refine wpAny_of_eq (a := ()) (by rfl) ?_
  refine wpAny_assign_Name (wpAny_storeName_local (lookup_relabel_local hx) hns (fun h₄ hn₄ hs₄ => ?_) (by simp [compEnvC, relabel, hkind]))
  with_reducible refine hide ?_
  intro GG hGG
  obtain ⟨oC, heC, hoC⟩ := LCg.ns_obj hn₄
  with_reducible refine hGG ?_
  clear hGG GG
  have k : ∀ b o, b ≠ C → s₃.heap.get? b = some o → h₄.get? b = some o := fun b o hb e => hs₄.extBut b o hb e
  exact h h₄ oC _ hoC (by simp) (fr_butC F ⟨c1, c2⟩ k) (List.forall_mem_cons.mpr ⟨⟨heC, c1, c2⟩, news_but1 N c3 k⟩)
theorem turn_P {x x₂ : Str} {px px₂ tp : Pos} {tk} {T I ax : Addr} {i : Nat} {v₁ v₂ : Value} {K : Unit → Shared → Prop} (hh : A.handled = none) (hkind : scope.kind = .function) (hx : scope.names.lookup x = some .local) (hx₂ : scope.names.lookup x₂ = some .local) (hxx : x ≠ x₂)
    (hit : s₃.heap.IsListIter I ax i) (ht : IsTup s₃.heap T #[v₁, v₂]) (hp : Priv C scope s₃.heap) (F : Fr g L s₃.heap m) (N : News g L s₃.heap news)
    (hC : ∀ c ∈ C :: ownc C scope, c ≠ L ∧ g.get? c = none ∧ ∀ p ∈ news, p.1 ≠ c) (hown : ownc C scope = [])
    (h : ∀ h₄ tk₄ oC mC, LCg.NsObj oC mC → mC x = some v₁ → mC x₂ = some v₂ → Fr g L h₄ m → News g L h₄ ((C, oC) :: news) → K () { s₃ with heap := h₄, toks := tk₄ }) :
    wpAny (model PP w) A (letOwnedTupleGo (.Tuple [.Name x px, .Name x₂ px₂] tk tp) (.ref I) (.ref T)) (fun _ s₄ => wpAny (model PP w) A (assign (.Tuple [.Name x px, .Name x₂ px₂] tk tp) (compEnvC scope cl C env) (.ref T)) K E s₄) E s₃ := by
  with_reducible refine hide ?_
  intro GG hGG
  obtain ⟨⟨m₀, hns⟩, _⟩ := hp
  obtain ⟨c1, c2, c3⟩ := hC _ (.head _)
  with_reducible refine hGG ?_
  clear hGG GG
  refine wpAny_letOwnedTupleGo_listiter hit ?_
  refine assign_Tuple_tuple hh ht rfl rfl fun h₅ he => ?_
  have he' : ∀ b o, s₃.heap.get? b = some o → h₅.get? b = some o := fun b o e => he b o (Nat.ne_of_lt (Heap.lt_size e)) e
  refine assignInOrder_cons (wpAny_assign_Name (wpAny_storeName_local (lookup_relabel_local hx) (hns.at' fun o e => he' _ o e) (fun h₆ hn₆ hs₆ => ?_) (by simp [compEnvC, relabel, hkind])))
  refine assignInOrder_cons (wpAny_assign_Name (wpAny_storeName_local (lookup_relabel_local hx₂) hn₆ (fun h₄ hn₄ hs₄ => ?_) (by simp [compEnvC, relabel, hkind])))
  refine assignInOrder_nil ?_
  with_reducible refine hide ?_
  intro GG hGG
  obtain ⟨oC, heC, hoC⟩ := LCg.ns_obj hn₄
  with_reducible refine hGG ?_
  clear hGG GG
  have k : ∀ b o, b ≠ C → s₃.heap.get? b = some o → h₄.get? b = some o := fun b o hb e => hs₄.extBut b o hb (hs₆.extBut b o hb (he' b o e))
  exact h h₄ _ oC _ hoC (by simp [hxx]) (by simp) (fr_butC F ⟨c1, c2⟩ k) (List.forall_mem_cons.mpr ⟨⟨heC, c1, c2⟩, news_but1 N c3 k⟩)
theorem turn_C {x : Str} {px : Pos} {K : Unit → Shared → Prop} (hkind : scope.kind = .function) (hx : (compEnvC scope cl C env).kindOf x = some .cell) (hcl : cl.lookup x = some (C + 1)) (hp : Priv C scope s₃.heap) (F : Fr g L s₃.heap m) (N : News g L s₃.heap news)
    (hC : ∀ c ∈ C :: ownc C scope, c ≠ L ∧ g.get? c = none ∧ ∀ p ∈ news, p.1 ≠ c) (hown : ownc C scope = [C + 1])
    (h : ∀ h₄ oC mC oK, LCg.NsObj oC mC → oK.data = .cell (some v) → Fr g L h₄ m → News g L h₄ ((C, oC) :: (C + 1, oK) :: news) → K () { s₃ with heap := h₄ }) :
    wpAny (model PP w) A (letOwnedTupleGo (.Name x px) it v) (fun _ s₄ => wpAny (model PP w) A (assign (.Name x px) (compEnvC scope cl C env) v) K E s₄) E s₃ := by
  with_reducible refine hide ?_
  intro GG hGG
  obtain ⟨⟨m₀, hns⟩, hcs⟩ := hp
  obtain ⟨c1, c2, c3⟩ := hC _ (.head _)
  have hm : C + 1 ∈ ownc C scope := by rw [hown]; exact .head _
  obtain ⟨d1, d2, d3⟩ := hC _ (.tail _ hm)
  obtain ⟨v₀, hv₀⟩ := hcs _ hm
  with_reducible refine hGG ?_
  clear hGG GG
  refine wpAny_of_eq (a := ()) (by rfl) ?_
  refine wpAny_assign_Name (wpAny_storeName_cell (by simp [compEnvC, relabel, hkind]) hx hcl hv₀ fun h₄ hv hs => ?_)
  with_reducible refine hide ?_
  intro GG hGG
  obtain ⟨oK, heK, hdK⟩ := hv
  have k : ∀ b o, b ≠ C + 1 → s₃.heap.get? b = some o → h₄.get? b = some o := fun b o hb e => hs.extBut b o hb e
  have nC : C ≠ C + 1 := Nat.ne_of_lt (Nat.lt_succ_self _)
  obtain ⟨oC, heC, hoC⟩ := LCg.ns_obj (hns.at' fun o e => k _ o nC e)
  with_reducible refine hGG ?_
  clear hGG GG
  exact h h₄ oC _ oK hoC hdK (fr_but1 F d1 d2 k) (List.forall_mem_cons.mpr ⟨⟨heC, c1, c2⟩, List.forall_mem_cons.mpr ⟨⟨heK, d1, d2⟩, news_but1 N d3 k⟩⟩)
theorem tend {news₀ oth os : List (Addr × Obj)} {G : Option Value → List (Addr × Obj) → Prop} {s : Shared} {y : Option Value} {h' : Heap} {tk' : Nat} {oC : Obj} {mC : Str → Option Value} (F' : Fr g L h' m) (nC : LCg.NsObj oC mC) (N' : News g L h' ((C, oC) :: (news₀ ++ oth))) (hown : ownc C scope = [])
    (No : News g L h' os) (ho : ∀ p ∈ os, p.1 ≠ C ∧ ∀ q ∈ oth, p.1 ≠ q.1) (hG : G y os) : TEnd g L m news₀ C scope oth G s y { s with heap := h', toks := tk' } :=
  ⟨h', tk', os, rfl, F', fun p hpp => N' p (.tail _ hpp), No, ⟨⟨_, nC.ns (N' _ (.head _)).1⟩, fun c hc => by rw [hown] at hc; exact nomatch hc⟩, fun p hpp => ⟨fun q => by
    rcases List.mem_cons.mp q with q | q
    · exact (ho p hpp).1 q
    · rw [hown] at q; exact (nomatch q), (ho p hpp).2⟩, hG⟩
theorem tendC {news₀ oth os : List (Addr × Obj)} {G : Option Value → List (Addr × Obj) → Prop} {s : Shared} {y : Option Value} {h' : Heap} {tk' : Nat} {oC oK : Obj} {mC : Str → Option Value} {vK : Value} (F' : Fr g L h' m) (nC : LCg.NsObj oC mC) (dK : oK.data = .cell (some vK)) (N' : News g L h' ((C, oC) :: (C + 1, oK) :: (news₀ ++ oth))) (hown : ownc C scope = [C + 1])
    (No : News g L h' os) (ho : ∀ p ∈ os, p.1 ≠ C ∧ p.1 ≠ C + 1 ∧ ∀ q ∈ oth, p.1 ≠ q.1) (hG : G y os) : TEnd g L m news₀ C scope oth G s y { s with heap := h', toks := tk' } :=
  ⟨h', tk', os, rfl, F', fun p hpp => N' p (.tail _ (.tail _ hpp)), No, ⟨⟨_, nC.ns (N' _ (.head _)).1⟩, fun c hc => by rw [hown] at hc; rw [List.mem_singleton.mp hc]; exact ⟨_, _, (N' _ (.tail _ (.head _))).1, dK⟩⟩, fun p hpp => ⟨fun q => by
    rcases List.mem_cons.mp q with q | q
    · exact (ho p hpp).1 q
    · rw [hown] at q; exact (ho p hpp).2.1 (List.mem_singleton.mp q), (ho p hpp).2.2⟩, hG⟩
end
section
variable {w : World} {A : Around} {E : Value → Shared → Prop} {s : Shared} {g : Heap} {L : Addr} {m : Str → Option Value}
theorem es_items {items : List Value} {G : Value → Option Value → List (Addr × Obj) → Prop} {es : List (Value × Option Value × List (Addr × Obj))} (hl : es.length = items.length) (h : ∀ (j : Nat) (e : Value × Option Value × List (Addr × Obj)), es[j]? = some e → items[j]? = some e.1 ∧ G e.1 e.2.1 e.2.2) : es.map (·.1) = items ∧ ∀ e ∈ es, G e.1 e.2.1 e.2.2 := by
  refine ⟨List.ext_getElem? fun j => ?_, fun e he => ?_⟩
  · rw [List.getElem?_map]
    cases q : es[j]? with
    | none =>
      have := List.getElem?_eq_none_iff.mp q
      rw [eq_comm, Option.map_none, List.getElem?_eq_none_iff]; omega
    | some e => rw [(h j e q).1]; rfl
  · obtain ⟨j, hj⟩ := List.mem_iff_getElem?.mp he
    exact (h j e hj).2
theorem comp_list {target elt iter : Expr} {ifs : List Expr} {scope : Scope} {cl : List (Str × Addr)} {pos : Pos} {env : Env} {Q : Value → Shared → Prop} (F₀ : Fr g L s.heap m) (hh : A.handled = none)
    (hclos : closureFor scope env = pure cl) (hkind : scope.kind = .function) (hnames : ∀ y ∈ scope.names, y.2 = .local → scope.names.lookup y.1 = some .local) (G : Value → Option Value → List (Addr × Obj) → Prop)
    (h : wpAny (model PP w) A (eval iter env) (fun xv s₁ => Stop (∃ (ax : Addr) (items : List Value) (news₀ : List (Addr × Obj)), xv = .ref ax ∧ Fr g L s₁.heap m ∧ News g L s₁.heap news₀ ∧ (∀ h', Fr g L h' m → News g L h' news₀ → h'.IsList ax items.toArray) ∧ items.length ≤ sizeLine ∧
      (∀ (I C : Addr) i v s₃ oth, (∀ c ∈ C :: ownc C scope, c ≠ L ∧ g.get? c = none ∧ ∀ p ∈ news₀ ++ oth, p.1 ≠ c) → items[i]? = some v → s₃.heap.IsListIter I ax (i + 1) → Priv C scope s₃.heap → Fr g L s₃.heap m → News g L s₃.heap (news₀ ++ oth) →
        wpAny (model PP w) A (letOwnedTupleGo target (.ref I) v) (fun _ s₄ => wpAny (model PP w) A (assign target (compEnvC scope (cellsFrom (C + 1) scope.names cl) C env) v) (fun _ s₅ =>
          wpAny (model PP w) A (forIn ifs true fun c r => if r = true then do let ok ← isTrue c (compEnvC scope (cellsFrom (C + 1) scope.names cl) C env) (eval c (compEnvC scope (cellsFrom (C + 1) scope.names cl) C env)); pure (ForInStep.yield ok) else pure (ForInStep.yield r)) (fun ok s₆ =>
            if ok = true then wpAny (model PP w) A (eval elt (compEnvC scope (cellsFrom (C + 1) scope.names cl) C env)) (fun y s₇ => TEnd g L m news₀ C scope oth (G v) s₃ (some y) s₇) (fun _ _ => False) s₆ else TEnd g L m news₀ C scope oth (G v) s₃ none s₆) (fun _ _ => False) s₅) (fun _ _ => False) s₄) (fun _ _ => False) s₃) ∧
      (∀ (D : Addr) h' tk (es : List (Value × Option Value × List (Addr × Obj))), Fr g L h' m → News g L h' ((D, LCg.lst (es.filterMap (·.2.1))) :: (news₀ ++ es.flatMap (·.2.2))) → (∀ p ∈ news₀ ++ es.flatMap (·.2.2), p.1 ≠ D) → es.map (·.1) = items → (∀ e ∈ es, G e.1 e.2.1 e.2.2) →
        (∀ b o, s₁.heap.get? b = some o → b ≠ D) → Q (.ref D) { s₁ with heap := h', toks := tk }))) E s)
    (hs : ∀ x, foldedSetIterable iter env x = pure x := by intro _; rfl) :
    wpAny (model PP w) A (eval (.ListComp elt [⟨target, iter, ifs, 0⟩] scope pos) env) Q E s := by
  refine comp_M F₀ hclos hkind hnames G (wpAny_mono h (fun xv s₁ z => ?_) fun _ _ e => e) hs
  refine cps_EEEAAAAAA (z.go) ?_
  rintro ax items news₀ rfl F N hl hsz turn done
  have hT := hl _ F N
  have hlt : ax < s₁.heap.objs.size := by obtain ⟨_, e, _⟩ := hT; exact Heap.lt_size e
  refine wpAny_pyIter_list hT ?_
  have up : ∀ b o, s₁.heap.get? b = some o → (s₁.heap.push { cls := .type "list_iterator", data := .fields #[.ref ax, .int 0 0] }).get? b = some o := fun b o e => Heap.get?_push_of_some _ e
  refine ⟨s₁.heap.objs.size, _, _, _, _, news₀, rfl, Walks.list hh s₁.heap.objs.size ax (Nat.ne_of_lt hlt) items.toArray, by rw [List.size_toArray]; exact hsz, ⟨⟨_, Heap.get?_push_size _ rfl, rfl, rfl⟩, hT.at fun o e => up _ o e⟩, F.kept up, N.grown up, fr_push1 F,
    fun p hp => Nat.ne_of_lt (Heap.lt_size (N p hp).1), fun i h st => let ⟨o, e, _⟩ := st.1; ⟨o, e⟩, fun i h h' o st e e' F' N' => ⟨st.1.at fun o' q => by rw [e] at q; rw [e', ← q], hl h' F' N'⟩,
    fun C i v s₃ oth hC hi hv st hp F' N' => turn _ C i v s₃ oth hC (by simpa using hv) st.1 hp F' N', fun D h' tk es F' N' off hlen hP hb => ?_⟩
  obtain ⟨h1, h2⟩ := es_items (items := items) (by simpa using hlen) fun j e hj => by
    obtain ⟨a, b⟩ := hP j e hj
    exact ⟨by simpa using a, b⟩
  exact done D h' tk es F' N' off h1 h2 fun b o e => hb b o (up b o e)
end
end

section
noncomputable def freeCl (cells : List (Str × Addr)) : List (Str × NameKind) → List (Str × Addr) → Option (List (Str × Addr))
  | [], acc => some acc
  | (x, k) :: r, acc => if k == .free then (match cells.lookup x with | some a => freeCl cells r ((x, a) :: acc) | none => none) else freeCl cells r acc
theorem clos_go {env : Env} (f : Str × NameKind → List (Str × Addr) → Sem (ForInStep (List (Str × Addr)))) (hf : ∀ name kind cs, f (name, kind) cs = if kind == .free then (do let a ← cellOf env name; pure (.yield ((name, a) :: cs))) else pure (.yield cs)) :
    ∀ (names : List (Str × NameKind)) (acc : List (Str × Addr)) {cl : List (Str × Addr)}, freeCl env.cells names acc = some cl → forIn names acc f = (pure cl : Sem (List (Str × Addr)))
  | [], acc, cl, h => by rw [List.forIn_nil]; cases h; rfl
  | (x, k) :: r, acc, cl, h => by
    rw [List.forIn_cons, hf]
    unfold freeCl at h
    cases hk : k == NameKind.free with
    | true =>
      rw [hk, if_pos rfl] at h
      cases hl : env.cells.lookup x with
      | none => rw [hl] at h; cases h
      | some a =>
        rw [hl] at h
        have e : cellOf env x = pure a := by unfold cellOf; rw [hl]
        rw [if_pos rfl, e]
        simp only [pure_bind]
        exact clos_go f hf r _ h
    | false =>
      rw [hk, if_neg Bool.false_ne_true] at h
      rw [if_neg Bool.false_ne_true]
      simp only [pure_bind]
      exact clos_go f hf r _ h
theorem clos_is {scope : Scope} {env : Env} {cl : List (Str × Addr)} (h : freeCl env.cells scope.names [] = some cl) : closureFor scope env = pure cl := by
  simp only [closureFor]
  rw [clos_go (env := env) _ (fun name kind cs => by cases hkc : kind == NameKind.free <;> simp [hkc]) scope.names [] h]
  simp only [pure_bind]
end

section
theorem enterC {w : World} {n : Nat} {A : Around} {b : Heap} {s : Shared} {news : List (Addr × Obj)} {R : Result → Shared → Prop}
    {name qual : Str} {params : Arguments} {body : List Stmt} {scope : Scope} {dV kV doc pm cdv ct oc : Value} {an od : Option Addr} {osl : Array (Option Value)} {f : Addr} {args : Args} {binds : List (Str × Value)}
    (C : Cx w (n + 2) A b) (kb : b.StaysIn s.heap) (hn : ∀ p ∈ news, s.heap.get? p.1 = some p.2 ∧ b.get? p.1 = none)
    (ho : (hd.heap_39 w.params).lookup f = some ⟨oc, od, .func (fnOf name qual params body scope dV kV doc pm an cdv ct), osl⟩) (hcd : codeIn (hd.heap_39 w.params) cdv qual = true)
    (hbind : BindsTo s (fnOf name qual params body scope dV kV doc pm an cdv ct) args binds) (hkind : (binds.all fun y => scope.names.lookup y.1 == some .local || scope.names.lookup y.1 == some .cell) = true)
    (hnd : ((cellsFrom 0 scope.names []).map (·.1)).Nodup)
    (h : ∀ g L h₁ tk cells base outer d u loose mean mg mb, L = s.heap.objs.size → Fr g L h₁ (bindL (envOfC qual scope L f cdv).kindOf binds fun _ => none) → News g L h₁ (cells ++ news) →
      CellsAre (bindC (envOfC qual scope L f cdv).kindOf binds fun _ => none) (cellsFrom (L + 1) scope.names []) cells → Below (mkA d u outer) base outer g → (hd.heap_39 w.params).In g → Top hd.view_39 loose mean mg mb g →
      b.StaysIn g → d + n + 2 ≤ 900 → u + 20 * n + 40 ≤ 9000 → (∀ x o, s.heap.get? x = some o → x ∉ news.map (·.1) → g.get? x = some o) → g.StaysIn s.heap →
      (∀ p ∈ news, p.1 < L) → s.heap.StaysIn h₁ →
      wpAny (model PP w) ((mkA d u outer).deeper (envOfC qual scope L f cdv)) (execs body (envOfC qual scope L f cdv))
        (fun fl s' => R (.ok (.ret (match fl with | .ret v => v | _ => .none))) s') (fun _ _ => False)
        { s with heap := h₁, toks := tk })
    (hco : scope.isCoroutine = false) (hgen : scope.isGenerator = false) (hk : scope.kind = .function) : codeAny (model PP w) A (.call (.ref f) args) R s := by
  with_reducible refine hide ?_
  intro GG hGG
  refine cps_EEEEAAA (C.is) ?_
  rintro base outer d u rfl B hd hu
  refine cps_EEEE (C.top) ?_
  intro loose mean mg mb T
  with_reducible refine hGG ?_
  clear hGG GG
  have X := C.kin.keeps kb
  refine codeAny_call_function (fd := fnOf name qual params body scope dV kV doc pm an cdv ct) (body := body) (by show d < 1000; omega) (X _ _ ho) rfl hco hgen rfl (codeRec_of X hcd) (hbind _ _ _ _ ?_)
  refine wpAny_newFunctionEnv_cells hk (kindsX hkind _) fun env' he s' x => ?_
  subst he
  refine ⟨(T.nolimit.keeps kb).keeps x.toInCall.keep, codeAny_func ?_⟩
  with_reducible refine hide ?_
  intro GG hGG
  refine cps_EEA (x.done) ?_
  rintro h₁ tk rfl _
  have hk₁ := x.toInCall.keep
  obtain ⟨cells, NC, Y⟩ := Cl.news (h₀ := s.heap) (Nat.le_refl _) fun n c hm => ⟨x.cell n c (lookup_of_mem_nodup (cellsFrom_names scope.names 0 (s.heap.objs.size + 1) [] [] rfl ▸ hnd) hm), x.above n c hm⟩
  with_reducible refine hGG ?_
  clear hGG GG
  have nm : ∀ x o, b.get? x = some o → x ∉ news.map (·.1) := fun x o e q => by
    with_reducible refine hide ?_
    intro GG hGG
    obtain ⟨p, hp, rfl⟩ := List.mem_map.mp q
    with_reducible refine hGG ?_
    clear hGG GG
    rw [(hn p hp).2] at e; cases e
  have st : b.StaysIn (hideAll s.heap (news.map (·.1))) := fun x o e => hideAll_get _ (kb x o e) (nm x o e)
  refine wpAny_mono (h _ s.heap.objs.size h₁ tk cells base outer d u loose mean mg mb rfl ⟨x.toInCall.ns, fun x o e => hk₁ x o (of_hideAll _ e), Nat.le_of_eq (hideAll_size _ _)⟩
    (fun p hp => ?_) Y (below_keeps B st) (C.kin.keeps st) (T.keeps st) st hd (by omega)
    (fun x o e q => hideAll_get _ e q) (fun x o e => of_hideAll _ e) (fun p hp => Heap.lt_size (hn p hp).1) hk₁) (fun _ _ x => x) fun _ _ x => x.elim
  rcases List.mem_append.mp hp with hp | hp
  · refine ⟨(NC p hp).1, (NC p hp).2.1, ?_⟩
    cases q : (hideAll s.heap (news.map (·.1))).get? p.1 with
    | none => rfl
    | some o => have := of_hideAll _ q; rw [(NC p hp).2.2] at this; cases this
  · exact ⟨hk₁ _ _ (hn p hp).1, Nat.ne_of_lt (Heap.lt_size (hn p hp).1), hideAll_none _ (List.mem_map_of_mem hp)⟩
end

section
noncomputable def retOf : Stmt → Expr
  | .Return (some e) _ => e
  | _ => .Constant .none 0 ⟨0, 0, 0, 0⟩
noncomputable def iterOf : Expr → Expr
  | .ListComp _ (c :: _) _ _ => c.iter
  | e => e
noncomputable def rightOf : Expr → Expr
  | .BinOp _ _ r _ => r
  | e => e
noncomputable def ndFn : Stmt := stAt PP.main.body 13
noncomputable def ndComp : Expr := retOf (stAt (stBody ndFn) 1)
noncomputable def ndInner : Expr := rightOf (iterOf ndComp)
@[reducible] noncomputable def ndEnv (L : Addr) : Env := envX (Str.ofString "_law_needs") (stScope ndFn) L 180 (.ref 179) [(Str.ofString "names", L + 1)]
@[reducible] noncomputable def ndm (sc : Addr) : Str → Option Value := fun y => if y = Str.ofString "script" then some (.ref sc) else none
@[reducible] noncomputable def tupO (vs : List Value) : Obj := { cls := .type "tuple", data := .seq vs.toArray }
theorem list_upN {g h : Heap} {L a : Addr} {m : Str → Option Value} {v : Array Value} (F : Fr g L h m) (x : g.IsList a v) : h.IsList a v := let ⟨o, ho, r⟩ := x; ⟨o, F.keep _ _ ho, r⟩
noncomputable def Two (y : Option Value) (os : List (Addr × Obj)) : Prop := ∃ T a b ta tb, y = some (.ref T) ∧ os = [(T, tupO [.int a ta, .int b tb])] ∧ (0 ≤ a ∧ a < 6) ∧ (0 ≤ b ∧ b < 6)
set_option maxHeartbeats 8000000 in
theorem needs_inner {w : World} {g base h : Heap} {L sc : Addr} {d u tk : Nat} {outer : List Env} {loose : List Str} {mean : ExcName → Option Value} {mg mb : Str → Option Value} {xs : List Value} {news : List (Addr × Obj)} {s : Shared} {Q : Value → Shared → Prop} {E : Value → Shared → Prop}
   (B : Below (mkA d u outer) base outer g) (X : (hd.heap_39 w.params).In g) (TT : Top hd.view_39 loose mean mg mb g)
   (hSg : g.IsList sc xs.toArray) (hI : ∀ v ∈ xs, ∃ k t, v = .int k t) (hxl : xs.length ≤ 6)
   (F : Fr g L h (ndm sc)) (N : News g L h news)
   (hq : ∀ D h' tk' (es : List (Value × Option Value × List (Addr × Obj))), Fr g L h' (ndm sc) → News g L h' ((D, LCg.lst (es.filterMap (·.2.1))) :: (news ++ es.flatMap (·.2.2))) → (∀ p ∈ news ++ es.flatMap (·.2.2), p.1 ≠ D) → es.map (·.1) = xs → (∀ e ∈ es, Two e.2.1 e.2.2) → Q (.ref D) { s with heap := h', toks := tk' }) :
   wpAny (model PP w) ((mkA d u outer).deeper (ndEnv L)) (eval ndInner (ndEnv L)) Q E { s with heap := h, toks := tk } := by
  have eW : ndInner = .ListComp _ _ _ _ := rfl
  have eS : stScope ndFn = { kind := _, names := _, isGenerator := _, isCoroutine := _, more := _ } := rfl
  rw [ndEnv, eS, eW]
  clear eW eS
  refine comp_list F rfl (clos_is (cl := []) (by kernel_rfl)) (by rfl) (by decide) (fun _ => Two) ?_
  k_steps
  refine ⟨sc, xs, news, rfl, F, N, fun h' F' _ => list_upN F' hSg, by rw [sizeLine_eq]; omega, ?_, fun D h' tk' es F' N' off hes hG _ => hq D h' tk' es F' N' off hes hG⟩
  intro I C i v hXX
  with_reducible refine hide ?_
  intro GG hGG
  obtain ⟨h3, gg, dd, tk3, os3⟩ := hXX
  with_reducible refine hGG ?_
  clear hGG GG
  intro oth hC hv hit hp F3 N3
  with_reducible refine hide ?_
  intro GG hGG
  obtain ⟨k, t, rfl⟩ := hI v (List.mem_of_getElem? hv)
  with_reducible refine hGG ?_
  clear hGG GG
  refine turn_N (by rfl) (by decide) hp F3 N3 hC (by rfl) ?_
  clear F3 N3 F N
  intro h4 oC mC nC hx F4 N4
  refine wpAny_tests_nil ?_
  show wpAny _ _ _ _ _ _
  k_steps
  rename Fr g L _ _ => F5
  rename News g L _ _ => N5
  rename_i l1
  refine tend F5 nC (fun p hp => N5 p (.tail _ hp)) (by rfl) (os := [_]) (List.forall_mem_cons.mpr ⟨N5 _ (.head _), fun _ h => (nomatch h)⟩) (List.forall_mem_cons.mpr ⟨⟨Ne.symm (Nat.ne_of_lt l1.1), fun q hq => Ne.symm (Nat.ne_of_lt (ltAll l1.2 q (List.mem_append_right _ hq)))⟩, fun _ h => (nomatch h)⟩)
    ⟨_, _, _, _, _, rfl, rfl, ⟨Int.fmod_nonneg_of_pos _ (by decide), Int.fmod_lt_of_pos _ (by decide)⟩, ⟨Int.fmod_nonneg_of_pos _ (by decide), Int.fmod_lt_of_pos _ (by decide)⟩⟩
theorem name_it {α : Type} (P : α → Prop) (a : α) (h : P a) : ∃ l, l = a ∧ P l := ⟨a, rfl, h⟩
theorem add_named {w : World} {A : Around} {E : Value → Shared → Prop} {s : Shared} {g : Heap} {L a b : Addr} {m : Str → Option Value} {news : List (Addr × Obj)} {vs ws : List Value} {Q : Value → Shared → Prop} (F : Fr g L s.heap m) (N : News g L s.heap news) (ha : s.heap.IsList a vs.toArray) (hb : s.heap.IsList b ws.toArray)
    (h : ∀ zs D h', zs = vs ++ ws → Fr g L h' m → News g L h' ((D, W.listOf zs.toArray 0) :: news) → (∀ p ∈ news, p.1 < D) → Q (.ref D) { s with heap := h' })
    (hz : vs.length + ws.length ≤ sizeLine) : wpAny (model PP w) A (binaryOp .Add (.ref a) (.ref b)) Q E s :=
  add_lists F N ha hb (fun h' F' N' => h _ _ h' rfl F' N' fun p hp => Heap.lt_size (N p hp).1) hz
noncomputable def TwoS (y : Option Value) (os : List (Addr × Obj)) : Prop := ∃ T a b ta tb, y = some (.ref T) ∧ os = [(T, tupO [.str a ta, .str b tb])] ∧ a ∈ six ∧ b ∈ six
@[reducible] noncomputable def sixV (t0 t1 t2 t3 t4 t5 : Tok) : List Value := [.str (Str.ofString "a") t0, .str (Str.ofString "<&>") t1, .str (Str.ofString "it's \"") t2, .str (Str.ofString "x\ty\n\r") t3, .str (Str.ofString "\"") t4, .str (Str.ofString "&quot;") t5]
theorem six_at (t0 t1 t2 t3 t4 t5 : Tok) {a : Int} (ha : 0 ≤ a ∧ a < 6) : ∃ q t, (sixV t0 t1 t2 t3 t4 t5)[a.toNat]? = some (.str q t) ∧ q ∈ six := by
  rcases (by lia : a = 0 ∨ a = 1 ∨ a = 2 ∨ a = 3 ∨ a = 4 ∨ a = 5) with rfl | rfl | rfl | rfl | rfl | rfl
  · exact ⟨_, _, rfl, .head _⟩
  · exact ⟨_, _, rfl, .tail _ (.head _)⟩
  · exact ⟨_, _, rfl, .tail _ (.tail _ (.head _))⟩
  · exact ⟨_, _, rfl, .tail _ (.tail _ (.tail _ (.head _)))⟩
  · exact ⟨_, _, rfl, .tail _ (.tail _ (.tail _ (.tail _ (.head _))))⟩
  · exact ⟨_, _, rfl, .tail _ (.tail _ (.tail _ (.tail _ (.tail _ (.head _)))))⟩
theorem item_at' {w : World} {A : Around} {E : Value → Shared → Prop} {s : Shared} {value slice : PySem.Expr} {l : Addr} {vs : List Value} {k : Int} {x : Value} {t : Tok} {Q : Value → Shared → Prop} (hl : s.heap.IsList l vs.toArray) (h0 : 0 ≤ k) (h1 : k < 2 ^ 63) (hx : vs[k.toNat]? = some x) (h : Q x s)
    (hs : subscripted slice false (.ref l) (.int k t) = operate [.ref l, .int k t] (getItem (.ref l) (.int k t)) := by with_unfolding_all rfl) :
    wpAny (model PP w) A (subscriptTail value slice (.ref l) (.int k t)) Q E s :=
  tail_any hl.typeIs slot_list_getitem.lookup (wpAny_getItem_list hl h0 h1 (by simpa using hx) h) hs
local macro_rules | `(tactic| walk_at "subscriptTail Name Name ref int") => `(tactic| walk_at "Y 20")
local macro_rules | `(tactic| walk_at "eval ListComp") => `(tactic| refine stop_here ?_)
set_option maxHeartbeats 8000000 in
theorem needs_comp {w : World} {g base h : Heap} {L sc ln : Addr} {d u tk : Nat} {outer : List Env} {loose : List Str} {mean : ExcName → Option Value} {mg mb : Str → Option Value} {xs : List Value} {oN : Obj} {t0 t1 t2 t3 t4 t5 : Tok} {s : Shared} {Q : Value → Shared → Prop} {E : Value → Shared → Prop}
   (B : Below (mkA d u outer) base outer g) (X : (hd.heap_39 w.params).In g) (TT : Top hd.view_39 loose mean mg mb g)
   (hSg : g.IsList sc xs.toArray) (hI : ∀ v ∈ xs, ∃ k t, v = .int k t) (hxl : xs.length ≤ 6)
   (F : Fr g L h (ndm sc)) (N : News g L h [(ln, W.listOf (sixV t0 t1 t2 t3 t4 t5).toArray 0), (L + 1, oN)]) (dN : oN.data = .cell (some (.ref ln))) (l1 : L + 1 < ln)
   (hq : ∀ D h' tk' (es : List (Value × Option Value × List (Addr × Obj))), Fr g L h' (ndm sc) → News g L h' ((D, LCg.lst (es.filterMap (·.2.1))) :: es.flatMap (·.2.2)) → es.length ≤ 11 → (∀ e ∈ es, TwoS e.2.1 e.2.2) → Q (.ref D) { s with heap := h', toks := tk' }) :
   wpAny (model PP w) ((mkA d u outer).deeper (ndEnv L)) (eval ndComp (ndEnv L)) Q E { s with heap := h, toks := tk } := by
  have eW : ndComp = .ListComp _ _ _ _ := rfl
  have eS : stScope ndFn = { kind := _, names := _, isGenerator := _, isCoroutine := _, more := _ } := rfl
  rw [ndEnv, eS, eW]
  clear eW eS
  with_reducible refine comp_list (cl := [(Str.ofString "names", L + 1)]) F ?hh ?c1 ?c2 ?c3 (fun _ => TwoS) ?_ ?hs
  case hh => rfl
  case c1 => exact clos_is (by kernel_rfl)
  case c2 => rfl
  case c3 => decide +kernel
  case hs => intro _; rfl
  k_steps
  refine ⟨?_⟩
  rename Fr g L _ _ => F2
  rename News g L _ _ => N2
  refine needs_inner B X TT hSg hI hxl F2 N2 ?_
  clear F2 N2
  intro D h3 tk3 es F3 N3 off hes hG
  have hel : es.length ≤ 6 := by rw [← hes, List.length_map] at hxl; exact hxl
  refine add_named F3 N3 (News.isList N3 (.tail _ (.head _))) (News.isList N3 (.head _)) ?_ ?z
  case z =>
    have := List.length_filterMap_le (f := fun e : Value × Option Value × List (Addr × Obj) => e.2.1) (l := es)
    rw [sizeLine_eq]
    simp only [List.length_cons, List.length_nil]
    omega
  intro its D2 h4 hits F4 N4 l4
  clear F3 N3
  simp only [List.cons_append, List.nil_append, List.append_assoc] at N4 hits
  with_reducible refine hide ?_
  intro GG hGG
  obtain ⟨led, hled, N4⟩ := name_it (News g L h4) _ N4
  with_reducible refine hGG ?_
  clear hGG GG
  have claim : ∀ v ∈ its, ∃ T a b ta tb, v = Value.ref T ∧ (T, tupO [.int a ta, .int b tb]) ∈ led ∧ (0 ≤ a ∧ a < 6) ∧ (0 ≤ b ∧ b < 6) := by
    rw [hits, hled]
    intro v hv
    rcases List.mem_cons.mp hv with rfl | hv
    · exact ⟨_, _, _, _, _, rfl, by k_mem, ⟨by decide, by decide⟩, ⟨by decide, by decide⟩⟩
    rcases List.mem_cons.mp hv with rfl | hv
    · exact ⟨_, _, _, _, _, rfl, by k_mem, ⟨by decide, by decide⟩, ⟨by decide, by decide⟩⟩
    rcases List.mem_cons.mp hv with rfl | hv
    · exact ⟨_, _, _, _, _, rfl, by k_mem, ⟨by decide, by decide⟩, ⟨by decide, by decide⟩⟩
    rcases List.mem_cons.mp hv with rfl | hv
    · exact ⟨_, _, _, _, _, rfl, by k_mem, ⟨by decide, by decide⟩, ⟨by decide, by decide⟩⟩
    rcases List.mem_cons.mp hv with rfl | hv
    · exact ⟨_, _, _, _, _, rfl, by k_mem, ⟨by decide, by decide⟩, ⟨by decide, by decide⟩⟩
    with_reducible refine hide ?_
    intro GG hGG
    obtain ⟨e, he, hev⟩ := List.mem_filterMap.mp hv
    refine cps_EEEEEAAA (hG e he) ?_
    intro T a b ta tb h1 h2 h3 h4
    with_reducible refine hGG ?_
    clear hGG GG
    rw [h1] at hev
    cases hev
    refine ⟨T, a, b, ta, tb, rfl, ?_, h3, h4⟩
    have hm : (T, tupO [.int a ta, .int b tb]) ∈ es.flatMap (·.2.2) := List.mem_flatMap.mpr ⟨e, he, by rw [h2]; exact .head _⟩
    iterate 10 apply List.Mem.tail
    exact hm
  have hlen : its.length ≤ 11 := by
    rw [hits]
    have := List.length_filterMap_le (f := fun e : Value × Option Value × List (Addr × Obj) => e.2.1) (l := es)
    simp only [List.length_append, List.length_cons, List.length_nil]
    omega
  have m1 : (ln, W.listOf (sixV t0 t1 t2 t3 t4 t5).toArray 0) ∈ led := by rw [hled]; k_mem
  have mD : (D2, W.listOf its.toArray 0) ∈ led := by rw [hled]; exact .head _
  have m2 : (L + 1, oN) ∈ led := by rw [hled]; k_mem
  refine ⟨D2, its, led, rfl, F4, N4, fun h' F' N' => ?_, by rw [sizeLine_eq]; omega, ?_, ?_⟩
  · exact News.isList N' mD
  · intro I C i v hXX
    with_reducible refine hide ?_
    intro GG hGG
    obtain ⟨h5, gg, dd, tk5, os5⟩ := hXX
    with_reducible refine hGG ?_
    clear hGG GG
    intro oth hC hv hit hp F5 N5
    with_reducible refine hide ?_
    intro GG hGG
    refine cps_EEEEEAAA (claim v (List.mem_of_getElem? hv)) ?_
    rintro T a b ta tb rfl hTm ha hb
    have ht : IsTup h5 T #[.int a ta, .int b tb] := ⟨_, (N5 _ (List.mem_append_left _ hTm)).1, rfl, _, rfl⟩
    refine cps_EEA (six_at t0 t1 t2 t3 t4 t5 ha) ?_
    intro q1 u1 i1 s1
    refine cps_EEA (six_at t0 t1 t2 t3 t4 t5 hb) ?_
    intro q2 u2 i2 s2
    with_reducible refine hGG ?_
    clear hGG GG
    refine turn_P rfl (by rfl) (by decide +kernel) (by decide +kernel) (by decide) hit ht hp F5 N5 hC (by rfl) ?_
    intro h6 tk6 oC mC nC hx hx2 F6 N6
    have N7 : News g L h6 ((C, oC) :: (ln, W.listOf (sixV t0 t1 t2 t3 t4 t5).toArray 0) :: (L + 1, oN) :: (led ++ oth)) :=
      List.forall_mem_cons.mpr ⟨N6 _ (.head _), List.forall_mem_cons.mpr ⟨N6 _ (.tail _ (List.mem_append_left _ m1)), List.forall_mem_cons.mpr ⟨N6 _ (.tail _ (List.mem_append_left _ m2)), fun p hpp => N6 p (.tail _ hpp)⟩⟩⟩
    with_reducible refine hide ?_
    intro GG hGG
    obtain ⟨all, hall, N7⟩ := name_it (fun l => News g L h6 ((C, oC) :: (ln, W.listOf (sixV t0 t1 t2 t3 t4 t5).toArray 0) :: (L + 1, oN) :: l)) _ N7
    with_reducible refine hGG ?_
    clear hGG GG
    clear N6 N5 F5 ht hp hit hled hits claim hG F4 N4 l4 off
    refine wpAny_tests_nil ?_
    show wpAny _ _ _ _ _ _
    k_steps
    rename Fr g L _ _ => F8
    rename News g L _ _ => N8
    rename_i l8
    refine tend F8 nC (fun p hpp => ?_) (by rfl) (os := [_]) (List.forall_mem_cons.mpr ⟨N8 _ (.head _), fun _ h => (nomatch h)⟩) (List.forall_mem_cons.mpr ⟨⟨Ne.symm (Nat.ne_of_lt l8.1), fun q hq => ?_⟩, fun _ h => (nomatch h)⟩) ⟨_, _, _, _, _, rfl, rfl, s1, s2⟩
    · rcases List.mem_cons.mp hpp with rfl | hpp
      · exact N8 _ (.tail _ (.head _))
      · exact N8 _ (.tail _ (.tail _ (.tail _ (.tail _ (hall ▸ hpp)))))
    · exact Ne.symm (Nat.ne_of_lt (ltAll l8.2.2.2 q (hall ▸ List.mem_append_right _ hq)))
  · intro D3 h5 tk5 es2 F5 N5 off2 he2 hG2 _
    refine hq D3 h5 tk5 es2 F5 (fun p hpp => N5 p ?_) (by rw [← he2, List.length_map] at hlen; exact hlen) hG2
    rcases List.mem_cons.mp hpp with rfl | hpp
    · exact .head _
    · exact .tail _ (List.mem_append_right _ hpp)
end

section
theorem two_all : ∀ {es : List (Value × Option Value × List (Addr × Obj))}, (∀ e ∈ es, TwoS e.2.1 e.2.2) → ∃ ns : List (Str × Str), ns.length = es.length ∧ (∀ p ∈ ns, p.1 ∈ six ∧ p.2 ∈ six) ∧ (es.filterMap (·.2.1)).length = ns.length ∧
    ∀ (i : Nat) (p : Str × Str), ns[i]? = some p → ∃ (T : Addr) (a b : Tok), (es.filterMap (·.2.1))[i]? = some (.ref T) ∧ (T, tupO [.str p.1 a, .str p.2 b]) ∈ es.flatMap (·.2.2)
  | [], _ => ⟨[], rfl, (fun _ h => nomatch h), rfl, fun i p h => by simp at h⟩
  | e :: es, h => by
    with_reducible refine hide ?_
    intro GG hGG
    refine cps_EAAA (two_all fun e he => h e (.tail _ he)) ?_
    intro ns h1 h2 h3 h4
    refine cps_EEEEEAAA (h e (.head _)) ?_
    intro T a b ta tb e1 e2 sa sb
    with_reducible refine hGG ?_
    clear hGG GG
    have ef : (e :: es).filterMap (·.2.1) = .ref T :: es.filterMap (·.2.1) := by rw [List.filterMap_cons, e1]
    refine ⟨(a, b) :: ns, by rw [List.length_cons, List.length_cons, h1], List.forall_mem_cons.mpr ⟨⟨sa, sb⟩, h2⟩, by rw [ef, List.length_cons, List.length_cons, h3], fun i p hp => ?_⟩
    rw [ef]
    cases i with
    | zero => cases hp; exact ⟨T, ta, tb, rfl, List.mem_flatMap.mpr ⟨e, .head _, by rw [e2]; exact .head _⟩⟩
    | succ i =>
      refine cps_EEEA (h4 i p hp) ?_
      intro T' a' b' q1 q2
      exact ⟨T', a', b', q1, by rw [List.flatMap_cons]; exact List.mem_append_right _ q2⟩
local macro_rules | `(tactic| walk_at "eval ListComp") => `(tactic| refine stop_here ?_)
theorem needs_comp_at {w : World} {g base h : Heap} {L sc ln : Addr} {d u tk : Nat} {outer : List Env} {loose : List Str} {mean : ExcName → Option Value} {mg mb : Str → Option Value} {xs : List Value} {oN : Obj} {t0 t1 t2 t3 t4 t5 : Tok} {s : Shared} {Q : Value → Shared → Prop} {E : Value → Shared → Prop} {e : Expr} {env : Env} {A : Around}
   (B : Below (mkA d u outer) base outer g) (X : (hd.heap_39 w.params).In g) (TT : Top hd.view_39 loose mean mg mb g)
   (hSg : g.IsList sc xs.toArray) (hI : ∀ v ∈ xs, ∃ k t, v = .int k t) (hxl : xs.length ≤ 6)
   (F : Fr g L h (ndm sc)) (N : News g L h [(ln, W.listOf (sixV t0 t1 t2 t3 t4 t5).toArray 0), (L + 1, oN)]) (dN : oN.data = .cell (some (.ref ln))) (l1 : L + 1 < ln)
   (he : e = ndComp) (henv : env = ndEnv L) (hA : A = (mkA d u outer).deeper (ndEnv L))
   (hq : ∀ D h' tk' (es : List (Value × Option Value × List (Addr × Obj))), Fr g L h' (ndm sc) → News g L h' ((D, LCg.lst (es.filterMap (·.2.1))) :: es.flatMap (·.2.2)) → es.length ≤ 11 → (∀ e ∈ es, TwoS e.2.1 e.2.2) → Q (.ref D) { s with heap := h', toks := tk' }) :
   wpAny (model PP w) A (eval e env) Q E { s with heap := h, toks := tk } := by
  subst he henv hA
  with_reducible exact needs_comp B X TT hSg hI hxl F N dN l1 hq
noncomputable def NeedsIn (objs : List (Addr × Obj)) (ln : Addr) (ns : List (Str × Str)) : Prop := ∃ vs : List Value, (ln, LCg.lst vs) ∈ objs ∧ vs.length = ns.length ∧ ∀ (i : Nat) (p : Str × Str), ns[i]? = some p → ∃ (T : Addr) (a b : Tok), vs[i]? = some (.ref T) ∧ (T, tupO [.str p.1 a, .str p.2 b]) ∈ objs
theorem NeedsIn.at {objs : List (Addr × Obj)} {ln : Addr} {ns : List (Str × Str)} {h : Heap} (x : NeedsIn objs ln ns) (hh : ∀ p ∈ objs, h.get? p.1 = some p.2) : NeedsAt h ln ns := by
  refine cps_EAA x ?_
  intro vs h1 h2 h3
  clear x
  refine ⟨vs, ⟨_, hh _ h1, rfl, _, rfl⟩, h2, fun i p hp => ?_⟩
  refine cps_EEEA (h3 i p hp) ?_
  intro T a b e1 e2
  exact ⟨T, a, b, e1, _, hh _ e2, rfl, _, rfl⟩
set_option maxHeartbeats 8000000 in
theorem needs_spec {w : World} {A : Around} {b : Heap} {s : Shared} {n : Nat} {sc : Addr} {xs : List Value}
   (C : Cx w (n + 40) A b) (kb : b.StaysIn s.heap) (hS : s.heap.IsList sc xs.toArray) (hI : ∀ v ∈ xs, ∃ k t, v = .int k t) (hxl : xs.length ≤ 6) :
   codeAny (model PP w) A (.call (.ref 180) ⟨[.ref sc], []⟩) (Ret s [] fun v h' => ∃ ln ns objs, v = .ref ln ∧ NeedsIn objs ln ns ∧ (∀ p ∈ objs, h'.get? p.1 = some p.2 ∧ s.heap.get? p.1 = none) ∧ (∀ p ∈ ns, p.1 ∈ six ∧ p.2 ∈ six) ∧ ns.length ≤ 11) s := by
  have hn : ∀ p ∈ ([] : List (Addr × Obj)), s.heap.get? p.1 = some p.2 ∧ b.get? p.1 = none := fun _ h => nomatch h
  have X0 := C.kin.keeps kb
  walk_at "M enterC"
  intro g L h₁ tk cells base outer d u loose mean mg mb hL F N Y B X TT bg hd hu hg gs ll kh
  k_cells Y
  dsimp only [List.cons_append, List.nil_append] at N
  show wpAny _ _ _ _ _ _
  k_fold
  have hSg : g.IsList sc xs.toArray := let ⟨o, ho, r⟩ := hS; ⟨o, hg _ _ ho (fun h => nomatch h), r⟩
  have F0 := fr_congr (m' := ndm sc) F fun y => by
    refine Eq.trans (b := if y = Str.ofString "script" then some (Value.ref sc) else none) (by kernel_rfl) rfl
  clear F
  k_steps
  refine ⟨?_⟩
  rename Fr g _ _ _ => F1
  rename News g _ _ _ => N1
  rename L + 1 < _ => l1
  rename Obj.data _ = Data.cell (some _) => d1
  with_reducible refine needs_comp_at B X TT hSg hI hxl F1 N1 d1 l1 ?he ?henv ?hA ?hq
  case he => rfl
  case henv => rfl
  case hA => rfl
  intro D h' tk' es F2 N2 hlen hG
  clear F1 N1
  k_steps
  dsimp only
  refine cps_EAAA (two_all hG) ?_
  intro ns n1 n2 n3 n4
  refine ⟨_, _, _, rfl, rfl, fun x o e _ => F2.keep _ _ (hg x o e fun h => nomatch h), D, ns, _, rfl, ⟨_, .head _, n3, fun i p hp => ?_⟩, fun p hp => ⟨(N2 p hp).1, ?_⟩, n2, by omega⟩
  · refine cps_EEEA (n4 i p hp) ?_
    intro T a b q1 q2
    exact ⟨T, a, b, q1, .tail _ q2⟩
  · cases e : s.heap.get? p.1 with
    | none => rfl
    | some o =>
      have e1 := hg _ _ e fun h => nomatch h
      rw [(N2 p hp).2.2] at e1; cases e1
end

section
theorem compTurn_two0 (elt t1 i1 t2 i2 : Expr) (scope : Scope) (pos : Pos) (it acc : Value) (env : Env) :
    compTurn (.ListComp elt [⟨t1, i1, [], 0⟩, ⟨t2, i2, [], 0⟩] scope pos) 0 it acc env = (do
      standAt i1.pos
      match ← pyNext it with
      | none => pure (.done .next)
      | some v =>
        letOwnedTupleGo t1 it v
        assign t1 env v
        let mut ok := true
        for c in ([] : List Expr) do
          if ok then ok ← isTrue c env (eval c env)
        if ok then
          let x ← eval i2 env
          standAt i2.pos
          let x ← foldedSetIterable i2 env x
          let _ ← runOwn (.compStart (.ListComp elt [⟨t1, i1, [], 0⟩, ⟨t2, i2, [], 0⟩] scope pos) 1 (← holding [x] (pyIter x)) acc env) env
        again (.compLoop (.ListComp elt [⟨t1, i1, [], 0⟩, ⟨t2, i2, [], 0⟩] scope pos) 0 it acc env)) := by rfl
theorem compTurn_two1 (elt t1 i1 t2 i2 : Expr) (scope : Scope) (pos : Pos) (it acc : Value) (env : Env) :
    compTurn (.ListComp elt [⟨t1, i1, [], 0⟩, ⟨t2, i2, [], 0⟩] scope pos) 1 it acc env = (do
      standAt i2.pos
      match ← pyNext it with
      | none => pure (.done .next)
      | some v =>
        letOwnedTupleGo t2 it v
        assign t2 env v
        let mut ok := true
        for c in ([] : List Expr) do
          if ok then ok ← isTrue c env (eval c env)
        if ok then
          (do let _ ← call (.builtin "list.append") [acc, ← eval elt env])
        again (.compLoop (.ListComp elt [⟨t1, i1, [], 0⟩, ⟨t2, i2, [], 0⟩] scope pos) 1 it acc env)) := by rfl
section
variable {w : World} {A : Around} {R : Result → Shared → Prop} {s : Shared} {elt t1 i1 t2 i2 : Expr} {scope : Scope} {pos : Pos} {it acc : Value} {env : Env}
theorem compLoop_1 (I : Nat → Shared → Prop)
    (turn : ∀ n s, I n s → wpAny (model PP w) A (pyNext it) (fun r s₁ => match r with
      | none => R (.ok .next) s₁
      | some v => wpAny (model PP w) A (letOwnedTupleGo t2 it v) (fun _ s₁' => wpAny (model PP w) A (assign t2 env v) (fun _ s₂ =>
          wpAny (model PP w) A (eval elt env) (fun x s₄ =>
              wpAny (model PP w) A (call (.builtin "list.append") [acc, x]) (fun _ s₅ => ∃ m, m < n ∧ I m s₅) (fun _ _ => False) s₄) (fun _ _ => False) s₂) (fun _ _ => False) s₁') (fun _ _ => False) s₁) (fun _ _ => False) s)
    (n : Nat) (h : I n s) : codeAny (model PP w) A (.compLoop (.ListComp elt [⟨t1, i1, [], 0⟩, ⟨t2, i2, [], 0⟩] scope pos) 1 it acc env) R s := by
  refine codeAny_loop rfl I (fun n s hI => ?_) n h
  show wpAny _ A ((compTurn (.ListComp elt [⟨t1, i1, [], 0⟩, ⟨t2, i2, [], 0⟩] scope pos) 1 it acc env).onRaise (fun x => do noteFrame x env; theTreesLotGoes x)) _ _ s
  refine wpAny_noted ?_
  rw [compTurn_two1]
  refine wpAny_bind (wpAny_standAt (wpAny_bind (wpAny_mono (turn n s hI) (fun r s₁ h₁ => ?_) fun _ _ h' => h'.elim)))
  cases r with
  | none => exact wpAny_pure h₁
  | some v =>
    refine wpAny_bind (wpAny_mono h₁ (fun _ s₁' h₁' => ?_) fun _ _ h' => h'.elim)
    refine wpAny_bind (wpAny_mono h₁' (fun _ s₂ h₂ => wpAny_bind (wpAny_mono (wpAny_tests_nil (Q := fun ok s₃ => ok = true ∧ s₃ = s₂) ⟨rfl, rfl⟩) (fun ok s₃ h₃ => ?_) fun _ _ h' => h')) fun _ _ h' => h'.elim)
    obtain ⟨rfl, rfl⟩ := h₃
    exact wpAny_bind (wpAny_bind (wpAny_mono h₂ (fun x s₄ h₄ => wpAny_bind (wpAny_mono h₄ (fun _ s₅ h₅ => wpAny_pure (wpAny_pure ⟨rfl, h₅⟩)) fun _ _ h' => h'.elim)) fun _ _ h' => h'.elim))
theorem compLoop_0 (I : Nat → Shared → Prop)
    (turn : ∀ n s, I n s → wpAny (model PP w) A (pyNext it) (fun r s₁ => match r with
      | none => R (.ok .next) s₁
      | some v => wpAny (model PP w) A (letOwnedTupleGo t1 it v) (fun _ s₁' => wpAny (model PP w) A (assign t1 env v) (fun _ s₂ =>
          wpAny (model PP w) A (eval i2 env) (fun x s₄ => wpAny (model PP w) A (foldedSetIterable i2 env x) (fun x' s₅ => wpAny (model PP w) A (pyIter x') (fun it2 s₆ =>
            codeAny (model PP w) A (.compStart (.ListComp elt [⟨t1, i1, [], 0⟩, ⟨t2, i2, [], 0⟩] scope pos) 1 it2 acc env) (fun r s₇ => (∃ f, r = .ok f) ∧ ∃ m, m < n ∧ I m s₇) s₆) (fun _ _ => False) s₅) (fun _ _ => False) s₄) (fun _ _ => False) s₂) (fun _ _ => False) s₁') (fun _ _ => False) s₁) (fun _ _ => False) s)
    (n : Nat) (h : I n s) : codeAny (model PP w) A (.compLoop (.ListComp elt [⟨t1, i1, [], 0⟩, ⟨t2, i2, [], 0⟩] scope pos) 0 it acc env) R s := by
  refine codeAny_loop rfl I (fun n s hI => ?_) n h
  show wpAny _ A ((compTurn (.ListComp elt [⟨t1, i1, [], 0⟩, ⟨t2, i2, [], 0⟩] scope pos) 0 it acc env).onRaise (fun x => do noteFrame x env; theTreesLotGoes x)) _ _ s
  refine wpAny_noted ?_
  rw [compTurn_two0]
  refine wpAny_bind (wpAny_standAt (wpAny_bind (wpAny_mono (turn n s hI) (fun r s₁ h₁ => ?_) fun _ _ h' => h'.elim)))
  cases r with
  | none => exact wpAny_pure h₁
  | some v =>
    refine wpAny_bind (wpAny_mono h₁ (fun _ s₁' h₁' => ?_) fun _ _ h' => h'.elim)
    refine wpAny_bind (wpAny_mono h₁' (fun _ s₂ h₂ => wpAny_bind (wpAny_mono (wpAny_tests_nil (Q := fun ok s₃ => ok = true ∧ s₃ = s₂) ⟨rfl, rfl⟩) (fun ok s₃ h₃ => ?_) fun _ _ h' => h')) fun _ _ h' => h'.elim)
    obtain ⟨rfl, rfl⟩ := h₃
    refine wpAny_bind (wpAny_mono h₂ (fun x s₄ h₄ => ?_) fun _ _ h' => h'.elim)
    refine wpAny_bind (wpAny_standAt (wpAny_bind (wpAny_mono h₄ (fun x' s₅ h₅ => ?_) fun _ _ h' => h'.elim)))
    refine wpAny_bind (wpAny_holding (wpAny_mono h₅ (fun it2 s₆ h₆ => ?_) fun _ _ h' => h'.elim))
    refine wpAny_bind (wpAny_runOwn (codeAny_mono h₆ fun r s₇ z => ?_))
    refine cps_AEA z ?_
    rintro ⟨f, rfl⟩ m hm hI'
    clear z
    exact wpAny_pure ⟨rfl, m, hm, hI'⟩
theorem compStart_1 (h0 : codeAny (model PP w) A (.compLoop (.ListComp elt [⟨t1, i1, [], 0⟩, ⟨t2, i2, [], 0⟩] scope pos) 1 it acc env) R s)
    (h : wpAny (model PP w) A (pyIter it) (fun it' s' => codeAny (model PP w) A (.compLoop (.ListComp elt [⟨t1, i1, [], 0⟩, ⟨t2, i2, [], 0⟩] scope pos) 1 it' acc env) R s') (fun _ _ => False) s) :
    codeAny (model PP w) A (.compStart (.ListComp elt [⟨t1, i1, [], 0⟩, ⟨t2, i2, [], 0⟩] scope pos) 1 it acc env) R s := by
  refine codeAny_of_tree ?_
  show wpAny _ _ ((compStart (.ListComp elt [⟨t1, i1, [], 0⟩, ⟨t2, i2, [], 0⟩] scope pos) 1 it acc env).onRaise (fun x => do noteFrame x env; standAt theWindowsPlace)) _ _ s
  refine wpAny_notedAt ?_
  unfold compStart
  show wpAny _ _ (ask >>= _) _ _ s
  refine wpAny_bind (wpAny_askSetting (wpAny_ite ?_))
  split
  · first
      | exact wpAny_bind (wpAny_pure (wpAny_pure (And.intro rfl h0)))
      | exact wpAny_pure (And.intro rfl h0)
  · first
      | exact wpAny_bind (wpAny_rule (wpAny_bind (wpAny_standAt (wpAny_bind (wpAny_mono h (fun it' s' h' => wpAny_pure (And.intro rfl h')) fun _ _ x => x.elim)))))
      | (refine wpAny_bind (wpAny_rule ?_); show wpAny _ _ (standAt i2.pos >>= _) _ _ s; exact wpAny_bind (wpAny_standAt (wpAny_bind (wpAny_mono h (fun it' s' h' => wpAny_pure (And.intro rfl h')) fun _ _ x => x.elim))))
end
end

section
section
variable {w : World} {A : Around} {E : Value → Shared → Prop} {s : Shared} {g : Heap} {L C : Addr} {m : Str → Option Value} {scope : Scope} {cl : List (Str × Addr)} {env : Env}
theorem store_own {x : Str} {v : Value} {Q : Unit → Shared → Prop} {px : Pos} (hkind : scope.kind = .function) (hx : scope.names.lookup x = some .local) {m₀ : Str → Option Value} (hns : s.heap.Ns C m₀)
    (h : ∀ h', h'.Ns C (fun y => if y = x then some v else m₀ y) → (∀ b o, b ≠ C → s.heap.get? b = some o → h'.get? b = some o) → Q () { s with heap := h', toks := s.toks + 1 }) :
    wpAny (model PP w) A (assign (.Name x px) (compEnvC scope cl C env) v) Q E s :=
  wpAny_assign_Name (wpAny_storeName_local (lookup_relabel_local hx) hns (fun h' hn hs => h h' hn fun b o hb e => hs.extBut b o hb e) (by simp [compEnvC, relabel, hkind]))
theorem load_own {x : Str} {v : Value} {Q : Value → Shared → Prop} {px : Pos} (hkind : scope.kind = .function) (hx : scope.names.lookup x = some .local) (hd : (x == ("__debug__" : Str)) = false) {m₀ : Str → Option Value} (hns : s.heap.Ns C m₀) (hv : m₀ x = some v) (h : Q v s) :
    wpAny (model PP w) A (eval (.Name x px) (compEnvC scope cl C env)) Q E s :=
  wpAny_Name (wpAny_loadName_local (by simp [compEnvC, relabel, hkind]) (lookup_relabel_local hx) hns hv h) hd
theorem flat_inner {t1 i1 i2 : Expr} {y : Str} {py py' : Pos} {pos : Pos} {scope' : Scope} {R : Result → Shared → Prop} {I2 D T : Addr} {its : List Value} {keep : List (Addr × Obj)} {pre : List Value}
    (hh : A.handled = none) (hkind : scope.kind = .function) (hy : scope.names.lookup y = some .local) (hd : (y == ("__debug__" : Str)) = false) (hC : C ≠ L ∧ g.get? C = none) (offC : ∀ p ∈ keep, p.1 ≠ C) (hDC : D ≠ C)
    (hD : D ≠ L ∧ g.get? D = none) (offD : ∀ p ∈ keep, p.1 ≠ D) (hI2 : I2 ≠ L ∧ g.get? I2 = none) (offI2 : ∀ p ∈ keep, p.1 ≠ I2) (hI2D : I2 ≠ D) (hI2C : I2 ≠ C)
    (hT : ∀ h', Fr g L h' m → News g L h' keep → h'.IsTuple T its.toArray) (hTI : T ≠ I2)
    {m₀ : Str → Option Value} (F : Fr g L s.heap m) (N : News g L s.heap ((D, LCg.lst pre) :: keep)) (hns : s.heap.Ns C m₀) (hit : s.heap.IsTupleIter I2 T 0) (hsz : pre.length + its.length ≤ sizeLine)
    (done : ∀ h tk m₁, Fr g L h m → News g L h ((D, LCg.lst (pre ++ its)) :: keep) → h.Ns C m₁ → R (.ok .next) { s with heap := h, toks := tk }) :
    codeAny (model PP w) A (.compLoop (.ListComp (.Name y py) [⟨t1, i1, [], 0⟩, ⟨.Name y py', i2, [], 0⟩] scope' pos) 1 (.ref I2) (.ref D) (compEnvC scope cl C env)) R s := by
  have W := Walks.tuple (prog := PP) (w := w) hh I2 T hTI its.toArray
  have hsize : its.toArray.size = its.length := List.size_toArray ..
  refine compLoop_1 (fun k s' => ∃ h tk j m₁, s' = { s with heap := h, toks := tk } ∧ j ≤ its.length ∧ k = its.length + 1 - j ∧ h.IsTupleIter I2 T j ∧ Fr g L h m ∧ News g L h ((D, LCg.lst (pre ++ its.take j)) :: keep) ∧ h.Ns C m₁) ?_ (its.length + 1)
    ⟨s.heap, s.toks, 0, m₀, rfl, Nat.zero_le _, rfl, hit, F, by rw [List.take_zero, List.append_nil]; exact N, hns⟩
  clear F N hns hit
  intro k s' hXX
  refine cps_EEEEAAAAAA hXX ?_
  rintro h tk j m₁ rfl hj rfl hit F N hns
  clear hXX
  have hTh := hT h F fun p hp => N p (.tail _ hp)
  have offI : ∀ p ∈ (D, LCg.lst (pre ++ its.take j)) :: keep, p.1 ≠ I2 := List.forall_mem_cons.mpr ⟨Ne.symm hI2D, offI2⟩
  by_cases hlt : j < its.length
  · refine W.item j _ _ _ (by rw [hsize]; exact hlt) ⟨hit, hTh⟩ fun v h₁ tk₁ hPv st₁ hk₁ => ?_
    have k₁ : ∀ b o, b ≠ I2 → h.get? b = some o → h₁.get? b = some o := fun b o hb e => hk₁ b o (fun q => hb (List.mem_singleton.mp q)) e
    have hv : its[j]? = some v := by simpa using hPv
    have F₁ := fr_but1 F hI2.1 hI2.2 k₁
    have N₁ := news_but1 N offI k₁
    have n₁ := hns.at' fun o e => k₁ _ o (Ne.symm hI2C) e
    refine wpAny_of_eq (a := ()) (by rfl) ?_
    refine store_own hkind hy n₁ fun h₂ n₂ k₂ => ?_
    have F₂ := fr_but1 F₁ hC.1 hC.2 k₂
    have N₂ := news_but1 N₁ (List.forall_mem_cons.mpr ⟨hDC, offC⟩) k₂
    refine load_own (v := v) hkind hy hd n₂ (by simp) ?_
    have ND := N₂ _ (.head _)
    refine append_at (hsz := by
      show (pre ++ its.take j).toArray.size ≤ sizeLine
      rw [List.size_toArray, List.length_append, List.length_take]; omega) ND.1 fun h₃ hs₃ hD₃ => ?_
    have k₃ : ∀ b o, b ≠ D → h₂.get? b = some o → h₃.get? b = some o := fun b o hb e => hs₃.extBut b o hb e
    have F₃ := fr_but1 F₂ hD.1 hD.2 k₃
    have N₃ := news_but1 (fun p hp => N₂ p (.tail _ hp)) offD k₃
    refine ⟨its.length + 1 - (j + 1), sb1 hlt, h₃, _, j + 1, _, rfl, hlt, rfl, ?_, F₃, ?_, n₂.at' fun o e => k₃ _ o (Ne.symm hDC) e⟩
    · exact st₁.1.at fun o e => k₃ _ o hI2D (k₂ _ o hI2C e)
    · refine List.forall_mem_cons.mpr ⟨⟨?_, hD⟩, N₃⟩
      have e1 : pre ++ its.take (j + 1) = (pre ++ its.take j) ++ [v] := by rw [List.take_add_one, hv, ← List.append_assoc]; rfl
      rw [e1]
      exact hD₃.trans (congrArg some (LCg.lst_snoc _ v))
  · have hje : j = its.length := by omega
    subst hje
    refine W.done _ _ _ (by rw [hsize]; exact ⟨hit, hTh⟩) fun h₁ tk₁ hk₁ => ?_
    have k₁ : ∀ b o, b ≠ I2 → h.get? b = some o → h₁.get? b = some o := fun b o hb e => hk₁ b o (fun q => hb (List.mem_singleton.mp q)) e
    have N₁ := news_but1 N offI k₁
    rw [List.take_length] at N₁
    exact done h₁ tk₁ m₁ (fr_but1 F hI2.1 hI2.2 k₁) N₁ (hns.at' fun o e => k₁ _ o (Ne.symm hI2C) e)
theorem flat_loop {x y : Str} {i1 : Expr} {px px' py py' : Pos} {pos : Pos} {scope' : Scope} {R : Result → Shared → Prop} {I D ax : Addr} {items : List Value} {news₀ : List (Addr × Obj)} (f : Value → List Value)
    (hh : A.handled = none) (hkind : scope.kind = .function) (hx : scope.names.lookup x = some .local) (hy : scope.names.lookup y = some .local) (hdx : (x == ("__debug__" : Str)) = false) (hdy : (y == ("__debug__" : Str)) = false)
    (hC : C ≠ L ∧ g.get? C = none) (offC : ∀ p ∈ news₀, p.1 ≠ C) (hDC : D ≠ C) (hIC : I ≠ C) (hD : D ≠ L ∧ g.get? D = none) (offD : ∀ p ∈ news₀, p.1 ≠ D) (hI : I ≠ L ∧ g.get? I = none) (offI : ∀ p ∈ news₀, p.1 ≠ I) (hID : I ≠ D)
    (hax : ax ≠ I) (hl : ∀ h', Fr g L h' m → News g L h' news₀ → h'.IsList ax items.toArray) (hit₀ : s.heap.IsListIter I ax 0) (hsz : (items.flatMap f).length ≤ 1000)
    (hT : ∀ v ∈ items, ∃ T, v = .ref T ∧ ∀ h', Fr g L h' m → News g L h' news₀ → h'.IsTuple T (f v).toArray)
    {m₀ : Str → Option Value} (F : Fr g L s.heap m) (N : News g L s.heap ((D, LCg.lst []) :: news₀)) (hns : s.heap.Ns C m₀)
    (done : ∀ h tk m₁, Fr g L h m → News g L h ((D, LCg.lst (items.flatMap f)) :: news₀) → h.Ns C m₁ → R (.ok .next) { s with heap := h, toks := tk }) :
    codeAny (model PP w) A (.compLoop (.ListComp (.Name y py) [⟨.Name x px, i1, [], 0⟩, ⟨.Name y py', .Name x px', [], 0⟩] scope' pos) 0 (.ref I) (.ref D) (compEnvC scope cl C env)) R s := by
  have W := Walks.list (prog := PP) (w := w) hh I ax hax items.toArray
  have hsize : items.toArray.size = items.length := List.size_toArray ..
  refine compLoop_0 (fun k s' => ∃ h tk i m₁, s' = { s with heap := h, toks := tk } ∧ i ≤ items.length ∧ k = items.length + 1 - i ∧ h.IsListIter I ax i ∧ Fr g L h m ∧ News g L h ((D, LCg.lst ((items.take i).flatMap f)) :: news₀) ∧ h.Ns C m₁) ?_ (items.length + 1)
    ⟨s.heap, s.toks, 0, m₀, rfl, Nat.zero_le _, rfl, hit₀, F, by rw [List.take_zero]; exact N, hns⟩
  clear F N hns hit₀
  intro k s' hXX
  refine cps_EEEEAAAAAA hXX ?_
  rintro h tk i m₁ rfl hi rfl hit F N hns
  clear hXX
  have hlh := hl h F fun p hp => N p (.tail _ hp)
  have offAll : ∀ p ∈ (D, LCg.lst ((items.take i).flatMap f)) :: news₀, p.1 ≠ I := List.forall_mem_cons.mpr ⟨Ne.symm hID, offI⟩
  by_cases hlt : i < items.length
  · refine W.item i _ _ _ (by rw [hsize]; exact hlt) ⟨hit, hlh⟩ fun v h₁ tk₁ hPv st₁ hk₁ => ?_
    have k₁ : ∀ b o, b ≠ I → h.get? b = some o → h₁.get? b = some o := fun b o hb e => hk₁ b o (fun q => hb (List.mem_singleton.mp q)) e
    have hv : items[i]? = some v := by simpa using hPv
    with_reducible refine hide ?_
    intro GG hGG
    obtain ⟨T, rfl, hTv⟩ := hT v (List.mem_of_getElem? hv)
    have F₁ := fr_but1 F hI.1 hI.2 k₁
    have N₁ := news_but1 N offAll k₁
    have n₁ := hns.at' fun o e => k₁ _ o (Ne.symm hIC) e
    obtain ⟨oI, eI, rI⟩ := st₁.1
    with_reducible refine hGG ?_
    clear hGG GG
    refine wpAny_of_eq (a := ()) (by rfl) ?_
    refine store_own hkind hx n₁ fun h₂ n₂ k₂ => ?_
    have F₂ := fr_but1 F₁ hC.1 hC.2 k₂
    have N₂ := news_but1 N₁ (List.forall_mem_cons.mpr ⟨hDC, offC⟩) k₂
    have eI₂ := k₂ _ _ hIC eI
    refine load_own (v := .ref T) hkind hx hdx n₂ (by simp) ?_
    refine wpAny_of_eq (a := Value.ref T) (by rfl) ?_
    have hT₂ := hTv h₂ F₂ fun p hp => N₂ p (.tail _ hp)
    refine wpAny_pyIter_tuple hT₂ ?_
    have up : ∀ b o, h₂.get? b = some o → (h₂.push { cls := .type "tuple_iterator", data := .fields #[.ref T, .int 0 0] }).get? b = some o := fun b o e => Heap.get?_push_of_some _ e
    have new : ∀ {b : Addr} {o : Obj}, h₂.get? b = some o → b ≠ h₂.objs.size := fun e => Nat.ne_of_lt (Heap.lt_size e)
    have F₃ := F₂.kept up
    have N₃ := N₂.grown up
    have hnI2 := fr_push1 F₂
    with_reducible refine hide ?_
    intro GG hGG
    refine cps_EEEA (id n₂) ?_
    intro oC _ _ eC _
    obtain ⟨oT, eT, _⟩ := id hT₂
    with_reducible refine hGG ?_
    clear hGG GG
    have hit₃ : (h₂.push { cls := .type "tuple_iterator", data := .fields #[.ref T, .int 0 0] }).IsTupleIter h₂.objs.size T 0 := ⟨_, Heap.get?_push_size _ rfl, rfl, rfl⟩
    have hTT : ∀ h', Fr g L h' m → News g L h' ((I, oI) :: news₀) → h'.IsTuple T (f (.ref T)).toArray := fun h' F' N' => hTv h' F' fun p hp => N' p (.tail _ hp)
    have hlen : ((items.take i).flatMap f).length + (f (.ref T)).length ≤ 1000 := by
      have e1 : (items.take (i + 1)).flatMap f = (items.take i).flatMap f ++ f (.ref T) := by rw [List.take_add_one, hv, List.flatMap_append]; simp
      have e2 : ((items.take (i + 1)).flatMap f).length ≤ (items.flatMap f).length := by
        conv => rhs; rw [← List.take_append_drop (i + 1) items, List.flatMap_append, List.length_append]
        omega
      rw [e1, List.length_append] at e2; omega
    have inner : ∀ s₃ : Shared, s₃ = { s with heap := h₂.push { cls := .type "tuple_iterator", data := .fields #[.ref T, .int 0 0] }, toks := tk₁ + 1 } →
        codeAny (model PP w) A (.compLoop (.ListComp (.Name y py) [⟨.Name x px, i1, [], 0⟩, ⟨.Name y py', .Name x px', [], 0⟩] scope' pos) 1 (.ref h₂.objs.size) (.ref D) (compEnvC scope cl C env))
          (fun r s₇ => (∃ f, r = .ok f) ∧ ∃ m', m' < items.length + 1 - i ∧ ∃ h tk i m₁, s₇ = { s with heap := h, toks := tk } ∧ i ≤ items.length ∧ m' = items.length + 1 - i ∧ h.IsListIter I ax i ∧ Fr g L h m ∧ News g L h ((D, LCg.lst ((items.take i).flatMap f)) :: news₀) ∧ h.Ns C m₁) s₃ := by
      rintro s₃ rfl
      refine flat_inner (keep := (I, oI) :: news₀) (pre := (items.take i).flatMap f) (its := f (.ref T)) hh hkind hy hdy hC (List.forall_mem_cons.mpr ⟨hIC, offC⟩) hDC hD (List.forall_mem_cons.mpr ⟨hID, offD⟩) hnI2
        (List.forall_mem_cons.mpr ⟨new eI₂, fun p hp => new (N₂ p (.tail _ hp)).1⟩) (Ne.symm (new (N₂ _ (.head _)).1)) (Ne.symm (new eC)) hTT (new eT) F₃
        (List.forall_mem_cons.mpr ⟨N₃ _ (.head _), List.forall_mem_cons.mpr ⟨⟨up _ _ eI₂, hI⟩, fun p hp => N₃ p (.tail _ hp)⟩⟩) (n₂.at' fun o e => up _ o e) hit₃ (by rw [sizeLine_eq]; omega) fun h₄ tk₄ m₄ F₄ N₄ n₄ => ?_
      refine ⟨⟨_, rfl⟩, items.length + 1 - (i + 1), sb1 hlt, h₄, tk₄, i + 1, m₄, rfl, hlt, rfl, ?_, F₄, ?_, n₄⟩
      · exact ⟨oI, (N₄ _ (.tail _ (.head _))).1, rI⟩
      · rw [List.take_add_one, hv, List.flatMap_append]
        refine List.forall_mem_cons.mpr ⟨?_, fun p hp => N₄ p (.tail _ (.tail _ hp))⟩
        have := N₄ _ (.head _)
        simpa using this
    exact compStart_1 (inner _ rfl) ((Walks.tuple (prog := PP) (w := w) hh h₂.objs.size T (new eT) (f (.ref T)).toArray).self 0 _ _ _ ⟨hit₃, hT₂.at fun o e => up _ o e⟩ (inner _ rfl))
  · have hie : i = items.length := by omega
    subst hie
    refine W.done _ _ _ (by rw [hsize]; exact ⟨hit, hlh⟩) fun h₁ tk₁ hk₁ => ?_
    have k₁ : ∀ b o, b ≠ I → h.get? b = some o → h₁.get? b = some o := fun b o hb e => hk₁ b o (fun q => hb (List.mem_singleton.mp q)) e
    have N₁ := news_but1 N offAll k₁
    rw [List.take_length] at N₁
    exact done h₁ tk₁ m₁ (fr_but1 F hI.1 hI.2 k₁) N₁ (hns.at' fun o e => k₁ _ o (Ne.symm hIC) e)
end
section
variable {w : World} {A : Around} {E : Value → Shared → Prop} {s : Shared} {g : Heap} {L : Addr} {m : Str → Option Value} {scope : Scope} {cl : List (Str × Addr)} {env : Env}
theorem comp_flat {x y : Str} {i1 : Expr} {px px' py py' pos : Pos} {Q : Value → Shared → Prop} (F₀ : Fr g L s.heap m) (hh : A.handled = none) (hclos : closureFor scope env = pure cl) (hkind : scope.kind = .function) (hnames : ∀ y ∈ scope.names, y.2 = .local → scope.names.lookup y.1 = some .local)
    (hx : scope.names.lookup x = some .local) (hy : scope.names.lookup y = some .local) (hdx : (x == ("__debug__" : Str)) = false) (hdy : (y == ("__debug__" : Str)) = false) (hown : ∀ C, ownc C scope = [])
    (f : Value → List Value)
    (h : wpAny (model PP w) A (eval i1 env) (fun xv s₁ => Stop (∃ (ax : Addr) (items : List Value) (news₀ : List (Addr × Obj)), xv = .ref ax ∧ Fr g L s₁.heap m ∧ News g L s₁.heap news₀ ∧ (∀ h', Fr g L h' m → News g L h' news₀ → h'.IsList ax items.toArray) ∧ (items.flatMap f).length ≤ 1000 ∧
      (∀ v ∈ items, ∃ T, v = .ref T ∧ ∀ h', Fr g L h' m → News g L h' news₀ → h'.IsTuple T (f v).toArray) ∧
      (∀ (D : Addr) h' tk, Fr g L h' m → News g L h' ((D, LCg.lst (items.flatMap f)) :: news₀) → (∀ p ∈ news₀, p.1 ≠ D) → (∀ b o, s₁.heap.get? b = some o → b ≠ D) → Q (.ref D) { s₁ with heap := h', toks := tk }))) E s)
    (hs : ∀ x, foldedSetIterable i1 env x = pure x := by intro _; rfl) :
    wpAny (model PP w) A (eval (.ListComp (.Name y py) [⟨.Name x px, i1, [], 0⟩, ⟨.Name y py', .Name x px', [], 0⟩] scope pos) env) Q E s := by
  rw [eval_ListComp]
  refine wpAny_comprehension_free (use := none) rfl hs hclos hkind hnames (wpAny_mono h (fun xv s₁ z => ?_) fun _ _ e => e)
  refine cps_EEEAAAAAA (z.go) ?_
  rintro ax items news₀ rfl F N hl hsz hT done
  have hL := hl _ F N
  have hlt : ax < s₁.heap.objs.size := by obtain ⟨_, e, _⟩ := hL; exact Heap.lt_size e
  refine wpAny_pyIter_list hL ?_
  generalize hs₂ : ({ s₁ with heap := s₁.heap.push { cls := .type "list_iterator", data := .fields #[.ref ax, .int 0 0] } } : Shared) = s₂
  have eI : s₂.heap.get? s₁.heap.objs.size = some { cls := .type "list_iterator", data := .fields #[.ref ax, .int 0 0] } := by rw [← hs₂]; exact Heap.get?_push_size _ rfl
  have up : ∀ b o, s₁.heap.get? b = some o → s₂.heap.get? b = some o := fun b o e => by rw [← hs₂]; exact Heap.get?_push_of_some _ e
  have hs₁ : s₂.heap.objs.size = s₁.heap.objs.size + 1 := by rw [← hs₂]; exact Heap.size_push ..
  refine wpAny_newObj_type (newEnv_in ?_)
  dsimp only
  generalize hH2 : s₂.heap.push { cls := .type "list", dict := none, data := .seq ([] : List Value).toArray } = H2
  have hCs : H2.objs.size = s₂.heap.objs.size + 1 := by rw [← hH2, Heap.size_push]
  have up2 : ∀ b o, s₂.heap.get? b = some o → H2.get? b = some o := fun b o e => hH2 ▸ Heap.get?_push_of_some _ e
  have up3 : ∀ b o, H2.get? b = some o → (pushCells (H2.push { cls := .type "dict", data := .dict #[] }) scope.names).get? b = some o := fun b o e => pushCells_keeps _ _ b o (Heap.get?_push_of_some _ e)
  have hns : (pushCells (H2.push { cls := .type "dict", data := .dict #[] }) scope.names).Ns H2.objs.size fun _ => none := (Heap.Ns.new H2 (.type "dict")).keeps (pushCells_keeps _ _)
  generalize hh₁ : pushCells (H2.push { cls := .type "dict", data := .dict #[] }) scope.names = h₁ at hns up3 ⊢
  have lt1 : ∀ {b : Addr} {o : Obj}, s₁.heap.get? b = some o → b < s₁.heap.objs.size := fun e => Heap.lt_size e
  have hIlt : s₁.heap.objs.size < s₂.heap.objs.size := by rw [hs₁]; exact Nat.lt_succ_self _
  have hDlt : s₂.heap.objs.size < H2.objs.size := by rw [hCs]; exact Nat.lt_succ_self _
  have hacc : h₁.get? s₂.heap.objs.size = some (LCg.lst []) := up3 _ _ (hH2 ▸ Heap.get?_push_size _ rfl)
  have old : ∀ b o, s₁.heap.get? b = some o → h₁.get? b = some o := fun b o e => up3 _ _ (up2 _ _ (up _ _ e))
  have hLlt : L < s₁.heap.objs.size := F.ns.lt
  have fresh : ∀ a, s₁.heap.objs.size ≤ a → a ≠ L ∧ g.get? a = none := fun a ha => by
    refine ⟨Nat.ne_of_gt (Nat.lt_of_lt_of_le hLlt ha), ?_⟩
    cases e : g.get? a with
    | none => rfl
    | some o' => exact absurd (lt1 (F.keep a o' e)) (Nat.not_lt.mpr ha)
  have off : ∀ {a : Addr}, s₁.heap.objs.size ≤ a → ∀ p ∈ news₀, p.1 ≠ a := fun ha p hp => Nat.ne_of_lt (Nat.lt_of_lt_of_le (lt1 (N p hp).1) ha)
  have hI1 : s₁.heap.objs.size ≤ s₂.heap.objs.size := Nat.le_of_lt hIlt
  have hC1 : s₁.heap.objs.size ≤ H2.objs.size := Nat.le_of_lt (Nat.lt_trans hIlt hDlt)
  have loop : ∀ s₃ : Shared, s₃ = { s₂ with heap := h₁ } →
      codeAny (model PP w) A (.compLoop (.ListComp (.Name y py) [⟨.Name x px, i1, [], 0⟩, ⟨.Name y py', .Name x px', [], 0⟩] scope pos) 0 (.ref s₁.heap.objs.size) (.ref s₂.heap.objs.size) (compEnvC scope (cellsFrom (H2.objs.size + 1) scope.names cl) H2.objs.size env))
        (compPost (model PP w) A E none Q (.ref s₂.heap.objs.size) H2.objs.size) s₃ := by
    rintro s₃ rfl
    refine flat_loop f hh hkind hx hy hdx hdy (fresh _ hC1) (off hC1) (Nat.ne_of_lt hDlt) (Nat.ne_of_lt (Nat.lt_trans hIlt hDlt)) (fresh _ hI1) (off hI1) (fresh _ (Nat.le_refl _)) (off (Nat.le_refl _)) (Nat.ne_of_lt hIlt) (Nat.ne_of_lt hlt) hl
      ⟨_, up3 _ _ (up2 _ _ eI), rfl, rfl⟩ hsz hT (F.keeps old) (List.forall_mem_cons.mpr ⟨⟨hacc, fresh _ hI1⟩, N.grown old⟩) hns fun h' tk m' F' N' n' => ?_
    have nC := fresh _ hC1
    refine ⟨m', n', fun h'' hs'' => ?_⟩
    have N'' := news_but1 N' (List.forall_mem_cons.mpr ⟨Nat.ne_of_lt hDlt, off hC1⟩) fun b o hb e => hs''.extBut b o hb e
    have fin := done _ h'' tk (F'.change hs'' nC.1 nC.2) N'' (off hI1) fun b o e => Nat.ne_of_lt (Nat.lt_trans (lt1 e) hIlt)
    rw [← hs₂] at fin ⊢
    exact fin
  refine codeAny_compStart_list (loop _ rfl) ((Walks.list (prog := PP) (w := w) hh s₁.heap.objs.size ax (Nat.ne_of_lt hlt) items.toArray).self 0 _ _ _ ⟨⟨_, up3 _ _ (up2 _ _ eI), rfl, rfl⟩, hL.at fun o e => old _ o e⟩ (loop _ rfl))
end
end

section
noncomputable def valOf : Stmt → Expr
  | .Assign _ e _ => e
  | .Expr e _ => e
  | _ => .Constant .none 0 ⟨0, 0, 0, 0⟩
noncomputable def argOf : Expr → Expr
  | .Call _ (a :: _) _ _ => a
  | e => e
noncomputable def duFn : Stmt := stAt PP.main.body 17
@[reducible] noncomputable def duEnv (L : Addr) : Env := envX (Str.ofString "_law_due") (stScope duFn) L 204 (.ref 203) [(Str.ofString "later", L + 4), (Str.ofString "left", L + 3), (Str.ofString "names", L + 2), (Str.ofString "needs", L + 1)]
noncomputable def duFlat : Expr := valOf (stAt (stBody duFn) 0)
noncomputable def duUniq : Expr := argOf (valOf (stAt (stBody duFn) 1))
noncomputable def duLater : Expr := valOf (stAt (stBody duFn) 3)
noncomputable def duWhile : Stmt := stAt (stBody duFn) 4
noncomputable def duDone : Expr := argOf (valOf (stAt (stBody duWhile) 0))
noncomputable def duLater2 : Expr := valOf (stAt (stBody duWhile) 2)
noncomputable def inTup (g : Heap) : Value → List Value
  | .ref T => match g.get? T with
    | some o => match o.data with
      | .seq its _ => its.toList
      | _ => []
    | none => []
  | _ => []
theorem inTup_is {g : Heap} {T : Addr} {its : Array Value} (h : IsTup g T its) : inTup g (.ref T) = its.toList := by
  refine cps_EAAE h ?_
  intro o ho _ n hd
  clear h
  simp only [inTup, ho, hd]
theorem flat_vals {f : Value → List Value} : ∀ {ns : List (Str × Str)} {vs : List Value}, vs.length = ns.length → (∀ (i : Nat) (p : Str × Str), ns[i]? = some p → ∃ (T : Addr) (a b : Tok), vs[i]? = some (.ref T) ∧ f (.ref T) = [.str p.1 a, .str p.2 b]) →
    StrsAre (vs.flatMap f) (flat ns) ∧ (∀ v ∈ vs, ∃ T p a b, p ∈ ns ∧ v = .ref T ∧ f (.ref T) = [.str p.1 a, .str p.2 b])
  | [], [], _, _ => ⟨.nil, fun _ h => nomatch h⟩
  | [], _ :: _, h, _ => by cases h
  | _ :: _, [], h, _ => by cases h
  | p :: ns, v :: vs, hl, h => by
    refine cps_EEEA (h 0 p rfl) ?_
    intro T a b e1 e2
    cases e1
    obtain ⟨h1, h2⟩ := flat_vals (f := f) (ns := ns) (vs := vs) (Nat.succ.inj hl) fun i q hq => h (i + 1) q hq
    refine ⟨?_, List.forall_mem_cons.mpr ⟨⟨T, p, a, b, .head _, rfl, e2⟩, fun v hv => let ⟨T, p, a, b, q1, q2⟩ := h2 v hv; ⟨T, p, a, b, .tail _ q1, q2⟩⟩⟩
    rw [List.flatMap_cons, e2]
    exact .cons _ _ (.cons _ _ h1)
set_option maxHeartbeats 8000000 in
theorem due_flat {w : World} {g base h : Heap} {L ln : Addr} {d u tk : Nat} {outer : List Env} {loose : List Str} {mean : ExcName → Option Value} {mg mb : Str → Option Value} {vs : List Value} {ns : List (Str × Str)} {news : List (Addr × Obj)} {o1 : Obj} {m : Str → Option Value} {s : Shared} {Q : Value → Shared → Prop} {E : Value → Shared → Prop} {e : Expr} {env : Env} {A : Around}
   (B : Below (mkA d u outer) base outer g) (X : (hd.heap_39 w.params).In g) (TT : Top hd.view_39 loose mean mg mb g)
   (hvs : g.IsList ln vs.toArray) (hvl : vs.length = ns.length) (hT : ∀ (i : Nat) (p : Str × Str), ns[i]? = some p → ∃ (T : Addr) (a b : Tok), vs[i]? = some (.ref T) ∧ IsTup g T #[.str p.1 a, .str p.2 b]) (hnl : ns.length ≤ 11)
   (F : Fr g L h m) (N : News g L h ((L + 1, o1) :: news)) (d1 : o1.data = .cell (some (.ref ln)))
   (he : e = duFlat) (henv : env = duEnv L) (hA : A = (mkA d u outer).deeper (duEnv L))
   (hq : ∀ D h' tk' ys, Fr g L h' m → News g L h' ((D, LCg.lst ys) :: (L + 1, o1) :: news) → (∀ p ∈ (L + 1, o1) :: news, p.1 ≠ D) → StrsAre ys (flat ns) → Q (.ref D) { s with heap := h', toks := tk' }) :
   wpAny (model PP w) A (eval e env) Q E { s with heap := h, toks := tk } := by
  subst he henv hA
  have eW : duFlat = .ListComp _ _ _ _ := rfl
  have eS : stScope duFn = { kind := _, names := _, isGenerator := _, isCoroutine := _, more := _ } := rfl
  rw [duEnv, eS, eW]
  clear eW eS
  obtain ⟨hys, hvv⟩ := flat_vals (f := inTup g) hvl fun i p hp => by
    refine cps_EEEA (hT i p hp) ?_
    intro T a b e1 e2
    exact ⟨T, a, b, e1, inTup_is e2⟩
  have hTv : ∀ v ∈ vs, ∃ T, v = Value.ref T ∧ IsTup g T (inTup g v).toArray := fun v hv => by
    with_reducible refine hide ?_
    intro GG hGG
    obtain ⟨i, hi⟩ := List.mem_iff_getElem?.mp hv
    have hlt : i < ns.length := by rw [← hvl]; exact (List.getElem?_eq_some_iff.mp hi).1
    refine cps_EEEA (hT i _ (List.getElem?_eq_getElem hlt)) ?_
    intro T a b e1 e2
    with_reducible refine hGG ?_
    clear hGG GG
    rw [hi] at e1
    cases e1
    refine ⟨T, rfl, ?_⟩
    rw [inTup_is e2]
    exact e2
  with_reducible refine comp_flat (cl := []) F ?hh ?c1 ?c2 ?c3 ?c4 ?c5 ?c6 ?c7 ?c8 (inTup g) ?_ ?hs
  case hh => rfl
  case c1 => exact clos_is (by kernel_rfl)
  case c2 => rfl
  case c3 => decide +kernel
  case c4 => decide +kernel
  case c5 => decide +kernel
  case c6 => decide
  case c7 => decide
  case c8 => intro _; rfl
  case hs => intro _; rfl
  k_steps
  refine ⟨ln, vs, (L + 1, o1) :: news, rfl, F, N, fun h' F' _ => ?_, ?_, fun v hv => ?_, fun D h' tk' F' N' off _ => hq D h' tk' _ F' N' off hys⟩
  · exact let ⟨o, ho, r⟩ := hvs; ⟨o, F'.keep _ _ ho, r⟩
  · have := strs_len hys
    rw [flat_len] at this
    omega
  · with_reducible refine hide ?_
    intro GG hGG
    obtain ⟨T, e1, e2⟩ := hTv v hv
    with_reducible refine hGG ?_
    clear hGG GG
    exact ⟨T, e1, fun h' F' _ => let ⟨o, ho, r⟩ := e2; ⟨o, F'.keep _ _ ho, r⟩⟩
end

section
section
variable {w : World} {A : Around} {E : Value → Shared → Prop} {s : Shared} {g : Heap} {L l : Addr} {news : List (Addr × Obj)} {vs : List Value} {ys : List Str} {k : Str} {t : Tok} {n : Nat} {b : Bool} {Q : Value → Shared → Prop}
theorem any_mem (ys : List Str) (k : Str) : ys.any (· == k) = decide (k ∈ ys) := by
  induction ys with
  | nil => rfl
  | cons y ys ih =>
    rw [List.any_cons, ih]
    by_cases h : y = k
    · subst h; simp
    · have h2 : (y == k) = false := beq_eq_false_iff_ne.mpr h
      rw [h2, Bool.false_or]
      simp only [List.mem_cons]
      by_cases h3 : k ∈ ys
      · rw [decide_eq_true h3, decide_eq_true (.inr h3)]
      · rw [decide_eq_false h3, decide_eq_false (fun z => z.elim (fun e => h e.symm) h3)]
end
theorem strs_mem {vs : List Value} {ys : List Str} (h : StrsAre vs ys) : ∀ v ∈ vs, ∃ q t, v = .str q t ∧ q ∈ ys := by
  induction h with
  | nil => exact fun _ h => nomatch h
  | cons y t _ ih => exact List.forall_mem_cons.mpr ⟨⟨y, t, rfl, .head _⟩, fun v hv => let ⟨q, t, e, hq⟩ := ih v hv; ⟨q, t, e, .tail _ hq⟩⟩
noncomputable def Kp (P : Str → Bool) (v : Value) (y : Option Value) (os : List (Addr × Obj)) : Prop := os = [] ∧ ∃ q t, v = .str q t ∧ y = if P q = true then some v else none
theorem keep_strs {P : Str → Bool} : ∀ {es : List (Value × Option Value × List (Addr × Obj))} {left : List Str}, StrsAre (es.map (·.1)) left → (∀ e ∈ es, Kp P e.1 e.2.1 e.2.2) → StrsAre (es.filterMap (·.2.1)) (left.filter P) ∧ es.flatMap (·.2.2) = []
  | [], _, h, _ => by cases h; exact ⟨.nil, rfl⟩
  | e :: es, _, h, hk => by
    with_reducible refine hide ?_
    intro GG hGG
    obtain ⟨v, y, os⟩ := e
    refine cps_AEEA (hk _ (.head _)) ?_
    intro ho q t hv hy
    with_reducible refine hGG ?_
    clear hGG GG
    have ho : os = [] := ho
    have hv : v = .str q t := hv
    subst ho hv
    cases h with
    | cons _ _ h' =>
      obtain ⟨h1, h2⟩ := keep_strs h' fun e he => hk e (.tail _ he)
      have hy : y = if P q = true then some (.str q t) else none := hy
      rw [List.filterMap_cons, List.filter_cons, List.flatMap_cons, h2]
      refine ⟨?_, rfl⟩
      cases hP : P q with
      | true =>
        rw [hP, if_pos rfl] at hy
        subst hy
        exact .cons _ _ h1
      | false =>
        rw [hP, if_neg Bool.false_ne_true] at hy
        subst hy
        exact h1
local macro_rules | `(tactic| walk_at "compareOp NotIn str ref") => `(tactic| (k_here; refine notin_L (by k_asm) (by k_mem) (by with_reducible assumption) (by with_reducible assumption) ?_))
set_option maxHeartbeats 8000000 in
theorem due_done {w : World} {g base h : Heap} {L lf lt : Addr} {d u tk : Nat} {outer : List Env} {loose : List Str} {mean : ExcName → Option Value} {mg mb : Str → Option Value} {lv ltv : List Value} {lfp ltp : Nat} {left lat : List Str} {news : List (Addr × Obj)} {o3 o4 : Obj} {m : Str → Option Value} {s : Shared} {Q : Value → Shared → Prop} {E : Value → Shared → Prop} {e : Expr} {env : Env} {A : Around}
   (B : Below (mkA d u outer) base outer g) (X : (hd.heap_39 w.params).In g) (TT : Top hd.view_39 loose mean mg mb g)
   (hL : StrsAre lv left) (hLt : StrsAre ltv lat) (hll : left.length ≤ 100)
   (F : Fr g L h m) (N : News g L h ((L + 4, o4) :: (L + 3, o3) :: (lf, W.listOf lv.toArray lfp) :: (lt, W.listOf ltv.toArray ltp) :: news)) (d3 : o3.data = .cell (some (.ref lf))) (d4 : o4.data = .cell (some (.ref lt)))
   (he : e = duDone) (henv : env = duEnv L) (hA : A = (mkA d u outer).deeper (duEnv L))
   (hq : ∀ D h' tk' ys, Fr g L h' m → News g L h' ((D, LCg.lst ys) :: (L + 4, o4) :: (L + 3, o3) :: (lf, W.listOf lv.toArray lfp) :: (lt, W.listOf ltv.toArray ltp) :: news) → (∀ p ∈ (L + 4, o4) :: (L + 3, o3) :: (lf, W.listOf lv.toArray lfp) :: (lt, W.listOf ltv.toArray ltp) :: news, p.1 ≠ D) →
     StrsAre ys (left.filter fun a => decide (a ∉ lat)) → Q (.ref D) { s with heap := h', toks := tk' }) :
   wpAny (model PP w) A (eval e env) Q E { s with heap := h, toks := tk } := by
  subst he henv hA
  have eW : duDone = .ListComp _ _ _ _ := rfl
  have eS : stScope duFn = { kind := _, names := _, isGenerator := _, isCoroutine := _, more := _ } := rfl
  rw [duEnv, eS, eW]
  clear eW eS
  with_reducible refine comp_list (cl := [(Str.ofString "later", L + 4)]) F ?hh ?c1 ?c2 ?c3 (Kp fun a => decide (a ∉ lat)) ?_ ?hs
  case hh => rfl
  case c1 => exact clos_is (by kernel_rfl)
  case c2 => rfl
  case c3 => decide +kernel
  case hs => intro _; rfl
  have hlv := strs_len hL
  k_steps
  refine ⟨lf, lv, _, rfl, F, N, fun h' _ N' => News.isList N' (.tail _ (.tail _ (.head _))), by rw [sizeLine_eq]; omega, ?_, fun D h' tk' es F' N' off hes hG _ => ?_⟩
  · intro I C i v hXX
    with_reducible refine hide ?_
    intro GG hGG
    obtain ⟨h5, gg, dd, tk5, os5⟩ := hXX
    with_reducible refine hGG ?_
    clear hGG GG
    intro oth hC hv hit hp F5 N5
    refine cps_EEA (strs_mem hL v (List.mem_of_getElem? hv)) ?_
    rintro q t rfl _
    refine turn_N (by rfl) (by decide +kernel) hp F5 N5 hC (by rfl) ?_
    clear F5 N5
    intro h6 oC mC nC hx F6 N6
    refine wpAny_tests_one ?_
    simp only [List.cons_append] at N6
    show wpAny _ _ _ _ _ _
    k_steps
    all_goals rename (List.any _ _) = _ => ha
    all_goals rw [any_mem] at ha
    · exact tend F6 nC N6 (by rfl) (os := []) (fun _ h => (nomatch h)) (fun _ h => (nomatch h)) ⟨rfl, q, t, rfl, by have := of_decide_eq_true ha; simp [this]⟩
    · exact tend F6 nC N6 (by rfl) (os := []) (fun _ h => (nomatch h)) (fun _ h => (nomatch h)) ⟨rfl, q, t, rfl, by have := of_decide_eq_false ha; simp [this]⟩
  · obtain ⟨h1, h2⟩ := keep_strs (hes ▸ hL) hG
    rw [h2, List.append_nil] at N' off
    exact hq D h' tk' _ F' N' off h1
end

section
section
variable {w : World} {A : Around} {E : Value → Shared → Prop} {s : Shared} {g : Heap} {L : Addr} {m : Str → Option Value}
theorem comp_range {target elt iter : Expr} {ifs : List Expr} {scope : Scope} {cl : List (Str × Addr)} {pos : Pos} {env : Env} {Q : Value → Shared → Prop} (F₀ : Fr g L s.heap m) (hh : A.handled = none)
    (hclos : closureFor scope env = pure cl) (hkind : scope.kind = .function) (hnames : ∀ y ∈ scope.names, y.2 = .local → scope.names.lookup y.1 = some .local) (G : Value → Option Value → List (Addr × Obj) → Prop)
    (h : wpAny (model PP w) A (eval iter env) (fun xv s₁ => Stop (∃ (R : Addr) (n : Nat) (t u v : Tok) (news₀ : List (Addr × Obj)), xv = .ref R ∧ Fr g L s₁.heap m ∧ News g L s₁.heap news₀ ∧ IsRange s₁.heap R 0 (n : Int) 1 t u v ∧ Builtin.Range.small 0 (n : Int) 1 = true ∧ Builtin.Range.rangeSize 0 (n : Int) 1 = n ∧ n ≤ sizeLine ∧
      (∀ (I C : Addr) (i : Nat) t s₃ oth, (∀ c ∈ C :: ownc C scope, c ≠ L ∧ g.get? c = none ∧ ∀ p ∈ news₀ ++ oth, p.1 ≠ c) → i < n → Priv C scope s₃.heap → Fr g L s₃.heap m → News g L s₃.heap (news₀ ++ oth) →
        wpAny (model PP w) A (letOwnedTupleGo target (.ref I) (.int (i : Int) t)) (fun _ s₄ => wpAny (model PP w) A (assign target (compEnvC scope (cellsFrom (C + 1) scope.names cl) C env) (.int (i : Int) t)) (fun _ s₅ =>
          wpAny (model PP w) A (forIn ifs true fun c r => if r = true then do let ok ← isTrue c (compEnvC scope (cellsFrom (C + 1) scope.names cl) C env) (eval c (compEnvC scope (cellsFrom (C + 1) scope.names cl) C env)); pure (ForInStep.yield ok) else pure (ForInStep.yield r)) (fun ok s₆ =>
            if ok = true then wpAny (model PP w) A (eval elt (compEnvC scope (cellsFrom (C + 1) scope.names cl) C env)) (fun y s₇ => TEnd g L m news₀ C scope oth (G (.int (i : Int) t)) s₃ (some y) s₇) (fun _ _ => False) s₆ else TEnd g L m news₀ C scope oth (G (.int (i : Int) t)) s₃ none s₆) (fun _ _ => False) s₅) (fun _ _ => False) s₄) (fun _ _ => False) s₃) ∧
      (∀ (D : Addr) h' tk (es : List (Value × Option Value × List (Addr × Obj))), Fr g L h' m → News g L h' ((D, LCg.lst (es.filterMap (·.2.1))) :: (news₀ ++ es.flatMap (·.2.2))) → (∀ p ∈ news₀ ++ es.flatMap (·.2.2), p.1 ≠ D) → es.length = n → (∀ (j : Nat) e, es[j]? = some e → (∃ t, e.1 = .int (j : Int) t) ∧ G e.1 e.2.1 e.2.2) →
        (∀ b o, s₁.heap.get? b = some o → b ≠ D) → Q (.ref D) { s₁ with heap := h', toks := tk }))) E s)
    (hs : ∀ x, foldedSetIterable iter env x = pure x := by intro _; rfl) :
    wpAny (model PP w) A (eval (.ListComp elt [⟨target, iter, ifs, 0⟩] scope pos) env) Q E s := by
  refine comp_M F₀ hclos hkind hnames G (wpAny_mono h (fun xv s₁ z => ?_) fun _ _ e => e) hs
  refine cps_EEEEEEAAAAAAAA (z.go) ?_
  rintro R n t u v news₀ rfl F N hr hsm hn hsz turn done
  refine wpAny_pyIter_range hr hsm ?_
  rw [hn]
  have up : ∀ b o, s₁.heap.get? b = some o → (s₁.heap.push { cls := .type "range_iterator", data := .fields #[rawInt 0, rawInt n, rawInt 1] }).get? b = some o := fun b o e => Heap.get?_push_of_some _ e
  have e1 : ∀ i : Nat, (0 : Int) + (i : Int) * 1 = (i : Int) := fun i => by omega
  refine ⟨s₁.heap.objs.size, _, _, _, _, news₀, rfl, Walks.range hh s₁.heap.objs.size 0 1 n, hsz, ?_, F.kept up, N.grown up, fr_push1 F,
    fun p hp => Nat.ne_of_lt (Heap.lt_size (N p hp).1), fun i h st => ⟨_, st⟩, fun i h h' o st e e' F' N' => ?_,
    fun C i v s₃ oth hC hi hv st hp F' N' => ?_, fun D h' tk es F' N' off hlen hP hb => done D h' tk es F' N' off hlen (fun j e hj => ?_) fun b o e => hb b o (up b o e)⟩
  · rw [Int.natCast_zero, Int.sub_zero]
    exact Heap.get?_push_size _ rfl
  · have : h.get? s₁.heap.objs.size = h'.get? s₁.heap.objs.size := by rw [e, e']
    unfold IsRangeIter at st ⊢
    rw [← this]; exact st
  · obtain ⟨t', rfl⟩ := hv
    rw [e1]
    exact turn _ C i t' s₃ oth hC hi hp F' N'
  · with_reducible refine hide ?_
    intro GG hGG
    obtain ⟨⟨t', ht⟩, hG⟩ := hP j e hj
    with_reducible refine hGG ?_
    clear hGG GG
    rw [e1] at ht
    exact ⟨⟨t', ht⟩, hG⟩
theorem slice_upto {value slice : Expr} {l : Addr} {vs : List Value} {n k : Nat} {u : Tok} {news : List (Addr × Obj)} {Q : Value → Shared → Prop} (F : Fr g L s.heap m) (N : News g L s.heap news) (hm : (l, W.listOf vs.toArray n) ∈ news) (hk : k ≤ vs.length) (hz : vs.length ≤ 1000)
    (h : ∀ D h', Fr g L h' m → News g L h' ((D, W.listOf (vs.take k).toArray 0) :: news) → (∀ p ∈ news, p.1 < D) → Q (.ref D) { s with heap := h' })
    (hs : subscripted slice false (.ref l) (.ref s.heap.objs.size) = operate [.ref s.heap.objs.size, .ref l] (getItem (.ref l) (.ref s.heap.objs.size))) (ht : ∀ r, letTemporaryGo value (.ref l) r = pure ()) :
    wpAny (model PP w) A (subscriptTail value slice (.ref l) (.ref s.heap.objs.size)) Q E { s with heap := s.heap.push { cls := .type "slice", data := .fields #[.none, .int (k : Int) u, .none] } } :=
  kmk_slice_lit F N (News.isList N hm) IsPart.none (IsPart.int _ _) (by rw [slicePick_upto _ _ (by rw [List.size_toArray]; exact hk)]) h hs ht (by rw [List.size_toArray, sizeLine_eq]; omega)
end
noncomputable def Uq (nv : List Value) (fl : List Str) (v : Value) (y : Option Value) (os : List (Addr × Obj)) : Prop := os = [] ∧ ∃ (k : Nat) (t u : Tok) (q : Str), v = .int (k : Int) t ∧ fl[k]? = some q ∧ nv[k]? = some (.str q u) ∧ y = if q ∈ fl.take k then none else some (.str q u)
theorem uq_all {nv : List Value} {fl : List Str} {es : List (Value × Option Value × List (Addr × Obj))} (h : ∀ (j : Nat) (e : Value × Option Value × List (Addr × Obj)), es[j]? = some e → (∃ t, e.1 = .int (j : Int) t) ∧ Uq nv fl e.1 e.2.1 e.2.2) :
    ∀ n, n ≤ es.length → (∃ us, StrsAre ((es.take n).filterMap (·.2.1)) us ∧ us.Nodup ∧ ∀ q, q ∈ us ↔ q ∈ fl.take n) ∧ (es.take n).flatMap (·.2.2) = []
  | 0, _ => by
    rw [List.take_zero]
    exact ⟨⟨[], .nil, List.nodup_nil, fun q => by simp⟩, rfl⟩
  | n + 1, hn => by
    with_reducible refine hide ?_
    intro GG hGG
    obtain ⟨⟨us, h1, h2, h3⟩, h4⟩ := uq_all h n (Nat.le_of_succ_le hn)
    have he := List.getElem?_eq_getElem (l := es) (i := n) hn
    refine cps_AAEEEEAAA (h n _ he) ?_
    rintro ⟨t, e1⟩ ho k t' u q e2 hq hv hy
    with_reducible refine hGG ?_
    clear hGG GG
    rw [e1] at e2
    have hk : k = n := by injection e2 with a b; omega
    subst hk
    rw [List.take_add_one, he]
    have e3 : fl.take (k + 1) = fl.take k ++ [q] := by rw [List.take_add_one, hq]; rfl
    rw [e3, Option.toList_some, filterMap_snoc, flatMap_snoc, h4, ho, hy]
    refine ⟨?_, rfl⟩
    by_cases hm : q ∈ fl.take k
    · rw [if_pos hm]
      refine ⟨us, by simpa using h1, h2, fun q' => ?_⟩
      rw [h3, List.mem_append, List.mem_singleton]
      exact ⟨.inl, fun z => z.elim id fun e => e ▸ hm⟩
    · rw [if_neg hm]
      refine ⟨us ++ [q], strs_snoc h1 q u, ?_, fun q' => ?_⟩
      · rw [List.nodup_append]
        refine ⟨h2, by simp, fun a ha b hb e => ?_⟩
        rw [List.mem_singleton.mp hb] at e
        rw [e] at ha
        exact hm ((h3 q).mp ha)
      · rw [List.mem_append, List.mem_append, h3]
end

section
local macro_rules | `(tactic| walk_at "subscriptTail Name Name ref int") => `(tactic| walk_at "Y 21")
local macro_rules | `(tactic| walk_at "subscriptTail Name Slice ref ref") => `(tactic| (walk_at "Y 22"; intro D' h' F' N' l1; (try k_lt l1); (try k_sweep)))
theorem range_ok : ∀ k : Nat, k ≤ 22 → Builtin.Range.small 0 (k : Int) 1 = true ∧ Builtin.Range.rangeSize 0 (k : Int) 1 = k := by decide
theorem strs_take {vs : List Value} {ys : List Str} (h : StrsAre vs ys) : ∀ i, StrsAre (vs.take i) (ys.take i) := by
  induction h with
  | nil => intro i; rw [List.take_nil, List.take_nil]; exact .nil
  | cons y t _ ih =>
    intro i
    cases i with
    | zero => exact .nil
    | succ i => exact .cons _ _ (ih i)
set_option maxHeartbeats 8000000 in
theorem due_uniq {w : World} {g base h : Heap} {L na : Addr} {d u tk : Nat} {outer : List Env} {loose : List Str} {mean : ExcName → Option Value} {mg mb : Str → Option Value} {nv : List Value} {np : Nat} {fl : List Str} {news : List (Addr × Obj)} {o2 : Obj} {m : Str → Option Value} {s : Shared} {Q : Value → Shared → Prop} {E : Value → Shared → Prop} {e : Expr} {env : Env} {A : Around}
   (B : Below (mkA d u outer) base outer g) (X : (hd.heap_39 w.params).In g) (TT : Top hd.view_39 loose mean mg mb g)
   (hN : StrsAre nv fl) (hfl : fl.length ≤ 22)
   (F : Fr g L h m) (N : News g L h ((L + 2, o2) :: (na, W.listOf nv.toArray np) :: news)) (d2 : o2.data = .cell (some (.ref na)))
   (he : e = duUniq) (henv : env = duEnv L) (hA : A = (mkA d u outer).deeper (duEnv L))
   (hq : ∀ D h' tk' ys us, Fr g L h' m → News g L h' ((D, LCg.lst ys) :: (L + 2, o2) :: (na, W.listOf nv.toArray np) :: news) → (∀ p ∈ (L + 2, o2) :: (na, W.listOf nv.toArray np) :: news, p.1 ≠ D) →
     StrsAre ys us → us.Nodup → (∀ q, q ∈ us ↔ q ∈ fl) → us.length ≤ fl.length → Q (.ref D) { s with heap := h', toks := tk' }) :
   wpAny (model PP w) A (eval e env) Q E { s with heap := h, toks := tk } := by
  subst he henv hA
  have eW : duUniq = .ListComp _ _ _ _ := rfl
  have eS : stScope duFn = { kind := _, names := _, isGenerator := _, isCoroutine := _, more := _ } := rfl
  rw [duEnv, eS, eW]
  clear eW eS
  with_reducible refine comp_range (cl := [(Str.ofString "names", L + 2)]) F ?hh ?c1 ?c2 ?c3 (Uq nv fl) ?_ ?hs
  case hh => rfl
  case c1 => exact clos_is (by kernel_rfl)
  case c2 => rfl
  case c3 => decide +kernel
  case hs => intro _; rfl
  have hnv := strs_len hN
  k_steps
  rename IsRange _ _ _ _ _ _ _ _ => hrg
  rename Fr g L _ _ => F2
  rename News g L _ _ => N2
  obtain ⟨hs1, hs2⟩ := range_ok fl.length hfl
  have hvz : nv.toArray.size = fl.length := by rw [List.size_toArray, hnv]
  rw [hvz] at hrg
  refine ⟨_, fl.length, _, _, _, _, rfl, F2, N2, hrg, hs1, hs2, by rw [sizeLine_eq]; omega, ?_, fun D h' tk' es F' N' off hlen hP _ => ?_⟩
  · intro I C i t hXX
    with_reducible refine hide ?_
    intro GG hGG
    obtain ⟨h5, gg, dd, tk5, os5⟩ := hXX
    with_reducible refine hGG ?_
    clear hGG GG
    intro oth hC hi hp F5 N5
    with_reducible refine hide ?_
    intro GG hGG
    obtain ⟨q, hq1⟩ : ∃ q, fl[i]? = some q := ⟨_, List.getElem?_eq_getElem hi⟩
    have hi1 : i < nv.length := by omega
    refine cps_EEA (strs_get hN (List.getElem?_eq_getElem hi1)) ?_
    intro q' u1 b1 e1
    with_reducible refine hGG ?_
    clear hGG GG
    rw [hq1] at b1; cases b1
    have hv1 : nv[i]? = some (.str q u1) := by rw [List.getElem?_eq_getElem hi1, e1]
    have hv2 : nv[((i : Int)).toNat]? = some (.str q u1) := by rw [Int.toNat_natCast]; exact hv1
    have hS2 := strs_take hN i
    clear e1
    refine turn_N (by rfl) (by decide +kernel) hp F5 N5 hC (by rfl) ?_
    clear F5 N5 F2 N2
    intro h6 oC mC nC hx F6 N6
    simp only [List.cons_append] at N6
    refine wpAny_tests_one ?_
    show wpAny _ _ _ _ _ _
    k_steps
    all_goals rename (List.any _ _) = _ => ha
    all_goals rw [any_mem] at ha
    all_goals rename Fr g L _ _ => F8
    all_goals rename News g L _ _ => N8
    · exact tend F8 nC (fun p hpp => N8 p (.tail _ hpp)) (by rfl) (os := []) (fun _ h => (nomatch h)) (fun _ h => (nomatch h)) ⟨rfl, i, t, u1, q, rfl, hq1, hv1, by rw [if_pos (of_decide_eq_true ha)]⟩
    · exact tend F8 nC (fun p hpp => N8 p (.tail _ hpp)) (by rfl) (os := []) (fun _ h => (nomatch h)) (fun _ h => (nomatch h)) ⟨rfl, i, t, u1, q, rfl, hq1, hv1, by rw [if_neg (of_decide_eq_false ha)]⟩
  · with_reducible refine hide ?_
    intro GG hGG
    obtain ⟨⟨us, u1, u2, u3⟩, u4⟩ := uq_all hP es.length (Nat.le_refl _)
    with_reducible refine hGG ?_
    clear hGG GG
    rw [List.take_length] at u1 u4
    rw [u4, List.append_nil] at N' off
    rw [hlen, List.take_length] at u3
    refine hq D h' tk' _ us F' N' off u1 u2 u3 ?_
    have l1 := strs_len u1
    have l2 := List.length_filterMap_le (f := fun e : Value × Option Value × List (Addr × Obj) => e.2.1) (l := es)
    omega
end

section
noncomputable def In2 (g : Heap) (ns : List (Str × Str)) (a : Str) (left : List Str) (v : Value) (y : Option Value) (os : List (Addr × Obj)) : Prop := os = [] ∧ ∃ (p : Str × Str) (ta tb : Tok), inTup g v = [.str p.1 ta, .str p.2 tb] ∧ p ∈ ns ∧ y = if p.1 = a ∧ p.2 ∈ left then some (.str p.2 tb) else none
theorem in2_all {g : Heap} {ns : List (Str × Str)} {a : Str} {left : List Str} {vs : List Value} {es : List (Value × Option Value × List (Addr × Obj))} (hvl : vs.length = ns.length) (hT : ∀ (i : Nat) (p : Str × Str), ns[i]? = some p → ∃ (T : Addr) (a b : Tok), vs[i]? = some (.ref T) ∧ IsTup g T #[.str p.1 a, .str p.2 b])
    (hes : es.map (·.1) = vs) (hG : ∀ e ∈ es, In2 g ns a left e.1 e.2.1 e.2.2) : (es.filterMap (·.2.1) = [] ↔ ¬ ∃ b, (a, b) ∈ ns ∧ b ∈ left) ∧ (es.filterMap (·.2.1)).length ≤ ns.length ∧ es.flatMap (·.2.2) = [] := by
  refine ⟨?_, ?_, ?_⟩
  · rw [List.filterMap_eq_nil_iff]
    constructor
    · intro h hXX
      with_reducible refine hide ?_
      intro GG hGG
      obtain ⟨b, hb, hl⟩ := hXX
      with_reducible refine hGG ?_
      clear hGG GG
      with_reducible refine hide ?_
      intro GG hGG
      obtain ⟨i, hi⟩ := List.mem_iff_getElem?.mp hb
      refine cps_EEEA (hT i _ hi) ?_
      intro T t1 t2 e1 e2
      with_reducible refine hGG ?_
      clear hGG GG
      rw [← hes, List.getElem?_map] at e1
      cases he : es[i]? with
      | none => rw [he] at e1; cases e1
      | some e =>
        rw [he] at e1
        have e1 : e.1 = .ref T := Option.some.inj e1
        have hm := List.mem_of_getElem? he
        refine cps_AEEEAA (hG e hm) ?_
        intro _ p ta tb q1 _ q3
        rw [e1, inTup_is e2] at q1
        have q1 : [Value.str a t1, Value.str b t2] = [.str p.1 ta, .str p.2 tb] := q1
        injection q1 with x1 x2
        injection x2 with x2 _
        injection x1 with x1 _
        injection x2 with x2 _
        rw [← x1, ← x2, if_pos ⟨rfl, hl⟩] at q3
        rw [h e hm] at q3
        cases q3
    · intro h e he
      refine cps_AEEEAA (hG e he) ?_
      intro _ p ta tb _ q2 q3
      rw [q3, if_neg]
      rintro ⟨x1, x2⟩
      exact h ⟨p.2, by rw [← x1]; exact q2, x2⟩
  · refine Nat.le_trans (List.length_filterMap_le _ _) ?_
    rw [← hvl, ← hes, List.length_map]
    exact Nat.le_refl _
  · rw [List.flatMap_eq_nil_iff]
    exact fun e he => (hG e he).1
theorem some_strs {P : Str → Prop} : ∀ {l : List Value}, (∀ v ∈ l, ∃ z t, v = .str z t ∧ P z) → ∃ zs, StrsAre l zs ∧ ∀ z ∈ zs, P z
  | [], _ => ⟨[], .nil, fun _ h => nomatch h⟩
  | v :: l, h => by
    with_reducible refine hide ?_
    intro GG hGG
    refine cps_EEA (h v (.head _)) ?_
    rintro z t rfl hz
    obtain ⟨zs, h1, h2⟩ := some_strs (l := l) fun v hv => h v (.tail _ hv)
    with_reducible refine hGG ?_
    clear hGG GG
    exact ⟨z :: zs, .cons _ _ h1, List.forall_mem_cons.mpr ⟨hz, h2⟩⟩
local macro_rules | `(tactic| walk_at "compareOp In str ref") => `(tactic| (k_here; refine in_L (by k_asm) (by k_mem) (by with_reducible assumption) rfl ?_))
local macro_rules | `(tactic| walk_at "eval ListComp") => `(tactic| refine stop_here ?_)
noncomputable def ifsOf : Expr → List Expr
  | .ListComp _ (c :: _) _ _ => c.ifs
  | _ => []
noncomputable def scopeOf : Expr → Scope
  | .ListComp _ _ s _ => s
  | _ => default
noncomputable def leftOf : Expr → Expr
  | .Compare l _ _ _ => l
  | e => e
noncomputable def inn1 (e : Expr) : Expr := leftOf ((ifsOf e).headD e)
set_option maxHeartbeats 8000000 in
theorem due_inner1 {w : World} {g base h : Heap} {L C ln lf : Addr} {d u tk : Nat} {outer : List Env} {loose : List Str} {mean : ExcName → Option Value} {mg mb : Str → Option Value} {vs lv : List Value} {lfp : Nat} {ns : List (Str × Str)} {left : List Str} {q : Str} {tq : Tok} {news : List (Addr × Obj)} {oC oK o1 o3 : Obj} {m mC : Str → Option Value} {s : Shared} {Q : Value → Shared → Prop} {E : Value → Shared → Prop} {e : Expr} {env : Env} {A : Around}
   (B : Below (mkA d u outer) base outer g) (X : (hd.heap_39 w.params).In g) (TT : Top hd.view_39 loose mean mg mb g)
   (hvs : g.IsList ln vs.toArray) (hvl : vs.length = ns.length) (hT : ∀ (i : Nat) (p : Str × Str), ns[i]? = some p → ∃ (T : Addr) (a b : Tok), vs[i]? = some (.ref T) ∧ IsTup g T #[.str p.1 a, .str p.2 b]) (hnl : ns.length ≤ 11)
   (hL : StrsAre lv left)
   (F : Fr g L h m) (N : News g L h ((C, oC) :: (C + 1, oK) :: (L + 1, o1) :: (L + 3, o3) :: (lf, W.listOf lv.toArray lfp) :: news)) (nC : LCg.NsObj oC mC) (dK : oK.data = .cell (some (.str q tq))) (d1 : o1.data = .cell (some (.ref ln))) (d3 : o3.data = .cell (some (.ref lf)))
   (he : e = inn1 duLater) (henv : env = compEnvC (scopeOf duLater) (cellsFrom (C + 1) (scopeOf duLater).names [(Str.ofString "needs", L + 1), (Str.ofString "left", L + 3)]) C (duEnv L)) (hA : A = (mkA d u outer).deeper (duEnv L))
   (hq : ∀ D h' tk' ys, Fr g L h' m → News g L h' ((D, LCg.lst ys) :: (C, oC) :: (C + 1, oK) :: (L + 1, o1) :: (L + 3, o3) :: (lf, W.listOf lv.toArray lfp) :: news) → (∀ p ∈ (C, oC) :: (C + 1, oK) :: (L + 1, o1) :: (L + 3, o3) :: (lf, W.listOf lv.toArray lfp) :: news, p.1 ≠ D) →
     (∃ zs, StrsAre ys zs ∧ (zs = [] ↔ ¬ ∃ b, (q, b) ∈ ns ∧ b ∈ left) ∧ ∀ z ∈ zs, ∃ p ∈ ns, z = p.2) → ys.length ≤ 11 → Q (.ref D) { s with heap := h', toks := tk' }) :
   wpAny (model PP w) A (eval e env) Q E { s with heap := h, toks := tk } := by
  subst he henv hA
  have eW : inn1 duLater = .ListComp _ _ _ _ := rfl
  have eS : stScope duFn = { kind := _, names := _, isGenerator := _, isCoroutine := _, more := _ } := rfl
  have eT : scopeOf duLater = { kind := _, names := _, isGenerator := _, isCoroutine := _, more := _ } := rfl
  rw [duEnv, eS, eW, eT]
  clear eW eS eT
  with_reducible refine comp_list (cl := [(Str.ofString "left", L + 3), (Str.ofString "a", C + 1)]) F ?hh ?c1 ?c2 ?c3 (In2 g ns q left) ?_ ?hs
  case hh => rfl
  case c1 => exact clos_is (by kernel_rfl)
  case c2 => rfl
  case c3 => decide +kernel
  case hs => intro _; rfl
  k_steps
  refine ⟨ln, vs, _, rfl, F, N, fun h' F' _ => let ⟨o, ho, r⟩ := hvs; ⟨o, F'.keep _ _ ho, r⟩, by rw [sizeLine_eq]; omega, ?_, fun D h' tk' es F' N' off hes hG _ => ?_⟩
  · intro I C2 i v hXX
    with_reducible refine hide ?_
    intro GG hGG
    obtain ⟨h5, gg, dd, tk5, os5⟩ := hXX
    with_reducible refine hGG ?_
    clear hGG GG
    intro oth hC hv hit hp F5 N5
    have hlt : i < ns.length := by rw [← hvl]; exact (List.getElem?_eq_some_iff.mp hv).1
    with_reducible refine hide ?_
    intro GG hGG
    obtain ⟨p, hpi⟩ : ∃ p, ns[i]? = some p := ⟨_, List.getElem?_eq_getElem hlt⟩
    refine cps_EEEA (hT i p hpi) ?_
    intro T ta tb e1 e2
    with_reducible refine hGG ?_
    clear hGG GG
    rw [hv] at e1
    cases e1
    have ht : IsTup h5 T #[.str p.1 ta, .str p.2 tb] := let ⟨o, ho, r⟩ := e2; ⟨o, F5.keep _ _ ho, r⟩
    have e3 := inTup_is e2
    refine turn_P rfl (by rfl) (by decide +kernel) (by decide +kernel) (by decide) hit ht hp F5 N5 hC (by rfl) ?_
    clear F5 N5
    intro h6 tk6 oC2 mC2 nC2 hx hx2 F6 N6
    simp only [List.cons_append] at N6
    refine wpAny_tests_one ?_
    show wpAny _ _ _ _ _ _
    k_steps
    all_goals rename (_ == _) = _ => hb
    · rename (List.any _ _) = _ => ha
      rw [any_mem] at ha
      exact tend F6 nC2 N6 (by rfl) (os := []) (fun _ h => (nomatch h)) (fun _ h => (nomatch h)) ⟨rfl, p, ta, tb, e3, List.mem_of_getElem? hpi, by rw [if_pos ⟨eq_of_beq hb, of_decide_eq_true ha⟩]⟩
    · rename (List.any _ _) = _ => ha
      rw [any_mem] at ha
      exact tend F6 nC2 N6 (by rfl) (os := []) (fun _ h => (nomatch h)) (fun _ h => (nomatch h)) ⟨rfl, p, ta, tb, e3, List.mem_of_getElem? hpi, by rw [if_neg (fun z => of_decide_eq_false ha z.2)]⟩
    · exact tend F6 nC2 N6 (by rfl) (os := []) (fun _ h => (nomatch h)) (fun _ h => (nomatch h)) ⟨rfl, p, ta, tb, e3, List.mem_of_getElem? hpi, by rw [if_neg (fun z => beq_eq_false_iff_ne.mp hb z.1)]⟩
  · with_reducible refine hide ?_
    intro GG hGG
    obtain ⟨h1, h2, h3⟩ := in2_all hvl hT hes hG
    with_reducible refine hGG ?_
    clear hGG GG
    rw [h3, List.append_nil] at N' off
    with_reducible refine hide ?_
    intro GG hGG
    obtain ⟨zs, z1, z2⟩ := some_strs (P := fun z => ∃ p ∈ ns, z = p.2) (l := es.filterMap (·.2.1)) fun v hv => by
      obtain ⟨e, he, hev⟩ := List.mem_filterMap.mp hv
      obtain ⟨_, p, ta, tb, _, x2, x3⟩ := hG e he
      rw [x3] at hev
      by_cases hc : p.1 = q ∧ p.2 ∈ left
      · rw [if_pos hc] at hev
        cases hev
        exact ⟨p.2, tb, rfl, p, x2, rfl⟩
      · rw [if_neg hc] at hev; cases hev
    with_reducible refine hGG ?_
    clear hGG GG
    refine hq D h' tk' _ F' N' off ⟨zs, z1, ?_, z2⟩ (Nat.le_trans h2 hnl)
    rw [← h1]
    have hl := strs_len z1
    constructor
    · intro z; rw [z] at hl; exact List.length_eq_zero_iff.mp hl
    · intro z; rw [z] at hl; exact List.length_eq_zero_iff.mp hl.symm
set_option maxHeartbeats 8000000 in
theorem due_inner2 {w : World} {g base h : Heap} {L C ln lf : Addr} {d u tk : Nat} {outer : List Env} {loose : List Str} {mean : ExcName → Option Value} {mg mb : Str → Option Value} {vs lv : List Value} {lfp : Nat} {ns : List (Str × Str)} {left : List Str} {q : Str} {tq : Tok} {news : List (Addr × Obj)} {oC oK o1 o3 : Obj} {m mC : Str → Option Value} {s : Shared} {Q : Value → Shared → Prop} {E : Value → Shared → Prop} {e : Expr} {env : Env} {A : Around}
   (B : Below (mkA d u outer) base outer g) (X : (hd.heap_39 w.params).In g) (TT : Top hd.view_39 loose mean mg mb g)
   (hvs : g.IsList ln vs.toArray) (hvl : vs.length = ns.length) (hT : ∀ (i : Nat) (p : Str × Str), ns[i]? = some p → ∃ (T : Addr) (a b : Tok), vs[i]? = some (.ref T) ∧ IsTup g T #[.str p.1 a, .str p.2 b]) (hnl : ns.length ≤ 11)
   (hL : StrsAre lv left)
   (F : Fr g L h m) (N : News g L h ((C, oC) :: (C + 1, oK) :: (L + 1, o1) :: (L + 3, o3) :: (lf, W.listOf lv.toArray lfp) :: news)) (nC : LCg.NsObj oC mC) (dK : oK.data = .cell (some (.str q tq))) (d1 : o1.data = .cell (some (.ref ln))) (d3 : o3.data = .cell (some (.ref lf)))
   (he : e = inn1 duLater2) (henv : env = compEnvC (scopeOf duLater2) (cellsFrom (C + 1) (scopeOf duLater2).names [(Str.ofString "needs", L + 1), (Str.ofString "left", L + 3)]) C (duEnv L)) (hA : A = (mkA d u outer).deeper (duEnv L))
   (hq : ∀ D h' tk' ys, Fr g L h' m → News g L h' ((D, LCg.lst ys) :: (C, oC) :: (C + 1, oK) :: (L + 1, o1) :: (L + 3, o3) :: (lf, W.listOf lv.toArray lfp) :: news) → (∀ p ∈ (C, oC) :: (C + 1, oK) :: (L + 1, o1) :: (L + 3, o3) :: (lf, W.listOf lv.toArray lfp) :: news, p.1 ≠ D) →
     (∃ zs, StrsAre ys zs ∧ (zs = [] ↔ ¬ ∃ b, (q, b) ∈ ns ∧ b ∈ left) ∧ ∀ z ∈ zs, ∃ p ∈ ns, z = p.2) → ys.length ≤ 11 → Q (.ref D) { s with heap := h', toks := tk' }) :
   wpAny (model PP w) A (eval e env) Q E { s with heap := h, toks := tk } := by
  subst he henv hA
  have eW : inn1 duLater2 = .ListComp _ _ _ _ := rfl
  have eS : stScope duFn = { kind := _, names := _, isGenerator := _, isCoroutine := _, more := _ } := rfl
  have eT : scopeOf duLater2 = { kind := _, names := _, isGenerator := _, isCoroutine := _, more := _ } := rfl
  rw [duEnv, eS, eW, eT]
  clear eW eS eT
  with_reducible refine comp_list (cl := [(Str.ofString "left", L + 3), (Str.ofString "a", C + 1)]) F ?hh ?c1 ?c2 ?c3 (In2 g ns q left) ?_ ?hs
  case hh => rfl
  case c1 => exact clos_is (by kernel_rfl)
  case c2 => rfl
  case c3 => decide +kernel
  case hs => intro _; rfl
  k_steps
  refine ⟨ln, vs, _, rfl, F, N, fun h' F' _ => let ⟨o, ho, r⟩ := hvs; ⟨o, F'.keep _ _ ho, r⟩, by rw [sizeLine_eq]; omega, ?_, fun D h' tk' es F' N' off hes hG _ => ?_⟩
  · intro I C2 i v hXX
    with_reducible refine hide ?_
    intro GG hGG
    obtain ⟨h5, gg, dd, tk5, os5⟩ := hXX
    with_reducible refine hGG ?_
    clear hGG GG
    intro oth hC hv hit hp F5 N5
    have hlt : i < ns.length := by rw [← hvl]; exact (List.getElem?_eq_some_iff.mp hv).1
    with_reducible refine hide ?_
    intro GG hGG
    obtain ⟨p, hpi⟩ : ∃ p, ns[i]? = some p := ⟨_, List.getElem?_eq_getElem hlt⟩
    refine cps_EEEA (hT i p hpi) ?_
    intro T ta tb e1 e2
    with_reducible refine hGG ?_
    clear hGG GG
    rw [hv] at e1
    cases e1
    have ht : IsTup h5 T #[.str p.1 ta, .str p.2 tb] := let ⟨o, ho, r⟩ := e2; ⟨o, F5.keep _ _ ho, r⟩
    have e3 := inTup_is e2
    refine turn_P rfl (by rfl) (by decide +kernel) (by decide +kernel) (by decide) hit ht hp F5 N5 hC (by rfl) ?_
    clear F5 N5
    intro h6 tk6 oC2 mC2 nC2 hx hx2 F6 N6
    simp only [List.cons_append] at N6
    refine wpAny_tests_one ?_
    show wpAny _ _ _ _ _ _
    k_steps
    all_goals rename (_ == _) = _ => hb
    · rename (List.any _ _) = _ => ha
      rw [any_mem] at ha
      exact tend F6 nC2 N6 (by rfl) (os := []) (fun _ h => (nomatch h)) (fun _ h => (nomatch h)) ⟨rfl, p, ta, tb, e3, List.mem_of_getElem? hpi, by rw [if_pos ⟨eq_of_beq hb, of_decide_eq_true ha⟩]⟩
    · rename (List.any _ _) = _ => ha
      rw [any_mem] at ha
      exact tend F6 nC2 N6 (by rfl) (os := []) (fun _ h => (nomatch h)) (fun _ h => (nomatch h)) ⟨rfl, p, ta, tb, e3, List.mem_of_getElem? hpi, by rw [if_neg (fun z => of_decide_eq_false ha z.2)]⟩
    · exact tend F6 nC2 N6 (by rfl) (os := []) (fun _ h => (nomatch h)) (fun _ h => (nomatch h)) ⟨rfl, p, ta, tb, e3, List.mem_of_getElem? hpi, by rw [if_neg (fun z => beq_eq_false_iff_ne.mp hb z.1)]⟩
  · with_reducible refine hide ?_
    intro GG hGG
    obtain ⟨h1, h2, h3⟩ := in2_all hvl hT hes hG
    with_reducible refine hGG ?_
    clear hGG GG
    rw [h3, List.append_nil] at N' off
    with_reducible refine hide ?_
    intro GG hGG
    obtain ⟨zs, z1, z2⟩ := some_strs (P := fun z => ∃ p ∈ ns, z = p.2) (l := es.filterMap (·.2.1)) fun v hv => by
      obtain ⟨e, he, hev⟩ := List.mem_filterMap.mp hv
      obtain ⟨_, p, ta, tb, _, x2, x3⟩ := hG e he
      rw [x3] at hev
      by_cases hc : p.1 = q ∧ p.2 ∈ left
      · rw [if_pos hc] at hev
        cases hev
        exact ⟨p.2, tb, rfl, p, x2, rfl⟩
      · rw [if_neg hc] at hev; cases hev
    with_reducible refine hGG ?_
    clear hGG GG
    refine hq D h' tk' _ F' N' off ⟨zs, z1, ?_, z2⟩ (Nat.le_trans h2 hnl)
    rw [← h1]
    have hl := strs_len z1
    constructor
    · intro z; rw [z] at hl; exact List.length_eq_zero_iff.mp hl
    · intro z; rw [z] at hl; exact List.length_eq_zero_iff.mp hl.symm
end

section
theorem strs_dat {vs : List Value} {ys : List Str} (h : StrsAre vs ys) : DatAll [] vs (ys.map Dat.str) := by
  induction h with
  | nil => exact .nil
  | cons y t _ ih => exact .cons (.str y t) ih
theorem six_ok : ∀ q ∈ six, PyData.strOk q = true := six_cases (by kernel_rfl) (by kernel_rfl) (by kernel_rfl) (by kernel_rfl) (by kernel_rfl) (by kernel_rfl)
theorem dat_ok {ys : List Str} (h : ∀ y ∈ ys, PyData.strOk y = true) : ∀ d ∈ ys.map Dat.str, kqdOk 8 d = true := fun d hd => by
  with_reducible refine hide ?_
  intro GG hGG
  obtain ⟨y, hy, rfl⟩ := List.mem_map.mp hd
  with_reducible refine hGG ?_
  clear hGG GG
  exact h y hy
theorem dat_inj {ys zs : List Str} : ys.map Dat.str = zs.map Dat.str ↔ ys = zs :=
  ⟨fun h => by
    induction ys generalizing zs with
    | nil => cases zs with
      | nil => rfl
      | cons => cases h
    | cons y ys ih => cases zs with
      | nil => cases h
      | cons z zs =>
        rw [List.map_cons, List.map_cons] at h
        injection h with h1 h2
        injection h1 with h1
        rw [h1, ih h2], fun h => by rw [h]⟩
theorem ne_L {w : World} {A : Around} {E : Value → Shared → Prop} {s : Shared} {g : Heap} {L a b : Addr} {news : List (Addr × Obj)} {xs us : List Value} {ys zs : List Str} {ka kb : Nat} {Q : Value → Shared → Prop} (N : News g L s.heap news) (ma : (a, W.listOf xs.toArray ka) ∈ news) (hx : StrsAre xs ys) (mb : (b, W.listOf us.toArray kb) ∈ news) (hu' : StrsAre us zs)
    (oy : ∀ y ∈ ys, PyData.strOk y = true) (oz : ∀ y ∈ zs, PyData.strOk y = true) (hu : A.units + 64 < cLine) (h : ∀ b, (b = true ↔ ys ≠ zs) → Q (.bool b) s) : wpAny (model PP w) A (compareOp .NotEq (.ref a) (.ref b)) Q E s := by
  refine kqd_ne N ma rfl rfl (strs_dat hx) (fun _ h => nomatch h) mb rfl rfl (strs_dat hu') (fun _ h => nomatch h) (dat_ok oy) (dat_ok oz) hu (h _ ?_)
  rw [Bool.not_eq_true', decide_eq_false_iff_not, dat_inj]
local macro_rules | `(tactic| walk_at "eval ListComp") => `(tactic| refine stop_here ?_)
local macro_rules | `(tactic| walk_at "compareOp NotEq ref ref") => `(tactic| refine stop_here ?_)
set_option maxHeartbeats 8000000 in
theorem due_later1 {w : World} {g base h : Heap} {L ln lf : Addr} {d u tk : Nat} {outer : List Env} {loose : List Str} {mean : ExcName → Option Value} {mg mb : Str → Option Value} {vs lv : List Value} {lfp : Nat} {ns : List (Str × Str)} {left : List Str} {news : List (Addr × Obj)} {o1 o3 : Obj} {m : Str → Option Value} {s : Shared} {Q : Value → Shared → Prop} {E : Value → Shared → Prop} {e : Expr} {env : Env} {A : Around}
   (B : Below (mkA d u outer) base outer g) (X : (hd.heap_39 w.params).In g) (TT : Top hd.view_39 loose mean mg mb g) (hu : u ≤ 9000)
   (hvs : g.IsList ln vs.toArray) (hvl : vs.length = ns.length) (hT : ∀ (i : Nat) (p : Str × Str), ns[i]? = some p → ∃ (T : Addr) (a b : Tok), vs[i]? = some (.ref T) ∧ IsTup g T #[.str p.1 a, .str p.2 b]) (hnl : ns.length ≤ 11) (hsix : ∀ p ∈ ns, p.1 ∈ six ∧ p.2 ∈ six)
   (hL : StrsAre lv left) (hll : left.length ≤ 100)
   (F : Fr g L h m) (N : News g L h ((L + 1, o1) :: (L + 3, o3) :: (lf, W.listOf lv.toArray lfp) :: news)) (d1 : o1.data = .cell (some (.ref ln))) (d3 : o3.data = .cell (some (.ref lf)))
   (he : e = duLater) (henv : env = duEnv L) (hA : A = (mkA d u outer).deeper (duEnv L))
   (hq : ∀ D h' tk' ys, Fr g L h' m → News g L h' ((D, LCg.lst ys) :: (L + 1, o1) :: (L + 3, o3) :: (lf, W.listOf lv.toArray lfp) :: news) → (∀ p ∈ (L + 1, o1) :: (L + 3, o3) :: (lf, W.listOf lv.toArray lfp) :: news, p.1 ≠ D) →
     StrsAre ys (Mine.later ns left) → Q (.ref D) { s with heap := h', toks := tk' }) :
   wpAny (model PP w) A (eval e env) Q E { s with heap := h, toks := tk } := by
  subst he henv hA
  have eW : duLater = .ListComp _ _ _ _ := rfl
  have eS : stScope duFn = { kind := _, names := _, isGenerator := _, isCoroutine := _, more := _ } := rfl
  rw [duEnv, eS, eW]
  clear eW eS
  with_reducible refine comp_list (cl := [(Str.ofString "needs", L + 1), (Str.ofString "left", L + 3)]) F ?hh ?c1 ?c2 ?c3 (Kp fun a => ns.any fun p => decide (p.1 = a) && decide (p.2 ∈ left)) ?_ ?hs
  case hh => rfl
  case c1 => exact clos_is (by kernel_rfl)
  case c2 => rfl
  case c3 => decide +kernel
  case hs => intro _; rfl
  have hlv := strs_len hL
  k_steps
  refine ⟨lf, lv, _, rfl, F, N, fun h' _ N' => News.isList N' (.tail _ (.tail _ (.head _))), by rw [sizeLine_eq]; omega, ?_, fun D h' tk' es F' N' off hes hG _ => ?_⟩
  · intro I C i v hXX
    with_reducible refine hide ?_
    intro GG hGG
    obtain ⟨h5, gg, dd, tk5, os5⟩ := hXX
    with_reducible refine hGG ?_
    clear hGG GG
    intro oth hC hv hit hp F5 N5
    refine cps_EEA (strs_mem hL v (List.mem_of_getElem? hv)) ?_
    rintro q t rfl _
    refine turn_C (by rfl) (by kernel_rfl) (by kernel_rfl) hp F5 N5 hC (by kernel_rfl) ?_
    clear F5 N5
    intro h6 oC mC oK nC dK F6 N6
    simp only [List.cons_append] at N6
    refine wpAny_tests_one ?_
    show wpAny _ _ _ _ _ _
    k_steps
    refine ⟨?_⟩
    with_reducible refine due_inner1 B X TT hvs hvl hT hnl hL F6 N6 nC dK d1 d3 ?he ?henv ?hA ?hq
    case he => rfl
    case henv => rfl
    case hA => rfl
    clear F6 N6
    intro D3 h7 tk7 ys3 F7 N7 off7 hXX
    refine cps_EAA hXX ?_
    intro zs z1 z2 z3
    clear hXX
    intro hlen
    k_steps
    refine ⟨?_⟩
    rename Fr g L _ _ => F8
    rename News g L _ _ => N8
    refine ne_L N8 (.tail _ (.head _)) z1 (.head _) .nil (fun y hy => ?_) (fun _ h => nomatch h) (by show u + 3 + 64 < 9900; omega) fun b hb => ?_
    · with_reducible refine hide ?_
      intro GG hGG
      obtain ⟨p, hp, rfl⟩ := z3 y hy
      with_reducible refine hGG ?_
      clear hGG GG
      exact six_ok _ (hsix p hp).2
    have hP : (ns.any fun p => decide (p.1 = q) && decide (p.2 ∈ left)) = b := by
      rw [Bool.eq_iff_iff, hb, ne_eq, z2, Classical.not_not, List.any_eq_true]
      constructor
      · intro hXX
        with_reducible refine hide ?_
        intro GG hGG
        obtain ⟨p, hp, e⟩ := hXX
        with_reducible refine hGG ?_
        clear hGG GG
        simp only [Bool.and_eq_true, decide_eq_true_eq] at e
        exact ⟨p.2, by rw [← e.1]; exact hp, e.2⟩
      · intro hXX
        with_reducible refine hide ?_
        intro GG hGG
        obtain ⟨b, hb1, hb2⟩ := hXX
        with_reducible refine hGG ?_
        clear hGG GG
        exact ⟨(q, b), hb1, by simp [hb2]⟩
    cases b with
    | true =>
      k_steps
      exact tendC F8 nC dK (fun p hpp => N8 p (.tail _ (.tail _ hpp))) (by kernel_rfl) (os := []) (fun _ h => (nomatch h)) (fun _ h => (nomatch h)) ⟨rfl, q, t, rfl, by rw [if_pos hP]⟩
    | false =>
      k_steps
      exact tendC F8 nC dK (fun p hpp => N8 p (.tail _ (.tail _ hpp))) (by kernel_rfl) (os := []) (fun _ h => (nomatch h)) (fun _ h => (nomatch h)) ⟨rfl, q, t, rfl, by rw [if_neg (fun z => Bool.false_ne_true (hP.symm.trans z))]⟩
  · obtain ⟨h1, h2⟩ := keep_strs (hes ▸ hL) hG
    rw [h2, List.append_nil] at N' off
    exact hq D h' tk' _ F' N' off h1
set_option maxHeartbeats 8000000 in
theorem due_later2 {w : World} {g base h : Heap} {L ln lf : Addr} {d u tk : Nat} {outer : List Env} {loose : List Str} {mean : ExcName → Option Value} {mg mb : Str → Option Value} {vs lv : List Value} {lfp : Nat} {ns : List (Str × Str)} {left : List Str} {news : List (Addr × Obj)} {o1 o3 : Obj} {m : Str → Option Value} {s : Shared} {Q : Value → Shared → Prop} {E : Value → Shared → Prop} {e : Expr} {env : Env} {A : Around}
   (B : Below (mkA d u outer) base outer g) (X : (hd.heap_39 w.params).In g) (TT : Top hd.view_39 loose mean mg mb g) (hu : u ≤ 9000)
   (hvs : g.IsList ln vs.toArray) (hvl : vs.length = ns.length) (hT : ∀ (i : Nat) (p : Str × Str), ns[i]? = some p → ∃ (T : Addr) (a b : Tok), vs[i]? = some (.ref T) ∧ IsTup g T #[.str p.1 a, .str p.2 b]) (hnl : ns.length ≤ 11) (hsix : ∀ p ∈ ns, p.1 ∈ six ∧ p.2 ∈ six)
   (hL : StrsAre lv left) (hll : left.length ≤ 100)
   (F : Fr g L h m) (N : News g L h ((L + 1, o1) :: (L + 3, o3) :: (lf, W.listOf lv.toArray lfp) :: news)) (d1 : o1.data = .cell (some (.ref ln))) (d3 : o3.data = .cell (some (.ref lf)))
   (he : e = duLater2) (henv : env = duEnv L) (hA : A = (mkA d u outer).deeper (duEnv L))
   (hq : ∀ D h' tk' ys, Fr g L h' m → News g L h' ((D, LCg.lst ys) :: (L + 1, o1) :: (L + 3, o3) :: (lf, W.listOf lv.toArray lfp) :: news) → (∀ p ∈ (L + 1, o1) :: (L + 3, o3) :: (lf, W.listOf lv.toArray lfp) :: news, p.1 ≠ D) →
     StrsAre ys (Mine.later ns left) → Q (.ref D) { s with heap := h', toks := tk' }) :
   wpAny (model PP w) A (eval e env) Q E { s with heap := h, toks := tk } := by
  subst he henv hA
  have eW : duLater2 = .ListComp _ _ _ _ := rfl
  have eS : stScope duFn = { kind := _, names := _, isGenerator := _, isCoroutine := _, more := _ } := rfl
  rw [duEnv, eS, eW]
  clear eW eS
  with_reducible refine comp_list (cl := [(Str.ofString "needs", L + 1), (Str.ofString "left", L + 3)]) F ?hh ?c1 ?c2 ?c3 (Kp fun a => ns.any fun p => decide (p.1 = a) && decide (p.2 ∈ left)) ?_ ?hs
  case hh => rfl
  case c1 => exact clos_is (by kernel_rfl)
  case c2 => rfl
  case c3 => decide +kernel
  case hs => intro _; rfl
  have hlv := strs_len hL
  k_steps
  refine ⟨lf, lv, _, rfl, F, N, fun h' _ N' => News.isList N' (.tail _ (.tail _ (.head _))), by rw [sizeLine_eq]; omega, ?_, fun D h' tk' es F' N' off hes hG _ => ?_⟩
  · intro I C i v hXX
    with_reducible refine hide ?_
    intro GG hGG
    obtain ⟨h5, gg, dd, tk5, os5⟩ := hXX
    with_reducible refine hGG ?_
    clear hGG GG
    intro oth hC hv hit hp F5 N5
    refine cps_EEA (strs_mem hL v (List.mem_of_getElem? hv)) ?_
    rintro q t rfl _
    refine turn_C (by rfl) (by kernel_rfl) (by kernel_rfl) hp F5 N5 hC (by kernel_rfl) ?_
    clear F5 N5
    intro h6 oC mC oK nC dK F6 N6
    simp only [List.cons_append] at N6
    refine wpAny_tests_one ?_
    show wpAny _ _ _ _ _ _
    k_steps
    refine ⟨?_⟩
    with_reducible refine due_inner2 B X TT hvs hvl hT hnl hL F6 N6 nC dK d1 d3 ?he ?henv ?hA ?hq
    case he => rfl
    case henv => rfl
    case hA => rfl
    clear F6 N6
    intro D3 h7 tk7 ys3 F7 N7 off7 hXX
    refine cps_EAA hXX ?_
    intro zs z1 z2 z3
    clear hXX
    intro hlen
    k_steps
    refine ⟨?_⟩
    rename Fr g L _ _ => F8
    rename News g L _ _ => N8
    refine ne_L N8 (.tail _ (.head _)) z1 (.head _) .nil (fun y hy => ?_) (fun _ h => nomatch h) (by show u + 3 + 64 < 9900; omega) fun b hb => ?_
    · with_reducible refine hide ?_
      intro GG hGG
      obtain ⟨p, hp, rfl⟩ := z3 y hy
      with_reducible refine hGG ?_
      clear hGG GG
      exact six_ok _ (hsix p hp).2
    have hP : (ns.any fun p => decide (p.1 = q) && decide (p.2 ∈ left)) = b := by
      rw [Bool.eq_iff_iff, hb, ne_eq, z2, Classical.not_not, List.any_eq_true]
      constructor
      · intro hXX
        with_reducible refine hide ?_
        intro GG hGG
        obtain ⟨p, hp, e⟩ := hXX
        with_reducible refine hGG ?_
        clear hGG GG
        simp only [Bool.and_eq_true, decide_eq_true_eq] at e
        exact ⟨p.2, by rw [← e.1]; exact hp, e.2⟩
      · intro hXX
        with_reducible refine hide ?_
        intro GG hGG
        obtain ⟨b, hb1, hb2⟩ := hXX
        with_reducible refine hGG ?_
        clear hGG GG
        exact ⟨(q, b), hb1, by simp [hb2]⟩
    cases b with
    | true =>
      k_steps
      exact tendC F8 nC dK (fun p hpp => N8 p (.tail _ (.tail _ hpp))) (by kernel_rfl) (os := []) (fun _ h => (nomatch h)) (fun _ h => (nomatch h)) ⟨rfl, q, t, rfl, by rw [if_pos hP]⟩
    | false =>
      k_steps
      exact tendC F8 nC dK (fun p hpp => N8 p (.tail _ (.tail _ hpp))) (by kernel_rfl) (os := []) (fun _ h => (nomatch h)) (fun _ h => (nomatch h)) ⟨rfl, q, t, rfl, by rw [if_neg (fun z => Bool.false_ne_true (hP.symm.trans z))]⟩
  · obtain ⟨h1, h2⟩ := keep_strs (hes ▸ hL) hG
    rw [h2, List.append_nil] at N' off
    exact hq D h' tk' _ F' N' off h1
end

section
local macro_rules | `(tactic| walk_at "eval ListComp") => `(tactic| refine stop_here ?_)
local macro_rules | `(tactic| walk_at "exec Assign cons ListComp") => `(tactic| refine wpAny_Assign_Name ?_)
local macro_rules | `(tactic| walk_at "compareOp NotEq ref ref") => `(tactic| refine stop_here ?_)
local macro_rules | `(tactic| walk_at "call builtin:list.append") => `(tactic| refine stop_here ?_)
local macro_rules | `(tactic| walk_at "storeName") => `(tactic| refine stop_here ?_)
@[reducible] noncomputable def dum (rn : Addr) : Str → Option Value := fun y => if y = Str.ofString "rounds" then some (.ref rn) else none
theorem append_L {w : World} {A : Around} {E : Value → Shared → Prop} {s : Shared} {g : Heap} {L l : Addr} {m : Str → Option Value} {xs : List Value} {n : Nat} {x : Value} {rest : List (Addr × Obj)} {Q : Value → Shared → Prop} (F : Fr g L s.heap m) (N : News g L s.heap ((l, W.listOf xs.toArray n) :: rest)) (off : ∀ p ∈ rest, p.1 ≠ l) (hsz : xs.length ≤ 1000)
    (h : ∀ h', Fr g L h' m → News g L h' ((l, W.listOf (xs ++ [x]).toArray (n + 1)) :: rest) → Q .none { s with heap := h' }) : wpAny (model PP w) A (call (.builtin "list.append") [.ref l, x]) Q E s := by
  have Nl := N _ (.head _)
  refine append_at (hsz := by rw [List.size_toArray, sizeLine_eq]; omega) Nl.1 fun h' hs hl => ?_
  have k : ∀ b o, b ≠ l → s.heap.get? b = some o → h'.get? b = some o := fun b o hb e => hs.extBut b o hb e
  refine h h' (fr_but1 F Nl.2.1 Nl.2.2 k) (List.forall_mem_cons.mpr ⟨⟨?_, Nl.2⟩, news_but1 (fun p hp => N p (.tail _ hp)) off k⟩)
  rw [List.push_toArray] at hl
  exact hl
theorem store_C {w : World} {A : Around} {E : Value → Shared → Prop} {s : Shared} {g : Heap} {L c a : Addr} {m : Str → Option Value} {cn : Str} {cs : Scope} {ccd : Value} {cl : List (Str × Addr)} {x : Str} {v : Value} {v₀ : Option Value} {o : Obj} {rest : List (Addr × Obj)} {Q : Unit → Shared → Prop} (F : Fr g L s.heap m) (N : News g L s.heap ((c, o) :: rest)) (off : ∀ p ∈ rest, p.1 ≠ c) (hv₀ : o.data = .cell v₀)
    (hc : cl.lookup x = some c) (hkf : cs.kind = .function) (hk : (envX cn cs L a ccd cl).kindOf x = some .cell)
    (h : ∀ h' o', Fr g L h' m → News g L h' ((c, o') :: rest) → o'.data = .cell (some v) → Q () { s with heap := h' }) : wpAny (model PP w) A (storeName (envX cn cs L a ccd cl) x v) Q E s := by
  have Nl := N _ (.head _)
  refine wpAny_storeName_cell hkf hk hc ⟨_, Nl.1, hv₀⟩ fun h' hv hs => ?_
  with_reducible refine hide ?_
  intro GG hGG
  obtain ⟨o', ho', hd'⟩ := hv
  with_reducible refine hGG ?_
  clear hGG GG
  have k : ∀ b o, b ≠ c → s.heap.get? b = some o → h'.get? b = some o := fun b o hb e => hs.extBut b o hb e
  exact h h' o' (fr_but1 F Nl.2.1 Nl.2.2 k) (List.forall_mem_cons.mpr ⟨⟨ho', Nl.2⟩, news_but1 (fun p hp => N p (.tail _ hp)) off k⟩) hd'
theorem rled_a {rds : List Rd} {p : Addr × Obj} (h : p ∈ rled rds) : p.1 ∈ rds.map (·.a) := by
  with_reducible refine hide ?_
  intro GG hGG
  obtain ⟨r, hr, rfl⟩ := List.mem_map.mp h
  with_reducible refine hGG ?_
  clear hGG GG
  exact List.mem_map_of_mem (f := (·.a)) hr
@[reducible] noncomputable def duLed (L na rn lf lt : Addr) (o1 o2 o3 o4 : Obj) (nv lv ltv : List Value) (np lfp ltp rp : Nat) (rds : List Rd) : List (Addr × Obj) :=
  (L + 4, o4) :: (L + 3, o3) :: (lf, W.listOf lv.toArray lfp) :: (lt, W.listOf ltv.toArray ltp) :: (L + 2, o2) :: (L + 1, o1) :: (rn, W.listOf (rrefs rds).toArray rp) :: (na, W.listOf nv.toArray np) :: rled rds
structure DuAt (ns : List (Str × Str)) (L ln na rn lf lt : Addr) (o1 o2 o3 o4 : Obj) (lv ltv : List Value) (left : List Str) (rds : List Rd) (rs : List (List Str)) (f : Nat) : Prop where
  d1 : o1.data = .cell (some (.ref ln))
  d2 : o2.data = .cell (some (.ref na))
  d3 : o3.data = .cell (some (.ref lf))
  d4 : o4.data = .cell (some (.ref lt))
  hL : StrsAre lv left
  hLt : StrsAre ltv (Mine.later ns left)
  six : ∀ y ∈ left, y ∈ Mine.six
  pr : Paired (fun (r : Rd) (l : List Str) => StrsAre r.vs l) rds rs
  due : dueR ns 60 (left0 ns) = (rs ++ (dueR ns f left).1, (dueR ns f left).2)
  few : left.length < f
  len : rs.length + f ≤ 60
  off : ∀ p ∈ [(lf : Addr), lt, rn, na] ++ rds.map (·.a), p ≠ L + 1 ∧ p ≠ L + 2 ∧ p ≠ L + 3 ∧ p ≠ L + 4
  offR : ∀ p ∈ [(lf : Addr), lt, na] ++ rds.map (·.a), p ≠ rn
inductive DuJ (ns : List (Str × Str)) (L ln na rn : Addr) (nv : List Value) (np k : Nat) (news : List (Addr × Obj)) : Prop
  | mk (lf lt : Addr) (o1 o2 o3 o4 : Obj) (lv ltv : List Value) (lfp ltp rp : Nat) (left : List Str) (rds : List Rd) (rs : List (List Str)) (e : news = duLed L na rn lf lt o1 o2 o3 o4 nv lv ltv np lfp ltp rp rds) (ek : k = left.length)
      (f : Nat) (S : DuAt ns L ln na rn lf lt o1 o2 o3 o4 lv ltv left rds rs f)
set_option maxHeartbeats 8000000 in
theorem due_while {w : World} {g base h : Heap} {L ln na rn lf lt : Addr} {d u tk f : Nat} {outer : List Env} {loose : List Str} {mean : ExcName → Option Value} {mg mb : Str → Option Value} {vs nv lv ltv : List Value} {np lfp ltp rp : Nat} {ns : List (Str × Str)} {left : List Str} {o1 o2 o3 o4 : Obj} {s : Shared} {Q : Flow → Shared → Prop} {E : Value → Shared → Prop} {e : Stmt} {env : Env} {A : Around}
   (B : Below (mkA d u outer) base outer g) (X : (hd.heap_39 w.params).In g) (TT : Top hd.view_39 loose mean mg mb g) (hu : u ≤ 9000)
   (hvs : g.IsList ln vs.toArray) (hvl : vs.length = ns.length) (hT : ∀ (i : Nat) (p : Str × Str), ns[i]? = some p → ∃ (T : Addr) (a b : Tok), vs[i]? = some (.ref T) ∧ IsTup g T #[.str p.1 a, .str p.2 b]) (hnl : ns.length ≤ 11) (hsix : ∀ p ∈ ns, p.1 ∈ six ∧ p.2 ∈ six)
   (F₀ : Fr g L h (dum rn)) (N₀ : News g L h (duLed L na rn lf lt o1 o2 o3 o4 nv lv ltv np lfp ltp rp [])) (S₀ : DuAt ns L ln na rn lf lt o1 o2 o3 o4 lv ltv left [] [] f)
   (he : e = duWhile) (henv : env = duEnv L) (hA : A = (mkA d u outer).deeper (duEnv L))
   (hq : ∀ h' tk' lf lt o1 o2 o3 o4 lv ltv lfp ltp rp left rds rs, Fr g L h' (dum rn) → News g L h' (duLed L na rn lf lt o1 o2 o3 o4 nv lv ltv np lfp ltp rp rds) → (∃ f, DuAt ns L ln na rn lf lt o1 o2 o3 o4 lv ltv left rds rs f) → dueR ns 60 (left0 ns) = (rs, left) → Q .next { s with heap := h', toks := tk' }) :
   wpAny (model PP w) A (exec e env) Q E { s with heap := h, toks := tk } := by
  subst he henv hA
  have eW : duWhile = .While _ _ _ _ := rfl
  have eS : stScope duFn = { kind := _, names := _, isGenerator := _, isCoroutine := _, more := _ } := rfl
  rw [duEnv, eS, eW]
  clear eW eS
  refine while_newsQ (J := fun m₀ k m news => (∀ y, m y = dum rn y) ∧ DuJ ns L ln na rn nv np k news) (n₀ := left.length) F₀ N₀
    ⟨fun _ => rfl, lf, lt, o1, o2, o3, o4, lv, ltv, lfp, ltp, rp, left, [], [], rfl, rfl, f, S₀⟩ ?_
  intro k m₁ news₁ h₁ tk₁ F N hXX
  obtain ⟨hm, lf, lt, o1, o2, o3, o4, lv, ltv, lfp, ltp, rp, left, rds, rs, rfl, rfl, f, S⟩ := hXX
  intro Qt hQt
  have F1 := fr_congr F hm
  clear F F₀ N₀ S₀ hm
  have d3 := S.d3
  have d4 := S.d4
  have d1 := S.d1
  k_steps
  refine ⟨?_⟩
  have hsl : ∀ y ∈ Mine.later ns left, y ∈ six := fun y hy => S.six y (mem_later.mp hy).1
  refine ne_L N (.tail _ (.tail _ (.tail _ (.head _)))) S.hLt (.tail _ (.tail _ (.head _))) S.hL (fun y hy => six_ok y (hsl y hy)) (fun y hy => six_ok y (S.six y hy)) (by show u + 3 + 64 < 9900; omega) fun b hb => ?_
  obtain ⟨f, rfl⟩ : ∃ f', f = f' + 1 := ⟨f - 1, by have := S.few; omega⟩
  cases b with
  | false =>
    have he : Mine.later ns left = left := Classical.byContradiction fun z => Bool.false_ne_true (hb.mpr z)
    k_steps
    refine hq _ _ _ _ _ _ _ _ _ _ _ _ _ _ _ _ F1 N ⟨_, S⟩ ?_
    rw [S.due]
    have e1 : dueR ns (f + 1) left = ([], left) := by
      show (if Mine.later ns left = left then _ else _) = _
      rw [if_pos he]
    rw [e1, List.append_nil]
  | true =>
    have he : Mine.later ns left ≠ left := hb.mp rfl
    k_steps
    refine ⟨?_⟩
    have hll : left.length ≤ 100 := by have := S.few; have := S.len; omega
    with_reducible refine due_done B X TT S.hL S.hLt hll F1 N d3 d4 ?he ?henv ?hA ?hq
    case he => rfl
    case henv => rfl
    case hA => rfl
    clear F1 N
    intro D h2 tk2 ys F2 N2 off2 hys
    k_steps
    refine ⟨?_⟩
    have hrl : rds.length = rs.length := paired_len S.pr
    have oD : ∀ p ∈ [(lf : Addr), lt, rn, na] ++ rds.map (·.a), p ≠ D := fun p hp => by
      rcases List.mem_append.mp hp with hp | hp
      · simp only [List.mem_cons, List.not_mem_nil, or_false] at hp
        rcases hp with rfl | rfl | rfl | rfl
        · exact off2 _ (.tail _ (.tail _ (.head _)))
        · exact off2 _ (.tail _ (.tail _ (.tail _ (.head _))))
        · exact off2 _ (.tail _ (.tail _ (.tail _ (.tail _ (.tail _ (.tail _ (.head _)))))))
        · exact off2 _ (.tail _ (.tail _ (.tail _ (.tail _ (.tail _ (.tail _ (.tail _ (.head _))))))))
      · with_reducible refine hide ?_
        intro GG hGG
        obtain ⟨r, hr, rfl⟩ := List.mem_map.mp hp
        with_reducible refine hGG ?_
        clear hGG GG
        exact off2 (r.a, W.listOf r.vs.toArray r.ep) (.tail _ (.tail _ (.tail _ (.tail _ (.tail _ (.tail _ (.tail _ (.tail _ (List.mem_map_of_mem (f := fun r : Rd => (r.a, W.listOf r.vs.toArray r.ep)) hr)))))))))
    have cD : (@Ne Nat (L + 1) D) ∧ (@Ne Nat (L + 2) D) ∧ (@Ne Nat (L + 3) D) ∧ (@Ne Nat (L + 4) D) :=
      ⟨off2 _ (.tail _ (.tail _ (.tail _ (.tail _ (.tail _ (.head _)))))), off2 _ (.tail _ (.tail _ (.tail _ (.tail _ (.head _))))), off2 _ (.tail _ (.head _)), off2 _ (.head _)⟩
    have oR := S.off rn (by simp)
    have N3 : News g L h2 ((rn, W.listOf (rrefs rds).toArray rp) :: (D, LCg.lst ys) :: (L + 4, o4) :: (L + 3, o3) :: (lf, W.listOf lv.toArray lfp) :: (lt, W.listOf ltv.toArray ltp) :: (L + 2, o2) :: (L + 1, o1) :: (na, W.listOf nv.toArray np) :: rled rds) := news_sub N2 (by walk_at "X perm")
    refine append_L F2 N3 (fun p hp => ?_) (by rw [List.length_map]; have := S.len; omega) ?_
    · simp only [List.mem_cons] at hp
      rcases hp with rfl | rfl | rfl | rfl | rfl | rfl | rfl | rfl | hp
      · exact Ne.symm (oD rn (by simp))
      · exact Ne.symm oR.2.2.2
      · exact Ne.symm oR.2.2.1
      · exact S.offR _ (by simp)
      · exact S.offR _ (by simp)
      · exact Ne.symm oR.2.1
      · exact Ne.symm oR.1
      · exact S.offR _ (by simp)
      · exact S.offR _ (List.mem_append_right _ (rled_a hp))
    clear F2 N2 N3
    intro h3 F3 N3
    k_steps
    refine ⟨?_⟩
    have oM := S.off
    have ne1 : @Ne Nat (L + 1) (L + 3) := by omega
    have ne2 : @Ne Nat (L + 2) (L + 3) := by omega
    have ne4 : @Ne Nat (L + 4) (L + 3) := by omega
    have nf1 : @Ne Nat (L + 1) (L + 4) := by omega
    have nf2 : @Ne Nat (L + 2) (L + 4) := by omega
    have nf3 : @Ne Nat (L + 3) (L + 4) := by omega
    have N4 : News g L h3 ((L + 3, o3) :: (L + 1, o1) :: (lt, W.listOf ltv.toArray ltp) :: (L + 4, o4) :: (L + 2, o2) :: (rn, W.listOf (rrefs rds ++ [Value.ref D]).toArray (rp + 1)) :: (D, LCg.lst ys) :: (lf, W.listOf lv.toArray lfp) :: (na, W.listOf nv.toArray np) :: rled rds) := news_sub N3 (by walk_at "X perm")
    with_reducible refine store_C F3 N4 ?off d3 ?c1 ?c2 ?c3 ?go
    case c1 => kernel_rfl
    case c2 => rfl
    case c3 => kernel_rfl
    case off =>
      intro p hp
      simp only [List.mem_cons] at hp
      rcases hp with rfl | rfl | rfl | rfl | rfl | rfl | rfl | rfl | hp
      · exact ne1
      · exact (oM lt (by simp)).2.2.1
      · exact ne4
      · exact ne2
      · exact oR.2.2.1
      · exact Ne.symm cD.2.2.1
      · exact (oM lf (by simp)).2.2.1
      · exact (oM na (by simp)).2.2.1
      · exact (oM _ (List.mem_append_right _ (rled_a hp))).2.2.1
    clear F3 N3 N4
    intro h4 o3' F4 N4 d3'
    have N5 : News g L h4 ((L + 1, o1) :: (L + 3, o3') :: (lt, W.listOf ltv.toArray ltp) :: (L + 4, o4) :: (L + 2, o2) :: (rn, W.listOf (rrefs rds ++ [Value.ref D]).toArray (rp + 1)) :: (D, LCg.lst ys) :: (lf, W.listOf lv.toArray lfp) :: (na, W.listOf nv.toArray np) :: rled rds) :=
      List.forall_mem_cons.mpr ⟨N4 _ (.tail _ (.head _)), List.forall_mem_cons.mpr ⟨N4 _ (.head _), fun p hp => N4 p (.tail _ (.tail _ hp))⟩⟩
    clear N4
    k_steps
    refine ⟨?_⟩
    have hl2 : (Mine.later ns left).length < left.length := later_length he
    with_reducible refine due_later2 B X TT hu hvs hvl hT hnl hsix S.hLt ?hl F4 N5 d1 d3' ?he2 ?henv2 ?hA2 ?hq2
    case hl => omega
    case he2 => rfl
    case henv2 => rfl
    case hA2 => rfl
    clear F4 N5
    intro D2 h5 tk5 ys2 F5 N5 off5 hys2
    k_steps
    refine ⟨?_⟩
    have N6 : News g L h5 ((L + 4, o4) :: (D2, LCg.lst ys2) :: (L + 1, o1) :: (L + 3, o3') :: (lt, W.listOf ltv.toArray ltp) :: (L + 2, o2) :: (rn, W.listOf (rrefs rds ++ [Value.ref D]).toArray (rp + 1)) :: (D, LCg.lst ys) :: (lf, W.listOf lv.toArray lfp) :: (na, W.listOf nv.toArray np) :: rled rds) := news_sub N5 (by walk_at "X perm")
    have o5 : ∀ {a : Addr} {o : Obj}, (a, o) ∈ (L + 1, o1) :: (L + 3, o3') :: (lt, W.listOf ltv.toArray ltp) :: (L + 4, o4) :: (L + 2, o2) :: (rn, W.listOf (rrefs rds ++ [Value.ref D]).toArray (rp + 1)) :: (D, LCg.lst ys) :: (lf, W.listOf lv.toArray lfp) :: (na, W.listOf nv.toArray np) :: rled rds → @Ne Nat a D2 := fun hm => off5 _ hm
    have c1 := o5 (.head _)
    have c3 := o5 (.tail _ (.head _))
    have c4 := o5 (.tail _ (.tail _ (.tail _ (.head _))))
    have c2 := o5 (.tail _ (.tail _ (.tail _ (.tail _ (.head _)))))
    have cr := o5 (.tail _ (.tail _ (.tail _ (.tail _ (.tail _ (.head _))))))
    with_reducible refine store_C F5 N6 ?off9 d4 ?x1 ?x2 ?x3 ?go9
    case x1 => kernel_rfl
    case x2 => rfl
    case x3 => kernel_rfl
    case off9 =>
      intro p hp
      simp only [List.mem_cons] at hp
      rcases hp with rfl | rfl | rfl | rfl | rfl | rfl | rfl | rfl | rfl | hp
      · exact Ne.symm c4
      · exact nf1
      · exact nf3
      · exact (oM lt (by simp)).2.2.2
      · exact nf2
      · exact oR.2.2.2
      · exact Ne.symm cD.2.2.2
      · exact (oM lf (by simp)).2.2.2
      · exact (oM na (by simp)).2.2.2
      · exact (oM _ (List.mem_append_right _ (rled_a hp))).2.2.2
    clear F5 N5 N6
    intro h6 o4' F6 N6 d4'
    k_steps
    dsimp only
    have er : rrefs (rds ++ [⟨D, ys, ys.length⟩]) = rrefs rds ++ [Value.ref D] := by rw [rrefs, List.map_append]; rfl
    have el : rled (rds ++ [⟨D, ys, ys.length⟩]) = rled rds ++ [(D, LCg.lst ys)] := by unfold rled; rw [List.map_append]; rfl
    show Qt _ _
    refine hQt _ _ ?_
    refine ⟨_, _, _, duLed L na rn lt D2 o1 o2 o3' o4' nv ltv ys2 np ltp ys2.length (rp + 1) (rds ++ [⟨D, ys, ys.length⟩]), (Mine.later ns left).length, rfl, F6, fun p hp => N6 p ?_, hl2, fun _ => rfl,
      lt, D2, o1, o2, o3', o4', ltv, ys2, ltp, ys2.length, rp + 1, Mine.later ns left, rds ++ [⟨D, ys, ys.length⟩], rs ++ [left.filter fun a => decide (a ∉ Mine.later ns left)], rfl, rfl, f, ?_⟩
    · rw [duLed, er, el] at hp
      simp only [List.mem_cons, List.mem_append, List.not_mem_nil, or_false] at hp ⊢
      rcases hp with h | h | h | h | h | h | h | h | h | h
      · exact .inl h
      · exact .inr (.inr (.inr (.inl h)))
      · exact .inr (.inr (.inr (.inr (.inl h))))
      · exact .inr (.inl h)
      · exact .inr (.inr (.inr (.inr (.inr (.inl h)))))
      · exact .inr (.inr (.inl h))
      · exact .inr (.inr (.inr (.inr (.inr (.inr (.inl h))))))
      · exact .inr (.inr (.inr (.inr (.inr (.inr (.inr (.inr (.inr (.inl h)))))))))
      · exact .inr (.inr (.inr (.inr (.inr (.inr (.inr (.inr (.inr (.inr h)))))))))
      · exact .inr (.inr (.inr (.inr (.inr (.inr (.inr (.inl h)))))))
    · have e1 : dueR ns (f + 1) left = ((left.filter fun a => decide (a ∉ Mine.later ns left)) :: (dueR ns f (Mine.later ns left)).1, (dueR ns f (Mine.later ns left)).2) := by
        show (if Mine.later ns left = left then _ else _) = _
        rw [if_neg he]
      have hfew := S.few
      have hlen := S.len
      refine ⟨d1, S.d2, d3', d4', S.hLt, hys2, hsl, Paired.snoc S.pr hys, ?_, by omega, by rw [List.length_append, List.length_singleton]; omega, fun p hp => ?_, fun p hp => ?_⟩
      · rw [S.due, e1]; simp
      · simp only [List.map_append, List.map_cons, List.map_nil, List.mem_append, List.mem_cons, List.not_mem_nil, or_false] at hp
        rcases hp with (rfl | rfl | rfl | rfl) | hp | rfl
        · exact oM _ (by simp)
        · exact ⟨Ne.symm c1, Ne.symm c2, Ne.symm c3, Ne.symm c4⟩
        · exact oR
        · exact oM _ (by simp)
        · exact oM _ (List.mem_append_right _ hp)
        · exact ⟨Ne.symm cD.1, Ne.symm cD.2.1, Ne.symm cD.2.2.1, Ne.symm cD.2.2.2⟩
      · simp only [List.map_append, List.map_cons, List.map_nil, List.mem_append, List.mem_cons, List.not_mem_nil, or_false] at hp
        rcases hp with (rfl | rfl | rfl) | hp | rfl
        · exact S.offR _ (by simp)
        · exact Ne.symm cr
        · exact S.offR _ (by simp)
        · exact S.offR _ (List.mem_append_right _ hp)
        · exact Ne.symm (oD rn (by simp))
end

section
local macro_rules | `(tactic| walk_at "eval ListComp") => `(tactic| refine stop_here ?_)
local macro_rules | `(tactic| walk_at "exec Assign cons ListComp") => `(tactic| refine wpAny_Assign_Name ?_)
local macro_rules | `(tactic| walk_at "compareOp NotEq ref ref") => `(tactic| refine stop_here ?_)
local macro_rules | `(tactic| walk_at "call builtin:sorted") => `(tactic| refine stop_here ?_)
local macro_rules | `(tactic| walk_at "storeName") => `(tactic| refine stop_here ?_)
theorem env_due (L : Addr) : envOfC (Str.ofString "_law_due") (stScope duFn) L 204 (.ref 203) = duEnv L := by kernel_rfl
noncomputable def DueOut (ns : List (Str × Str)) (v : Value) (h : Heap) : Prop :=
  ∃ r re na nv np rn rp rds, v = .ref r ∧ h.get? r = some (W.listOf #[.ref na, .bool (!(dueR ns 60 (left0 ns)).2.isEmpty), .ref rn] re) ∧ h.get? na = some (W.listOf nv.toArray np) ∧ StrsAre nv (flat ns) ∧ h.get? rn = some (W.listOf (rrefs rds).toArray rp) ∧ (∀ p ∈ rled rds, h.get? p.1 = some p.2) ∧ Paired (fun (r : Rd) (l : List Str) => StrsAre r.vs l) rds (dueR ns 60 (left0 ns)).1
theorem mem_flat {ns : List (Str × Str)} {q : Str} : q ∈ flat ns ↔ ∃ p ∈ ns, q = p.1 ∨ q = p.2 := by
  unfold flat
  rw [List.mem_flatMap]
  simp
theorem left0_is {ns : List (Str × Str)} {us ss : List Str} (hnd : us.Nodup) (hm : ∀ q, q ∈ us ↔ q ∈ flat ns) (hp : ss.Perm us) (hs : sortedS ss = true) : ss = left0 ns := by
  have h1 : us.Perm ((vall ns).map (·.1)) := (List.perm_ext_iff_of_nodup hnd (vall_is ns).nd).mpr fun q => by rw [hm, (vall_is ns).names q, mem_flat]
  exact sorted_eq (sorted_pairwise hs) (left0_sorted ns) (hp.trans (h1.trans (left0_perm ns).symm))
set_option maxHeartbeats 8000000 in
theorem due_spec {w : World} {A : Around} {b : Heap} {s : Shared} {n : Nat} {ln : Addr} {ns : List (Str × Str)}
   (C : Cx w (n + 40) A b) (kb : b.StaysIn s.heap) (hNd : NeedsAt s.heap ln ns) (hsix : ∀ p ∈ ns, p.1 ∈ six ∧ p.2 ∈ six) (hnl : ns.length ≤ 11) :
   codeAny (model PP w) A (.call (.ref 204) ⟨[.ref ln], []⟩) (Ret s [] fun v h' => DueOut ns v h') s := by
  have hn : ∀ p ∈ ([] : List (Addr × Obj)), s.heap.get? p.1 = some p.2 ∧ b.get? p.1 = none := fun _ h => nomatch h
  have X0 := C.kin.keeps kb
  refine cps_EAA hNd ?_
  intro vs hvs₀ hvl hT₀
  clear hNd
  walk_at "M enterC"
  intro g L h₁ tk cells base outer d u loose mean mg mb hL F N Y B X TT bg hd hu hg gs ll kh
  have eS : stScope duFn = { kind := _, names := _, isGenerator := _, isCoroutine := _, more := _ } := rfl
  have eE := env_due L
  rw [duEnv, eS] at eE
  clear eS
  k_cells Y
  dsimp only [List.cons_append, List.nil_append] at N
  rw [eE]
  clear eE
  rename_i o4 o3 o2 o1 _ _ _ _
  show wpAny _ _ _ _ _ _
  k_fold
  have hgk : ∀ x o, s.heap.get? x = some o → g.get? x = some o := fun x o e => hg x o e fun h => nomatch h
  have hvs : g.IsList ln vs.toArray := let ⟨o, ho, r⟩ := hvs₀; ⟨o, hgk _ _ ho, r⟩
  have hT : ∀ (i : Nat) (p : Str × Str), ns[i]? = some p → ∃ (T : Addr) (a b : Tok), vs[i]? = some (.ref T) ∧ IsTup g T #[.str p.1 a, .str p.2 b] := fun i p hp => by
    refine cps_EEEAEA (hT₀ i p hp) ?_
    intro T1 a b e o ho r
    exact ⟨T1, a, b, e, o, hgk _ _ ho, r⟩
  have hu' : u ≤ 9000 := by omega
  have F0 := fr_congr (m' := fun _ => none) F fun y => by kernel_rfl
  have d1 : o1.data = .cell (some (.ref ln)) := by rename o1.data = _ => dx; exact dx.trans (by kernel_rfl)
  have d2 : o2.data = .cell none := by rename o2.data = _ => dx; exact dx.trans (by kernel_rfl)
  have d3 : o3.data = .cell none := by rename o3.data = _ => dx; exact dx.trans (by kernel_rfl)
  have d4 : o4.data = .cell none := by rename o4.data = _ => dx; exact dx.trans (by kernel_rfl)
  have N0 : News g L h₁ [(L + 1, o1), (L + 2, o2), (L + 3, o3), (L + 4, o4)] := List.forall_mem_cons.mpr ⟨N _ (.tail _ (.tail _ (.tail _ (.head _)))), List.forall_mem_cons.mpr ⟨N _ (.tail _ (.tail _ (.head _))), List.forall_mem_cons.mpr ⟨N _ (.tail _ (.head _)), List.forall_mem_cons.mpr ⟨N _ (.head _), fun _ h => (nomatch h)⟩⟩⟩⟩
  clear F N
  k_steps
  refine ⟨?_⟩
  with_reducible refine due_flat B X TT hvs hvl hT hnl F0 N0 d1 ?he1 ?henv1 ?hA1 ?hq1
  case he1 => rfl
  case henv1 => rfl
  case hA1 => rfl
  clear F0 N0
  intro na h2 tk2 nv F2 N2 off2 hnv
  k_steps
  refine ⟨?_⟩
  have q1 : @Ne Nat (L + 1) (L + 2) := by omega
  have q2 : @Ne Nat (L + 3) (L + 2) := by omega
  have q3 : @Ne Nat (L + 4) (L + 2) := by omega
  have q4 : @Ne Nat (L + 1) (L + 3) := by omega
  have q5 : @Ne Nat (L + 2) (L + 3) := by omega
  have q6 : @Ne Nat (L + 4) (L + 3) := by omega
  have q7 : @Ne Nat (L + 1) (L + 4) := by omega
  have q8 : @Ne Nat (L + 2) (L + 4) := by omega
  have q9 : @Ne Nat (L + 3) (L + 4) := by omega
  have na1 : @Ne Nat (L + 1) na := off2 _ (.head _)
  have na2 : @Ne Nat (L + 2) na := off2 _ (.tail _ (.head _))
  have na3 : @Ne Nat (L + 3) na := off2 _ (.tail _ (.tail _ (.head _)))
  have na4 : @Ne Nat (L + 4) na := off2 _ (.tail _ (.tail _ (.tail _ (.head _))))
  have N3 : News g L h2 [(L + 2, o2), (na, LCg.lst nv), (L + 1, o1), (L + 3, o3), (L + 4, o4)] := List.forall_mem_cons.mpr ⟨N2 _ (.tail _ (.tail _ (.head _))), List.forall_mem_cons.mpr ⟨N2 _ (.head _), List.forall_mem_cons.mpr ⟨N2 _ (.tail _ (.head _)), fun p hp => N2 p (.tail _ (.tail _ (.tail _ hp)))⟩⟩⟩
  with_reducible refine store_C F2 N3 ?off1 d2 ?x1 ?x2 ?x3 ?go1
  case x1 => kernel_rfl
  case x2 => rfl
  case x3 => kernel_rfl
  case off1 =>
    intro p hp
    simp only [List.mem_cons, List.not_mem_nil, or_false] at hp
    rcases hp with rfl | rfl | rfl | rfl
    · exact Ne.symm na2
    · exact q1
    · exact q2
    · exact q3
  clear F2 N2 N3
  intro h3 o2' F3 N3 d2'
  k_steps
  refine ⟨?_⟩
  have hfl : (flat ns).length ≤ 22 := by rw [flat_len]; omega
  with_reducible refine due_uniq B X TT hnv hfl F3 N3 d2' ?he2 ?henv2 ?hA2 ?hq2
  case he2 => rfl
  case henv2 => rfl
  case hA2 => rfl
  clear F3 N3
  intro D h4 tk4 ys us F4 N4 off4 hys hnd hmem hul
  k_steps
  refine ⟨?_⟩
  have hyl := strs_len hys
  refine sorted_N_str F4 N4 (News.isList N4 (.head _)) hys (by omega) ?_
  intro h5 lv left e F5 N5 hL hperm hsort
  have hle : left = left0 ns := left0_is hnd hmem hperm hsort
  with_reducible refine hide ?_
  intro GG hGG
  obtain ⟨lf, hlf⟩ : ∃ a, a = h4.objs.size + 1 := ⟨_, rfl⟩
  with_reducible refine hGG ?_
  clear hGG GG
  have hlt4 : ∀ p ∈ [(D, LCg.lst ys), (L + 2, o2'), (na, LCg.lst nv), (L + 1, o1), (L + 3, o3), (L + 4, o4)], @Ne Nat p.1 lf := fun p hp => by
    rw [hlf]
    exact Nat.ne_of_lt (Nat.lt_succ_of_lt (Heap.lt_size (N4 p hp).1))
  have N6 : News g L h5 [(L + 3, o3), (lf, W.listOf lv.toArray e), (L + 2, o2'), (na, LCg.lst nv), (L + 1, o1), (L + 4, o4)] := by
    rw [hlf]
    exact List.forall_mem_cons.mpr ⟨N5 _ (.tail _ (.tail _ (.tail _ (.tail _ (.tail _ (.head _)))))), List.forall_mem_cons.mpr ⟨N5 _ (.head _), List.forall_mem_cons.mpr ⟨N5 _ (.tail _ (.tail _ (.head _))), List.forall_mem_cons.mpr ⟨N5 _ (.tail _ (.tail _ (.tail _ (.head _)))), List.forall_mem_cons.mpr ⟨N5 _ (.tail _ (.tail _ (.tail _ (.tail _ (.head _))))), List.forall_mem_cons.mpr ⟨N5 _ (.tail _ (.tail _ (.tail _ (.tail _ (.tail _ (.tail _ (.head _))))))), fun _ h => (nomatch h)⟩⟩⟩⟩⟩⟩
  have lf1 : @Ne Nat (L + 1) lf := hlt4 _ (.tail _ (.tail _ (.tail _ (.head _))))
  have lf2 : @Ne Nat (L + 2) lf := hlt4 _ (.tail _ (.head _))
  have lf3 : @Ne Nat (L + 3) lf := hlt4 _ (.tail _ (.tail _ (.tail _ (.tail _ (.head _)))))
  have lf4 : @Ne Nat (L + 4) lf := hlt4 _ (.tail _ (.tail _ (.tail _ (.tail _ (.tail _ (.head _))))))
  have lfn : @Ne Nat na lf := hlt4 _ (.tail _ (.tail _ (.head _)))
  dsimp only
  rw [← hlf]
  with_reducible refine store_C F5 N6 ?off2 d3 ?y1 ?y2 ?y3 ?go2
  case y1 => kernel_rfl
  case y2 => rfl
  case y3 => kernel_rfl
  case off2 =>
    intro p hp
    simp only [List.mem_cons, List.not_mem_nil, or_false] at hp
    rcases hp with rfl | rfl | rfl | rfl | rfl
    · exact Ne.symm lf3
    · exact q5
    · exact Ne.symm na3
    · exact q4
    · exact q6
  clear F4 N4 F5 N5 N6 hlt4 hlf off4
  intro h6 o3' F6 N6 d3'
  k_steps
  refine ⟨?_⟩
  rename Fr g L _ _ => F7
  rename News g L _ _ => N7
  refine storeX_L F7 N7 ?_
  intro h8 F8 N8
  rename _ < _ ∧ _ => l7
  rename Addr => rn
  clear F7 N7
  k_steps
  refine ⟨?_⟩
  have N9 : News g L h8 [(L + 1, o1), (L + 3, o3'), (lf, W.listOf lv.toArray e), (rn, W.listOf #[] 0), (L + 2, o2'), (na, LCg.lst nv), (L + 4, o4)] := news_sub N8 (by walk_at "X perm")
  have rn3 : @Ne Nat rn (L + 3) := Nat.ne_of_gt l7.1
  have rnf : @Ne Nat lf rn := Nat.ne_of_lt l7.2.1
  have rn2 : @Ne Nat rn (L + 2) := Nat.ne_of_gt l7.2.2.1
  have rnn : @Ne Nat na rn := Nat.ne_of_lt l7.2.2.2.1
  have rn1 : @Ne Nat rn (L + 1) := Nat.ne_of_gt l7.2.2.2.2.1
  have rn4 : @Ne Nat rn (L + 4) := Nat.ne_of_gt l7.2.2.2.2.2
  have hll : left.length ≤ 22 := by rw [hperm.length_eq]; omega
  with_reducible refine due_later1 B X TT hu' hvs hvl hT hnl hsix hL ?hl3 F8 N9 d1 d3' ?he3 ?henv3 ?hA3 ?hq3
  case hl3 => omega
  case he3 => rfl
  case henv3 => rfl
  case hA3 => rfl
  clear F8 N8 N9
  intro lt h9 tk9 ltv F9 N9 off9 hltv
  k_steps
  refine ⟨?_⟩
  have lt1 : @Ne Nat (L + 1) lt := off9 _ (.head _)
  have lt3 : @Ne Nat (L + 3) lt := off9 _ (.tail _ (.head _))
  have ltf : @Ne Nat lf lt := off9 _ (.tail _ (.tail _ (.head _)))
  have ltr : @Ne Nat rn lt := off9 _ (.tail _ (.tail _ (.tail _ (.head _))))
  have lt2 : @Ne Nat (L + 2) lt := off9 _ (.tail _ (.tail _ (.tail _ (.tail _ (.head _)))))
  have ltn : @Ne Nat na lt := off9 _ (.tail _ (.tail _ (.tail _ (.tail _ (.tail _ (.head _))))))
  have lt4 : @Ne Nat (L + 4) lt := off9 _ (.tail _ (.tail _ (.tail _ (.tail _ (.tail _ (.tail _ (.head _)))))))
  have N10 : News g L h9 [(L + 4, o4), (L + 3, o3'), (lf, W.listOf lv.toArray e), (lt, W.listOf ltv.toArray ltv.length), (L + 2, o2'), (L + 1, o1), (rn, W.listOf (rrefs []).toArray 0), (na, W.listOf nv.toArray nv.length)] := news_sub N9 (by walk_at "X perm")
  with_reducible refine store_C F9 N10 ?off3 d4 ?z1 ?z2 ?z3 ?go3
  case z1 => kernel_rfl
  case z2 => rfl
  case z3 => kernel_rfl
  case off3 =>
    intro p hp
    simp only [List.mem_cons, List.not_mem_nil, or_false] at hp
    rcases hp with rfl | rfl | rfl | rfl | rfl | rfl | rfl
    · exact q9
    · exact Ne.symm lf4
    · exact Ne.symm lt4
    · exact q8
    · exact q7
    · exact rn4
    · exact Ne.symm na4
  clear F9 N9 N10
  intro h10 o4' F10 N10 d4'
  k_steps
  refine ⟨?_⟩
  rename Fr g L _ _ => F11
  rename News g L _ _ => N11
  have S : DuAt ns L ln na rn lf lt o1 o2' o3' o4' lv ltv left [] [] 60 := by
    refine ⟨d1, d2', d3', d4', hL, hltv, fun y hy => ?_, .nil, by rw [hle]; rfl, by omega, by simp, fun p hp => ?_, fun p hp => ?_⟩
    · with_reducible refine hide ?_
      intro GG hGG
      obtain ⟨p, hp, e⟩ := mem_flat.mp ((hmem y).mp (hperm.mem_iff.mp hy))
      with_reducible refine hGG ?_
      clear hGG GG
      rcases e with rfl | rfl
      · exact (hsix p hp).1
      · exact (hsix p hp).2
    · simp only [List.map_nil, List.append_nil, List.mem_cons, List.not_mem_nil, or_false] at hp
      rcases hp with rfl | rfl | rfl | rfl
      · exact ⟨Ne.symm lf1, Ne.symm lf2, Ne.symm lf3, Ne.symm lf4⟩
      · exact ⟨Ne.symm lt1, Ne.symm lt2, Ne.symm lt3, Ne.symm lt4⟩
      · exact ⟨rn1, rn2, rn3, rn4⟩
      · exact ⟨Ne.symm na1, Ne.symm na2, Ne.symm na3, Ne.symm na4⟩
    · simp only [List.map_nil, List.append_nil, List.mem_cons, List.not_mem_nil, or_false] at hp
      rcases hp with rfl | rfl | rfl
      · exact rnf
      · exact Ne.symm ltr
      · exact rnn
  with_reducible refine due_while (f := 60) (nv := nv) (rp := 0) (np := nv.length) (lfp := e) (ltp := ltv.length) B X TT hu' hvs hvl hT hnl hsix F11 ?hN S ?he4 ?henv4 ?hA4 ?hq4
  case hN => exact N11
  case he4 => rfl
  case henv4 => rfl
  case hA4 => rfl
  clear F11 N11 S
  rintro h12 tk12 lf2 lt2 p1 p2 p3 p4 lv2 ltv2 lfp2 ltp2 rp2 left2 rds rs F12 N12 ⟨f2, S2⟩ hdue
  have e2 := S2.d2
  have e3 := S2.d3
  k_steps
  refine ⟨?_⟩
  rename Fr g L _ _ => F13
  rename News g L _ _ => N13
  refine ne_L N13 (.tail _ (.tail _ (.tail _ (.head _)))) S2.hL (.head _) .nil (fun y hy => six_ok y (S2.six y hy)) (fun _ h => nomatch h) (by show u + 3 + 64 < 9900; omega) fun b hb => ?_
  have hbv : b = !left2.isEmpty := by
    rw [Bool.eq_iff_iff, hb]
    cases left2 <;> simp
  subst hbv
  k_steps
  dsimp only
  rename Fr g L _ _ => F14
  rename News g L _ _ => N14
  refine ⟨_, _, _, rfl, rfl, fun x o e _ => F14.keep _ _ (hgk x o e), ?_⟩
  unfold DueOut
  rw [hdue]
  have m4 : (rn, W.listOf (rrefs rds).toArray rp2) ∈ duLed L na rn lf2 lt2 p1 p2 p3 p4 nv lv2 ltv2 nv.length lfp2 ltp2 rp2 rds := .tail _ (.tail _ (.tail _ (.tail _ (.tail _ (.tail _ (.head _))))))
  have m5 : (na, W.listOf nv.toArray nv.length) ∈ duLed L na rn lf2 lt2 p1 p2 p3 p4 nv lv2 ltv2 nv.length lfp2 ltp2 rp2 rds := .tail _ (.tail _ (.tail _ (.tail _ (.tail _ (.tail _ (.tail _ (.head _)))))))
  exact ⟨_, _, na, nv, nv.length, rn, rp2, rds, rfl, (N14 _ (.head _)).1, (N14 _ (.tail _ (.tail _ m5))).1, hnv, (N14 _ (.tail _ (.tail _ m4))).1,
    fun p hp => (N14 p (.tail _ (.tail _ (.tail _ (.tail _ (.tail _ (.tail _ (.tail _ (.tail _ (.tail _ (.tail _ hp))))))))))).1, S2.pr⟩
end

section
theorem dueR_mem (ns : List (Str × Str)) : ∀ f left, ∀ l ∈ (dueR ns f left).1, ∀ y ∈ l, y ∈ left
  | 0, _, _, h, _, _ => nomatch h
  | f + 1, left, l, h, y, hy => by
    unfold dueR at h
    split at h
    · exact nomatch h
    · rcases List.mem_cons.mp h with rfl | h
      · exact (List.mem_filter.mp hy).1
      · exact (mem_later.mp (dueR_mem ns f _ l h y hy)).1
noncomputable def roundsD (rs : List (List Str)) : List PyData := rs.map fun l => PyData.list (l.map .str)
noncomputable def outD (fl : List Str) (b : Bool) (rs : List (List Str)) : PyData := .list [.list (fl.map .str), .bool b, .list (roundsD rs)]
theorem reads_rounds {h : Heap} : ∀ {rds : List Rd} {rs : List (List Str)}, (∀ p ∈ rled rds, h.get? p.1 = some p.2) → Paired (fun (r : Rd) (l : List Str) => StrsAre r.vs l) rds rs → ∃ as, ReadsAll h (rrefs rds) (roundsD rs) as
  | [], _, _, hp => by cases hp; exact ⟨_, .nil⟩
  | r :: rds, _, hh, hp => by
    cases hp with
    | cons h1 h2 =>
      obtain ⟨as, q⟩ := reads_rounds (fun p hp => hh p (.tail _ hp)) h2
      exact ⟨_, .cons (reads_list_at (hh _ (.head _)) rfl rfl (StrsAre.reads h h1)) q⟩
theorem eqv_strs : ∀ l : List Str, PyData.eqvAll (l.map .str) (l.map .str) = true
  | [] => by simp [PyData.eqvAll]
  | x :: r => by simp [PyData.eqvAll, PyData.eqv, eqv_strs r]
theorem eqv_rounds : ∀ rs : List (List Str), PyData.eqvAll (roundsD rs) (roundsD rs) = true
  | [] => by simp [roundsD, PyData.eqvAll]
  | x :: r => by
    have := eqv_rounds r
    unfold roundsD at this ⊢
    simp [PyData.eqvAll, PyData.eqv, eqv_strs x, this]
theorem eqv_out (fl : List Str) (b : Bool) (rs : List (List Str)) : PyData.eqv (outD fl b rs) (outD fl b rs) = true := by
  unfold outD
  cases b <;> simp [PyData.eqv, PyData.eqvAll, eqv_strs, eqv_rounds]
theorem lay_rounds : ∀ rs : List (List Str), (∀ l ∈ rs, ∀ y ∈ l, PyData.strOk y = true) → PyData.canLayAll0 (roundsD rs) = true ∧ PyData.depthAll (roundsD rs) ≤ 1
  | [], _ => by simp [roundsD, PyData.canLayAll0, PyData.depthAll]
  | x :: r, h => by
    obtain ⟨h1, h2⟩ := lay_rounds r fun l hl => h l (.tail _ hl)
    unfold roundsD at h1 h2 ⊢
    have hx : (x.all PyData.strOk) = true := List.all_eq_true.mpr (h x (.head _))
    simp only [List.map_cons, PyData.canLayAll0, PyData.canLay0, canLayAll_strs', hx, Bool.true_and, h1, PyData.depthAll, PyData.depth, depthAll_strs', true_and]
    omega
theorem shaped_out {fl : List Str} {b : Bool} {rs : List (List Str)} (h1 : ∀ y ∈ fl, PyData.strOk y = true) (h2 : ∀ l ∈ rs, ∀ y ∈ l, PyData.strOk y = true) : SeqAt.shaped (outD fl b rs) = true := by
  obtain ⟨a1, a2⟩ := lay_rounds rs h2
  have hx : (fl.all PyData.strOk) = true := List.all_eq_true.mpr h1
  unfold outD SeqAt.shaped
  simp only [PyData.canLay0, PyData.canLayAll0, canLayAll_strs', hx, a1, Bool.and_self, Bool.true_and, PyData.depth, PyData.depthAll, depthAll_strs', decide_eq_true_eq]
  omega
theorem eq_out {w : World} {A : Around} {E : Value → Shared → Prop} {s : Shared} {ns : List (Str × Str)} {ln : Addr} {vs : List Value} {lp : Nat} {v v' : Value} {Q : Value → Shared → Prop} (hsix : ∀ p ∈ ns, p.1 ∈ six ∧ p.2 ∈ six) (hln : s.heap.get? ln = some (W.listOf vs.toArray lp)) (hvs : StrsAre vs (flat ns)) (T : ToldOut ns ln v s.heap) (D : DueOut ns v' s.heap) (hu : A.units + 64 < cLine)
    (h : Q (.bool true) s) : wpAny (model PP w) A (compareOp .Eq v v') Q E s := by
  with_reducible refine hide ?_
  intro GG hGG
  refine cps_EEEEEAAAA T ?_
  rintro r re rn rp rds rfl hr hrn hrl hp
  clear T
  refine cps_EEEEEEEEAAAAAA D ?_
  rintro r' re' na nv np rn' rp' rds' rfl hr' hna hnv hrn' hrl' hp'
  clear D
  obtain ⟨as, q⟩ := reads_rounds hrl hp
  obtain ⟨as', q'⟩ := reads_rounds hrl' hp'
  with_reducible refine hGG ?_
  clear hGG GG
  have R1 : Reads s.heap (.ref r) (outD (flat ns) (!(dueR ns 60 (left0 ns)).2.isEmpty) (dueR ns 60 (left0 ns)).1) _ := reads_list_at hr rfl rfl (.cons (reads_list_at hln rfl rfl (StrsAre.reads _ hvs)) (.cons (.bool _) (.cons (reads_list_at hrn rfl rfl q) .nil)))
  have R2 : Reads s.heap (.ref r') (outD (flat ns) (!(dueR ns 60 (left0 ns)).2.isEmpty) (dueR ns 60 (left0 ns)).1) _ := reads_list_at hr' rfl rfl (.cons (reads_list_at hna rfl rfl (StrsAre.reads _ hnv)) (.cons (.bool _) (.cons (reads_list_at hrn' rfl rfl q') .nil)))
  have ok1 : ∀ y ∈ flat ns, y ∈ six := fun y hy => by
    with_reducible refine hide ?_
    intro GG hGG
    obtain ⟨p, hp, e⟩ := mem_flat.mp hy
    with_reducible refine hGG ?_
    clear hGG GG
    rcases e with rfl | rfl
    · exact (hsix p hp).1
    · exact (hsix p hp).2
  have ok2 : ∀ l ∈ (dueR ns 60 (left0 ns)).1, ∀ y ∈ l, PyData.strOk y = true := fun l hl y hy => six_ok y (by
    with_reducible refine hide ?_
    intro GG hGG
    obtain ⟨p, hp, e⟩ := mem_left0.mp (dueR_mem ns 60 _ l hl y hy)
    with_reducible refine hGG ?_
    clear hGG GG
    rcases e with rfl | rfl
    · exact (hsix p hp).1
    · exact (hsix p hp).2)
  have sh := shaped_out (b := !(dueR ns 60 (left0 ns)).2.isEmpty) (fun y hy => six_ok y (ok1 y hy)) ok2
  exact eq_dataH R1 R2 sh sh hu (by rw [eqv_out]; exact h)
end

section
open PyProof.Rows.TI (Frs SameUp)
local macro_rules | `(tactic| walk_at "compareOp Eq ref ref") => `(tactic| refine stop_here ?_)
theorem ToldOut.up {ns : List (Str × Str)} {ln : Addr} {v : Value} {h h' : Heap} (x : ToldOut ns ln v h) (k : ∀ b o, h.get? b = some o → h'.get? b = some o) : ToldOut ns ln v h' := by
  refine cps_EEEEEAAAA x ?_
  intro r re rn rp rds e h1 h2 h3 h4
  clear x
  exact ⟨r, re, rn, rp, rds, e, k _ _ h1, k _ _ h2, fun p hp => k _ _ (h3 p hp), h4⟩
theorem ints_mem {vs : List Value} {ks : List Int} (h : IntsAre vs ks) : ∀ v ∈ vs, ∃ k t, v = Value.int k t := by
  induction h with
  | nil => exact fun _ h => nomatch h
  | cons n t _ ih => exact List.forall_mem_cons.mpr ⟨⟨n, t, rfl⟩, ih⟩
theorem objs_news {g h h' : Heap} {L : Addr} {m m₀ : Str → Option Value} {objs : List (Addr × Obj)} (F : Fr g L h' m) (k : ∀ x o, g.get? x = some o → h.get? x = some o) (hns : h.Ns L m₀) (ho : ∀ p ∈ objs, h'.get? p.1 = some p.2 ∧ h.get? p.1 = none) : News g L h' objs := fun p hp => by
  obtain ⟨h1, h2⟩ := ho p hp
  refine ⟨h1, fun q => ?_, ?_⟩
  · refine cps_EEEA hns ?_
    intro oL _ _ hL _
    clear hns
    rw [q, hL] at h2; cases h2
  · cases e : g.get? p.1 with
    | none => rfl
    | some o => rw [k _ _ e] at h2; cases h2
theorem objs_one {g h h' : Heap} {L x : Addr} {o : Obj} {m m₀ : Str → Option Value} (F : Fr g L h' m) (k : ∀ x o, g.get? x = some o → h.get? x = some o) (hns : h.Ns L m₀) (h1 : h'.get? x = some o) (h2 : h.get? x = none) : News g L h' [(x, o)] :=
  objs_news F k hns fun p hp => (List.mem_singleton.mp hp) ▸ ⟨h1, h2⟩
theorem one_ne {l L : Addr} {oL : Obj} (h : l ≠ L) : ∀ p ∈ [(L, oL)], p.1 ≠ l := fun p hp q => by
  rw [List.mem_singleton.mp hp] at q; exact h q.symm
theorem news_keep {g h h' : Heap} {L : Addr} {news : List (Addr × Obj)} (N : News g L h news) (k : ∀ b o, h.get? b = some o → b ∉ ([] : List Addr) → h'.get? b = some o) : News g L h' news := fun p hp => ⟨k _ _ (N p hp).1 (fun h => nomatch h), (N p hp).2⟩
theorem caller_is : callerA = mkA (1 + claimMargin) 4 [] := rfl
theorem use_call0 {w : World} (n : Nat) {base g : Heap} {s : Shared} {L a : Addr} {m : Str → Option Value} {name : Str} {scope : Scope} {cd : Value} {news : List (Addr × Obj)}
    {loose : List Str} {mean : ExcName → Option Value} {mg mb : Str → Option Value} {f : Value} {args : List Value} {foot : List Addr} {P : Value → Heap → Prop} {Q : Value → Shared → Prop} {E : Value → Shared → Prop}
    (B : Below callerA base [] g) (F : Fr g L s.heap m) (N : News g L s.heap news) (X : (hd.heap_39 w.params).In g) (T : Top hd.view_39 loose mean mg mb g)
    (hd' : 1 + claimMargin + 1 + n ≤ 900 ∧ 4 + 3 + 20 * n ≤ 9000)
    (sp : ∀ b A', Cx w n A' b → b.StaysIn s.heap → (∀ p ∈ news, b.get? p.1 = none) → codeAny (model PP w) A' (.call f ⟨args, []⟩) (Ret s foot P) s)
    (hf : ∀ y ∈ foot, y ≠ L ∧ g.get? y = none)
    (h : ∀ v h' tk, Fr g L h' m → (∀ b o, s.heap.get? b = some o → b ∉ foot → h'.get? b = some o) → P v h' → Q v { s with heap := h', toks := tk }) (hk : scope.kind = .function) :
    wpAny (model PP w) (callerA.deeper (envOf name scope L a cd)) (call f args) Q E s := by
  rw [caller_is] at B ⊢
  with_reducible exact use_call n B F N X T hd' sp hf h hk
theorem use_callE0 {w : World} (n : Nat) {g : Heap} {s : Shared} {L a : Addr} {m : Str → Option Value} {name : Str} {scope : Scope} {cd : Value} {news : List (Addr × Obj)}
    {loose : List Str} {mean : ExcName → Option Value} {mg mb : Str → Option Value} {f : Value} {args : List Value} {P : Value → Heap → Prop} {Q : Value → Shared → Prop} {E : Value → Shared → Prop}
    (F : Fr g L s.heap m) (N : News g L s.heap news) (X : (hd.heap_39 w.params).In g) (T : Top hd.view_39 loose mean mg mb g)
    (hd' : 1 + claimMargin + 1 + n ≤ 900 ∧ 4 + 3 + 20 * n ≤ 9000)
    (sp : ∀ b A' oL, CxS w n A' b s.heap (envOf name scope L a cd :: []) ((L, oL) :: []) → b.StaysIn s.heap → (∀ p ∈ news, b.get? p.1 = none) →
      codeAny (model PP w) A' (.call f ⟨args, []⟩) (RetS s [] ((L, oL) :: []) P) s)
    (h : ∀ v h' tk, Fr g L h' m → (∀ b o, s.heap.get? b = some o → b ≠ L → h'.get? b = some o) → P v h' → Q v { s with heap := h', toks := tk }) (hk : scope.kind = .function) :
    wpAny (model PP w) (callerA.deeper (envOf name scope L a cd)) (call f args) Q E s := by
  rw [caller_is]
  with_reducible refine use_callE n (news := news) (foot := []) (frs := []) (P := P) (PE := fun _ => False) F ?Fs ?N X T hd' ?sp ?hf ?h ?he hk
  case Fs => exact trivial
  case N => rw [List.append_nil]; exact N
  case sp => exact fun b A' oL C kb hb => codeAny_mono (sp b A' oL C kb hb) fun _ _ z => .inl z
  case hf => exact fun _ h => nomatch h
  case h => exact fun v h' tk frs' _ _ F' _ k hP => h v h' tk F' (fun b o e hb => k b o e (fun q => nomatch q) hb (fun q => nomatch q)) hP
  case he => exact fun _ _ _ _ _ _ _ _ _ _ _ _ _ _ _ z => z.elim
local macro_rules | `(tactic| k_qdec) => `(tactic| decide +kernel)
theorem law_all : PySem.Challenge.rw_il0013_01.Holds := by
  refine holds_law hd.said fun said => ?_
  refine holds_open (q := hd.view_39) (loose := hd.loose) (Xt := fun s => xlAt hd.view_39 [] s && recOk (RowW.records PySem.Challenge.rw_il0013_01.row.toRowW) s) (XP := XL hd.view_39 []) (Yf := Hook.obs hd.hook) (Ya := Hook.val hd.hook) (YP := Hook.says hd.hook) (N := 2854) hd.left (Hook.of hd.hook) (Hook.keeps hd.hook) (fun s e => xl_of s (Bool.and_eq_true_iff.mp e).1) XL.keeps (by rfl) (by rfl) (by rfl) (fun s e => recFacts_of (Bool.and_eq_true_iff.mp e).2) (by rfl) (by decide +kernel) (by decide +kernel) ⟨rfl, rfl, rfl, rfl, rfl, by decide +kernel⟩ hd.wit ?hc
  k_go0
  (all_goals try k_fold)
  k_steps
  refine ⟨?_⟩
  rename Fr _ _ _ _ => F1
  rename News _ _ _ _ => N1
  rename Frag.In _ _ => KX
  rename Top _ _ _ _ _ _ => TT
  rename Below _ _ _ _ => B0
  rename IntsAre _ (List.take _ _) => hI
  have hIl := IntsAre.length hI
  have hS := News.isList N1 (List.Mem.head _)
  have him := ints_mem hI
  have hl6 := Nat.le_trans (Nat.le_of_eq hIl) (List.length_take_le 6 _)
  with_reducible refine use_call0 100 (foot := []) B0 F1 N1 KX TT ?a1 (fun b A' C1 kb n1 => needs_spec (n := 60) C1 kb hS him hl6) ?a3 ?a4 ?a5
  case a1 => decide
  case a3 => exact fun _ h => nomatch h
  case a5 => rfl
  intro v h2 tk2 F2 k2 hXX
  refine cps_EEEAAAA hXX ?_
  rintro ln ns objs rfl hN hob hsix hnl
  clear hXX
  have N2 := objs_news F2 (fun x o e => F1.keep x o e) F1.ns hob
  clear F1 N1
  k_steps
  refine ⟨?_⟩
  rename Fr _ _ _ _ => F3
  rename News _ _ _ _ => N3
  have hNA := hN.at fun p hp => (N3 p hp).1
  with_reducible refine use_call0 100 (foot := []) B0 F3 N3 KX TT ?b1 (fun b A' C1 kb n1 => text_spec (n := 60) C1 kb hNA hsix hnl) ?b3 ?b4 ?b5
  case b1 => decide
  case b3 => exact fun _ h => nomatch h
  case b5 => rfl
  rintro v h4 tk4 F4 k4 ⟨t4, rfl⟩
  have N4 := news_keep N3 k4
  clear F3 N3
  k_steps
  refine ⟨?_⟩
  rename Fr _ _ _ _ => F5
  rename News _ _ _ _ => N5
  have hqs : ∀ p ∈ ns, (quo p.1).length ≤ 40 ∧ (quo p.2).length ≤ 40 := fun p hp => ⟨quo_len _ (hsix p hp).1, quo_len _ (hsix p hp).2⟩
  have hTb := text_body ns ns.length (Nat.le_refl _)
  have hTl : (textTo ns ns.length).length ≤ 4000 := Nat.le_trans (textTo_len hqs ns.length) (by omega)
  have hno := segs_no ns ns.length (Nat.le_refl _)
  have hnt := tail_no ns ns.length (Nat.le_refl _)
  have hsn : (segsTo ns ns.length).map (·.2) = flat ns := by rw [segs_names ns _ (Nat.le_refl _), List.take_length]
  have hs2 : ∀ x ∈ segsTo ns ns.length, x.2 ∈ six := fun x hx => by
    have hx' := List.mem_map_of_mem (f := (·.2)) hx
    rw [hsn] at hx'
    with_reducible refine hide ?_
    intro GG hGG
    obtain ⟨p, hp, e⟩ := mem_flat.mp hx'
    with_reducible refine hGG ?_
    clear hGG GG
    rcases e with e | e
    · rw [e]; exact (hsix p hp).1
    · rw [e]; exact (hsix p hp).2
  have hsl : (segsTo ns ns.length).length ≤ 30 := by
    have e := congrArg List.length hsn
    rw [List.length_map] at e; rw [e, flat_len]; omega
  with_reducible refine use_call0 100 (foot := []) B0 F5 N5 KX TT ?c1 (fun b A' C1 kb n1 => names_spec (n := 60) C1 kb hTb hTl hno hnt hs2 hsl) ?c3 ?c4 ?c5
  case c1 => decide
  case c3 => exact fun _ h => nomatch h
  case c5 => rfl
  intro v h6 tk6 F6 k6 hXX
  refine cps_EEEAAA hXX ?_
  rintro l2 vs2 lp2 rfl hl2 hl2n hv2
  clear hXX
  rw [hsn] at hv2
  have N6 : News _ _ _ ((l2, W.listOf vs2.toArray lp2) :: _) := List.forall_mem_cons.mpr ⟨objs_one F6 (fun x o e => F5.keep x o e) F5.ns hl2 hl2n _ (List.Mem.head _), news_keep N5 k6⟩
  clear F5 N5 hno hnt hTb hTl hsn hs2 hsl
  k_steps
  refine ⟨?_⟩
  rename Fr _ _ _ _ => F7
  rename News _ _ _ _ => N7
  have hl2g := N7 _ (List.Mem.head _)
  with_reducible refine use_callE0 100 F7 N7 KX TT ?d1 (fun b A' oL C1 kb hb => told_spec (n := 60) C1 kb hl2g.1 (hb _ (List.Mem.head _)) hv2 hnl (one_ne hl2g.2.1)) ?d4 ?d5
  case d1 => decide
  case d5 => rfl
  intro v h8 tk8 F8 k8 hTold
  refine cps_EEEEEA (id hTold) ?_
  rintro r re rn rp rds rfl hTold'
  have N8 : News _ _ _ _ := fun p hp => ⟨k8 _ _ (N7 p hp).1 (N7 p hp).2.1, (N7 p hp).2⟩
  clear F7 N7
  k_steps
  refine ⟨?_⟩
  rename Fr _ _ _ _ => F9
  rename News _ _ _ _ => N9
  have hNB := hN.at fun p hp => (N9 p (List.Mem.tail _ hp)).1
  have hl2h := (N9 _ (List.Mem.head _)).1
  with_reducible refine use_call0 100 (foot := []) B0 F9 N9 KX TT ?e1 (fun b A' C1 kb n1 => due_spec (n := 60) C1 kb hNB hsix hnl) ?e3 ?e4 ?e5
  case e1 => decide
  case e3 => exact fun _ h => nomatch h
  case e5 => rfl
  intro v h10 tk10 F10 k10 hDue
  have hTold2 := ToldOut.up hTold fun b o e => k10 b o e (fun q => nomatch q)
  have hl2i := k10 _ _ hl2h (fun q => nomatch q)
  have hun : (callerA.deeper (envOf (Str.ofString "law") { kind := .function, names := [], isGenerator := false, isCoroutine := false } 0 0 .none)).units + 64 < cLine := by decide
  dsimp only
  refine eq_out hsix hl2i hv2 hTold2 hDue ?hu ?_
  case hu => exact hun
  k_steps
end

end Mine

set_option maxRecDepth 100000 in
set_option maxHeartbeats 8000000 in
theorem PySem.Challenge.cw_il0013_01_holds : PySem.Challenge.rw_il0013_01.Holds :=
  Mine.law_all
