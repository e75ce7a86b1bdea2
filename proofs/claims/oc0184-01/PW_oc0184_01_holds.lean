import PyProof.Rows.All
import Wide.All
import OpenK.AllK
import Wide.FinOn
import PySem.Challenge.RW_oc0184_01
set_option Elab.async false

section
open PySem PySem.W PyProof.Rows
set_option Elab.async false
set_option maxRecDepth 100000
set_option maxHeartbeats 8000000
namespace Mine
def at1 (i : Nat) : Option Stmt := PySem.Challenge.pw_oc0184_01.main.body[i]?
def at2 (i j : Nat) : Option Stmt := match at1 i with
  | some (.ClassDef _ _ _ b ..) => b[j]?
  | _ => none
inductive IsDef : Option Stmt → Arguments → List Stmt → Scope → Prop
  | mk {n a b d r t s u v p} : IsDef (some (.FunctionDef n a b d r t s u v p)) a b s
def valAt (o : Obj) (i : Nat) : Option Value := match o.data with
  | .dict es _ => es[i]?.map (·.val)
  | _ => none
inductive IsVal : Option Value → Value → Prop
  | mk {v} : IsVal (some v) v
/-- the objects that stand behind the top; the texts of the defs are read off the given program -/
noncomputable def hd.heap_39 : Params → Frag :=
  (fun {a0 : Arguments} {b0 : List Stmt} {s0 : Scope} {a1 : Arguments} {b1 : List Stmt} {s1 : Scope} {a2 : Arguments} {b2 : List Stmt} {s2 : Scope} {a3 : Arguments} {b3 : List Stmt} {s3 : Scope} {a4 : Arguments} {b4 : List Stmt} {s4 : Scope} {a5 : Arguments} {b5 : List Stmt} {s5 : Scope} {a6 : Arguments} {b6 : List Stmt} {s6 : Scope} {a7 : Arguments} {b7 : List Stmt} {s7 : Scope} {a8 : Arguments} {b8 : List Stmt} {s8 : Scope} {a9 : Arguments} {b9 : List Stmt} {s9 : Scope} {a10 : Arguments} {b10 : List Stmt} {s10 : Scope} {a11 : Arguments} {b11 : List Stmt} {s11 : Scope} {a12 : Arguments} {b12 : List Stmt} {s12 : Scope} {a13 : Arguments} {b13 : List Stmt} {s13 : Scope} {a14 : Arguments} {b14 : List Stmt} {s14 : Scope} {a15 : Arguments} {b15 : List Stmt} {s15 : Scope} {a16 : Arguments} {b16 : List Stmt} {s16 : Scope} {a17 : Arguments} {b17 : List Stmt} {s17 : Scope} {a18 : Arguments} {b18 : List Stmt} {s18 : Scope} {a19 : Arguments} {b19 : List Stmt} {s19 : Scope} {a20 : Arguments} {b20 : List Stmt} {s20 : Scope}
    (_ : IsDef (at1 0) a0 b0 s0)
    (_ : IsDef (at2 4 1) a1 b1 s1)
    (_ : IsDef (at2 6 0) a2 b2 s2)
    (_ : IsDef (at2 6 1) a3 b3 s3)
    (_ : IsDef (at2 6 2) a4 b4 s4)
    (_ : IsDef (at2 6 3) a5 b5 s5)
    (_ : IsDef (at2 6 4) a6 b6 s6)
    (_ : IsDef (at2 6 5) a7 b7 s7)
    (_ : IsDef (at2 6 6) a8 b8 s8)
    (_ : IsDef (at2 6 7) a9 b9 s9)
    (_ : IsDef (at2 6 8) a10 b10 s10)
    (_ : IsDef (at2 6 9) a11 b11 s11)
    (_ : IsDef (at1 8) a12 b12 s12)
    (_ : IsDef (at1 10) a13 b13 s13)
    (_ : IsDef (at1 11) a14 b14 s14)
    (_ : IsDef (at1 12) a15 b15 s15)
    (_ : IsDef (at1 13) a16 b16 s16)
    (_ : IsDef (at1 14) a17 b17 s17)
    (_ : IsDef (at1 15) a18 b18 s18)
    (_ : IsDef (at1 16) a19 b19 s19)
    (_ : IsDef (at1 17) a20 b20 s20)
    => fun P => (fun {lv : Value} (_ : IsVal (valAt (boot_o_3 P) 3) lv) => [
      (nat_lit 2, { cls := Value.none, data := Data.dict #[] }),
      (nat_lit 3, { cls := Value.type "dict", data := Data.dict #[{ hash := PyData.keyHash P (Str.ofString "__name__"), key := Value.str (Str.ofString "__name__") 165, val := Value.str (Str.ofString "law_oc0184_01") 392 }, { hash := PyData.keyHash P (Str.ofString "__doc__"), key := Value.str (Str.ofString "__doc__") 166, val := Value.none }, { hash := PyData.keyHash P (Str.ofString "__package__"), key := Value.str (Str.ofString "__package__") 167, val := Value.none }, { hash := PyData.keyHash P (Str.ofString "__loader__"), key := Value.str (Str.ofString "__loader__") 168, val := lv }, { hash := PyData.keyHash P (Str.ofString "__spec__"), key := Value.str (Str.ofString "__spec__") 169, val := Value.none }, { hash := PyData.keyHash P (Str.ofString "__annotations__"), key := Value.str (Str.ofString "__annotations__") 170, val := Value.ref 6 }, { hash := PyData.keyHash P (Str.ofString "__builtins__"), key := Value.str (Str.ofString "__builtins__") 171, val := Value.ref 4 }, { hash := PyData.keyHash P (Str.ofString "__file__"), key := Value.str (Str.ofString "__file__") 173, val := Value.str (Str.ofString "/claim/cut.py") 172 }, { hash := PyData.keyHash P (Str.ofString "__cached__"), key := Value.str (Str.ofString "__cached__") 174, val := Value.none }, { hash := PyData.keyHash P (Str.ofString "_wall"), key := Value.str (Str.ofString "_wall") 193, val := Value.ref 21 }, { hash := PyData.keyHash P (Str.ofString "_NODE_OUT"), key := Value.str (Str.ofString "_NODE_OUT") 198, val := Value.int (-1) 197 }, { hash := PyData.keyHash P (Str.ofString "_NODE_DONE"), key := Value.str (Str.ofString "_NODE_DONE") 201, val := Value.int (-2) 200 }, { hash := PyData.keyHash P (Str.ofString "_NodeInfo"), key := Value.str (Str.ofString "_NodeInfo") 238, val := Value.ref 40 }, { hash := PyData.keyHash P (Str.ofString "CycleError"), key := Value.str (Str.ofString "CycleError") 256, val := Value.ref 55 }, { hash := PyData.keyHash P (Str.ofString "TopologicalSorter"), key := Value.str (Str.ofString "TopologicalSorter") 375, val := Value.ref 137 }, { hash := PyData.keyHash P (Str.ofString "sorted_list_difference"), key := Value.str (Str.ofString "sorted_list_difference") 391, val := Value.ref 148 }, { hash := PyData.keyHash P (Str.ofString "_law_arcs"), key := Value.str (Str.ofString "_law_arcs") 399, val := Value.ref 153 }, { hash := PyData.keyHash P (Str.ofString "_law_waiting"), key := Value.str (Str.ofString "_law_waiting") 405, val := Value.ref 158 }, { hash := PyData.keyHash P (Str.ofString "_law_sets"), key := Value.str (Str.ofString "_law_sets") 417, val := Value.ref 165 }, { hash := PyData.keyHash P (Str.ofString "_law_closed"), key := Value.str (Str.ofString "_law_closed") 423, val := Value.ref 170 }, { hash := PyData.keyHash P (Str.ofString "_law_cuts"), key := Value.str (Str.ofString "_law_cuts") 429, val := Value.ref 175 }, { hash := PyData.keyHash P (Str.ofString "_law_fewest"), key := Value.str (Str.ofString "_law_fewest") 435, val := Value.ref 180 }, { hash := PyData.keyHash P (Str.ofString "_law_most"), key := Value.str (Str.ofString "_law_most") 441, val := Value.ref 185 }, { hash := PyData.keyHash P (Str.ofString "law"), key := Value.str (Str.ofString "law") 451, val := Value.ref 192 }] 24 }),
      (nat_lit 15, { cls := Value.type "tuple", data := Data.seq #[] }),
      (nat_lit 17, { cls := Value.type "tuple", data := Data.seq #[Value.str (Str.ofString "k") 190] }),
      (nat_lit 18, { cls := Value.type "tuple", data := Data.seq #[] }),
      (nat_lit 20, { cls := Value.type "code", data := Data.fields #[Value.str (Str.ofString "_wall") 187, Value.str (Str.ofString "_wall") 188, Value.str (Str.ofString "/claim/cut.py") 189, Value.int 1 0, Value.int 1 0, Value.int 0 0, Value.int 0 0, Value.int 3 0, Value.ref 15, Value.bool true, Value.int 181 0, Value.ref 16, Value.none, Value.ref 17, Value.ref 18, Value.ref 19, Value.int 191 0, Value.int 1 0, Value.str (Str.ofString "/claim/cut.py") 192] }),
      (nat_lit 21, { cls := Value.type "function", data := Data.func { name := Str.ofString "_wall", qualname := Str.ofString "_wall", params := a0, body := FuncBody.stmts b0, scope := s0, globals := 3, closure := [], defaults := Value.none, kwdefaults := Value.none, pyModule := Value.str (Str.ofString "__main__") 164, code := Value.ref 20 } }),
      (nat_lit 29, { cls := Value.type "tuple", data := Data.seq #[Value.str (Str.ofString "node") 214, Value.str (Str.ofString "npredecessors") 215, Value.str (Str.ofString "successors") 216] }),
      (nat_lit 30, { cls := Value.type "tuple", data := Data.seq #[] }),
      (nat_lit 32, { cls := Value.type "tuple", data := Data.seq #[Value.str (Str.ofString "self") 221, Value.str (Str.ofString "node") 222] }),
      (nat_lit 33, { cls := Value.type "tuple", data := Data.seq #[] }),
      (nat_lit 35, { cls := Value.type "code", data := Data.fields #[Value.str (Str.ofString "__init__") 218, Value.str (Str.ofString "_NodeInfo.__init__") 219, Value.str (Str.ofString "/claim/cut.py") 220, Value.int 10 0, Value.int 2 0, Value.int 0 0, Value.int 0 0, Value.int 3 0, Value.ref 30, Value.bool true, Value.int 181 0, Value.ref 31, Value.none, Value.ref 32, Value.ref 33, Value.ref 34, Value.int 223 0, Value.int 10 0, Value.str (Str.ofString "/claim/cut.py") 224] }),
      (nat_lit 36, { cls := Value.type "function", data := Data.func { name := Str.ofString "__init__", qualname := Str.ofString "_NodeInfo.__init__", params := a1, body := FuncBody.stmts b1, scope := s1, globals := 3, closure := [], defaults := Value.none, kwdefaults := Value.none, pyModule := Value.str (Str.ofString "cpy313.graphlib") 194, code := Value.ref 35 } }),
      (nat_lit 37, { cls := Value.type "tuple", data := Data.seq #[Value.str (Str.ofString "node") 226, Value.str (Str.ofString "npredecessors") 227, Value.str (Str.ofString "successors") 228] }),
      (nat_lit 39, { cls := Value.type "dict", data := Data.dict #[{ hash := PyData.keyHash P (Str.ofString "__module__"), key := Value.str (Str.ofString "__module__") 209, val := Value.str (Str.ofString "cpy313.graphlib") 194 }, { hash := PyData.keyHash P (Str.ofString "__firstlineno__"), key := Value.str (Str.ofString "__firstlineno__") 213, val := Value.int 7 212 }, { hash := PyData.keyHash P (Str.ofString "__slots__"), key := Value.str (Str.ofString "__slots__") 217, val := Value.ref 29 }, { hash := PyData.keyHash P (Str.ofString "__init__"), key := Value.str (Str.ofString "__init__") 225, val := Value.ref 36 }, { hash := PyData.keyHash P (Str.ofString "__static_attributes__"), key := Value.str (Str.ofString "__static_attributes__") 229, val := Value.ref 37 }, { hash := PyData.keyHash P (Str.ofString "node"), key := Value.str (Str.ofString "node") 231, val := Value.ref 41 }, { hash := PyData.keyHash P (Str.ofString "npredecessors"), key := Value.str (Str.ofString "npredecessors") 233, val := Value.ref 42 }, { hash := PyData.keyHash P (Str.ofString "successors"), key := Value.str (Str.ofString "successors") 235, val := Value.ref 43 }, { hash := PyData.keyHash P (Str.ofString "__doc__"), key := Value.str (Str.ofString "__doc__") 236, val := Value.none }] 5 }),
      (nat_lit 40, { cls := Value.type "type", data := Data.cls { name := Str.ofString "_NodeInfo", bases := [Value.type "object"], mro := [Value.ref 40, Value.type "object"], ns := 39, qualname := Str.ofString "_NodeInfo", hasDict := false, slotNames := [Str.ofString "node", Str.ofString "npredecessors", Str.ofString "successors"] }, slots := #[none, none, some (Value.str (Str.ofString "_NodeInfo") 202), some (Value.str (Str.ofString "_NodeInfo") 210), some (Value.builtin "object.__new__"), some (Value.bool false)] }),
      (nat_lit 41, { cls := Value.type "member_descriptor", data := Data.fields #[Value.str (Str.ofString "node") 230, Value.ref 40, Value.builtin "proto.slot", Value.builtin "proto.slot#set", Value.int 2 0] }),
      (nat_lit 42, { cls := Value.type "member_descriptor", data := Data.fields #[Value.str (Str.ofString "npredecessors") 232, Value.ref 40, Value.builtin "proto.slot", Value.builtin "proto.slot#set", Value.int 1 0] }),
      (nat_lit 43, { cls := Value.type "member_descriptor", data := Data.fields #[Value.str (Str.ofString "successors") 234, Value.ref 40, Value.builtin "proto.slot", Value.builtin "proto.slot#set", Value.int 0 0] }),
      (nat_lit 46, { cls := Value.type "tuple", data := Data.seq #[Value.type "ValueError"] }),
      (nat_lit 53, { cls := Value.type "tuple", data := Data.seq #[] }),
      (nat_lit 54, { cls := Value.type "dict", data := Data.dict #[{ hash := PyData.keyHash P (Str.ofString "__module__"), key := Value.str (Str.ofString "__module__") 246, val := Value.str (Str.ofString "cpy313.graphlib") 194 }, { hash := PyData.keyHash P (Str.ofString "__firstlineno__"), key := Value.str (Str.ofString "__firstlineno__") 250, val := Value.int 14 249 }, { hash := PyData.keyHash P (Str.ofString "__static_attributes__"), key := Value.str (Str.ofString "__static_attributes__") 251, val := Value.ref 53 }, { hash := PyData.keyHash P (Str.ofString "__weakref__"), key := Value.str (Str.ofString "__weakref__") 253, val := Value.ref 56 }, { hash := PyData.keyHash P (Str.ofString "__doc__"), key := Value.str (Str.ofString "__doc__") 254, val := Value.none }] 3 }),
      (nat_lit 55, { cls := Value.type "type", data := Data.cls { name := Str.ofString "CycleError", bases := [Value.type "ValueError"], mro := [Value.ref 55, Value.type "ValueError", Value.type "Exception", Value.type "BaseException", Value.type "object"], ns := 54, qualname := Str.ofString "CycleError" }, slots := #[some (Value.ref 46), none, some (Value.str (Str.ofString "CycleError") 239), some (Value.str (Str.ofString "CycleError") 247), some (Value.builtin "ValueError.__new__"), some (Value.bool true)] }),
      (nat_lit 56, { cls := Value.type "getset_descriptor", data := Data.fields #[Value.str (Str.ofString "__weakref__") 252, Value.ref 55, Value.builtin "ExceptionGroup.__weakref__", Value.none] }),
      (nat_lit 66, { cls := Value.type "tuple", data := Data.seq #[Value.none] }),
      (nat_lit 67, { cls := Value.type "tuple", data := Data.seq #[] }),
      (nat_lit 69, { cls := Value.type "tuple", data := Data.seq #[Value.str (Str.ofString "self") 272, Value.str (Str.ofString "graph") 273, Value.str (Str.ofString "node") 274, Value.str (Str.ofString "predecessors") 275] }),
      (nat_lit 70, { cls := Value.type "tuple", data := Data.seq #[] }),
      (nat_lit 72, { cls := Value.type "code", data := Data.fields #[Value.str (Str.ofString "__init__") 269, Value.str (Str.ofString "TopologicalSorter.__init__") 270, Value.str (Str.ofString "/claim/cut.py") 271, Value.int 18 0, Value.int 2 0, Value.int 0 0, Value.int 0 0, Value.int 3 0, Value.ref 67, Value.bool true, Value.int 181 0, Value.ref 68, Value.none, Value.ref 69, Value.ref 70, Value.ref 71, Value.int 276 0, Value.int 18 0, Value.str (Str.ofString "/claim/cut.py") 277] }),
      (nat_lit 73, { cls := Value.type "function", data := Data.func { name := Str.ofString "__init__", qualname := Str.ofString "TopologicalSorter.__init__", params := a2, body := FuncBody.stmts b2, scope := s2, globals := 3, closure := [], defaults := Value.ref 66, kwdefaults := Value.none, pyModule := Value.str (Str.ofString "cpy313.graphlib") 194, code := Value.ref 72 } }),
      (nat_lit 74, { cls := Value.type "tuple", data := Data.seq #[] }),
      (nat_lit 76, { cls := Value.type "tuple", data := Data.seq #[Value.str (Str.ofString "self") 282, Value.str (Str.ofString "node") 283, Value.str (Str.ofString "result") 284] }),
      (nat_lit 77, { cls := Value.type "tuple", data := Data.seq #[] }),
      (nat_lit 79, { cls := Value.type "code", data := Data.fields #[Value.str (Str.ofString "_get_nodeinfo") 279, Value.str (Str.ofString "TopologicalSorter._get_nodeinfo") 280, Value.str (Str.ofString "/claim/cut.py") 281, Value.int 27 0, Value.int 2 0, Value.int 0 0, Value.int 0 0, Value.int 3 0, Value.ref 74, Value.bool true, Value.int 181 0, Value.ref 75, Value.none, Value.ref 76, Value.ref 77, Value.ref 78, Value.int 285 0, Value.int 27 0, Value.str (Str.ofString "/claim/cut.py") 286] }),
      (nat_lit 80, { cls := Value.type "function", data := Data.func { name := Str.ofString "_get_nodeinfo", qualname := Str.ofString "TopologicalSorter._get_nodeinfo", params := a3, body := FuncBody.stmts b3, scope := s3, globals := 3, closure := [], defaults := Value.none, kwdefaults := Value.none, pyModule := Value.str (Str.ofString "cpy313.graphlib") 194, code := Value.ref 79 } }),
      (nat_lit 81, { cls := Value.type "tuple", data := Data.seq #[] }),
      (nat_lit 83, { cls := Value.type "tuple", data := Data.seq #[Value.str (Str.ofString "self") 291, Value.str (Str.ofString "node") 292, Value.str (Str.ofString "predecessors") 293, Value.str (Str.ofString "nodeinfo") 294, Value.str (Str.ofString "pred") 295, Value.str (Str.ofString "pred_info") 296] }),
      (nat_lit 84, { cls := Value.type "tuple", data := Data.seq #[] }),
      (nat_lit 86, { cls := Value.type "code", data := Data.fields #[Value.str (Str.ofString "add") 288, Value.str (Str.ofString "TopologicalSorter.add") 289, Value.str (Str.ofString "/claim/cut.py") 290, Value.int 32 0, Value.int 2 0, Value.int 0 0, Value.int 0 0, Value.int 7 0, Value.ref 81, Value.bool true, Value.int 181 0, Value.ref 82, Value.none, Value.ref 83, Value.ref 84, Value.ref 85, Value.int 297 0, Value.int 32 0, Value.str (Str.ofString "/claim/cut.py") 298] }),
      (nat_lit 87, { cls := Value.type "function", data := Data.func { name := Str.ofString "add", qualname := Str.ofString "TopologicalSorter.add", params := a4, body := FuncBody.stmts b4, scope := s4, globals := 3, closure := [], defaults := Value.none, kwdefaults := Value.none, pyModule := Value.str (Str.ofString "cpy313.graphlib") 194, code := Value.ref 86 } }),
      (nat_lit 88, { cls := Value.type "tuple", data := Data.seq #[] }),
      (nat_lit 91, { cls := Value.type "code", data := Data.fields #[Value.str (Str.ofString "prepare") 300, Value.str (Str.ofString "TopologicalSorter.prepare") 301, Value.str (Str.ofString "/claim/cut.py") 302, Value.int 41 0, Value.int 1 0, Value.int 0 0, Value.int 0 0, Value.int 3 0, Value.ref 88, Value.bool true, Value.int 181 0, Value.ref 89, Value.none, Value.none, Value.none, Value.ref 90, Value.int 303 0, Value.int 41 0, Value.str (Str.ofString "/claim/cut.py") 304] }),
      (nat_lit 92, { cls := Value.type "function", data := Data.func { name := Str.ofString "prepare", qualname := Str.ofString "TopologicalSorter.prepare", params := a5, body := FuncBody.stmts b5, scope := s5, globals := 3, closure := [], defaults := Value.none, kwdefaults := Value.none, pyModule := Value.str (Str.ofString "cpy313.graphlib") 194, code := Value.ref 91 } }),
      (nat_lit 93, { cls := Value.type "tuple", data := Data.seq #[] }),
      (nat_lit 95, { cls := Value.type "tuple", data := Data.seq #[Value.str (Str.ofString "self") 309, Value.str (Str.ofString "result") 310, Value.str (Str.ofString "n2i") 311, Value.str (Str.ofString "node") 312] }),
      (nat_lit 96, { cls := Value.type "tuple", data := Data.seq #[] }),
      (nat_lit 98, { cls := Value.type "code", data := Data.fields #[Value.str (Str.ofString "get_ready") 306, Value.str (Str.ofString "TopologicalSorter.get_ready") 307, Value.str (Str.ofString "/claim/cut.py") 308, Value.int 49 0, Value.int 1 0, Value.int 0 0, Value.int 0 0, Value.int 3 0, Value.ref 93, Value.bool true, Value.int 181 0, Value.ref 94, Value.none, Value.ref 95, Value.ref 96, Value.ref 97, Value.int 313 0, Value.int 49 0, Value.str (Str.ofString "/claim/cut.py") 314] }),
      (nat_lit 99, { cls := Value.type "function", data := Data.func { name := Str.ofString "get_ready", qualname := Str.ofString "TopologicalSorter.get_ready", params := a6, body := FuncBody.stmts b6, scope := s6, globals := 3, closure := [], defaults := Value.none, kwdefaults := Value.none, pyModule := Value.str (Str.ofString "cpy313.graphlib") 194, code := Value.ref 98 } }),
      (nat_lit 100, { cls := Value.type "tuple", data := Data.seq #[] }),
      (nat_lit 102, { cls := Value.type "tuple", data := Data.seq #[Value.str (Str.ofString "self") 319] }),
      (nat_lit 103, { cls := Value.type "tuple", data := Data.seq #[] }),
      (nat_lit 105, { cls := Value.type "code", data := Data.fields #[Value.str (Str.ofString "is_active") 316, Value.str (Str.ofString "TopologicalSorter.is_active") 317, Value.str (Str.ofString "/claim/cut.py") 318, Value.int 60 0, Value.int 1 0, Value.int 0 0, Value.int 0 0, Value.int 3 0, Value.ref 100, Value.bool true, Value.int 181 0, Value.ref 101, Value.none, Value.ref 102, Value.ref 103, Value.ref 104, Value.int 320 0, Value.int 60 0, Value.str (Str.ofString "/claim/cut.py") 321] }),
      (nat_lit 106, { cls := Value.type "function", data := Data.func { name := Str.ofString "is_active", qualname := Str.ofString "TopologicalSorter.is_active", params := a7, body := FuncBody.stmts b7, scope := s7, globals := 3, closure := [], defaults := Value.none, kwdefaults := Value.none, pyModule := Value.str (Str.ofString "cpy313.graphlib") 194, code := Value.ref 105 } }),
      (nat_lit 107, { cls := Value.type "tuple", data := Data.seq #[] }),
      (nat_lit 109, { cls := Value.type "tuple", data := Data.seq #[Value.str (Str.ofString "self") 326] }),
      (nat_lit 110, { cls := Value.type "tuple", data := Data.seq #[] }),
      (nat_lit 112, { cls := Value.type "code", data := Data.fields #[Value.str (Str.ofString "__bool__") 323, Value.str (Str.ofString "TopologicalSorter.__bool__") 324, Value.str (Str.ofString "/claim/cut.py") 325, Value.int 65 0, Value.int 1 0, Value.int 0 0, Value.int 0 0, Value.int 3 0, Value.ref 107, Value.bool true, Value.int 181 0, Value.ref 108, Value.none, Value.ref 109, Value.ref 110, Value.ref 111, Value.int 327 0, Value.int 65 0, Value.str (Str.ofString "/claim/cut.py") 328] }),
      (nat_lit 113, { cls := Value.type "function", data := Data.func { name := Str.ofString "__bool__", qualname := Str.ofString "TopologicalSorter.__bool__", params := a8, body := FuncBody.stmts b8, scope := s8, globals := 3, closure := [], defaults := Value.none, kwdefaults := Value.none, pyModule := Value.str (Str.ofString "cpy313.graphlib") 194, code := Value.ref 112 } }),
      (nat_lit 114, { cls := Value.type "tuple", data := Data.seq #[] }),
      (nat_lit 116, { cls := Value.type "tuple", data := Data.seq #[Value.str (Str.ofString "self") 333, Value.str (Str.ofString "nodes") 334, Value.str (Str.ofString "n2i") 335, Value.str (Str.ofString "node") 336, Value.str (Str.ofString "nodeinfo") 337, Value.str (Str.ofString "stat") 338, Value.str (Str.ofString "successor") 339, Value.str (Str.ofString "successor_info") 340] }),
      (nat_lit 117, { cls := Value.type "tuple", data := Data.seq #[] }),
      (nat_lit 119, { cls := Value.type "code", data := Data.fields #[Value.str (Str.ofString "done") 330, Value.str (Str.ofString "TopologicalSorter.done") 331, Value.str (Str.ofString "/claim/cut.py") 332, Value.int 68 0, Value.int 1 0, Value.int 0 0, Value.int 0 0, Value.int 7 0, Value.ref 114, Value.bool true, Value.int 181 0, Value.ref 115, Value.none, Value.ref 116, Value.ref 117, Value.ref 118, Value.int 341 0, Value.int 68 0, Value.str (Str.ofString "/claim/cut.py") 342] }),
      (nat_lit 120, { cls := Value.type "function", data := Data.func { name := Str.ofString "done", qualname := Str.ofString "TopologicalSorter.done", params := a9, body := FuncBody.stmts b9, scope := s9, globals := 3, closure := [], defaults := Value.none, kwdefaults := Value.none, pyModule := Value.str (Str.ofString "cpy313.graphlib") 194, code := Value.ref 119 } }),
      (nat_lit 121, { cls := Value.type "tuple", data := Data.seq #[] }),
      (nat_lit 123, { cls := Value.type "tuple", data := Data.seq #[Value.str (Str.ofString "self") 347, Value.str (Str.ofString "n2i") 348, Value.str (Str.ofString "stack") 349, Value.str (Str.ofString "itstack") 350, Value.str (Str.ofString "seen") 351, Value.str (Str.ofString "node2stacki") 352, Value.str (Str.ofString "node") 353] }),
      (nat_lit 124, { cls := Value.type "tuple", data := Data.seq #[] }),
      (nat_lit 126, { cls := Value.type "code", data := Data.fields #[Value.str (Str.ofString "_find_cycle") 344, Value.str (Str.ofString "TopologicalSorter._find_cycle") 345, Value.str (Str.ofString "/claim/cut.py") 346, Value.int 91 0, Value.int 1 0, Value.int 0 0, Value.int 0 0, Value.int 3 0, Value.ref 121, Value.bool true, Value.int 181 0, Value.ref 122, Value.none, Value.ref 123, Value.ref 124, Value.ref 125, Value.int 354 0, Value.int 91 0, Value.str (Str.ofString "/claim/cut.py") 355] }),
      (nat_lit 127, { cls := Value.type "function", data := Data.func { name := Str.ofString "_find_cycle", qualname := Str.ofString "TopologicalSorter._find_cycle", params := a10, body := FuncBody.stmts b10, scope := s10, globals := 3, closure := [], defaults := Value.none, kwdefaults := Value.none, pyModule := Value.str (Str.ofString "cpy313.graphlib") 194, code := Value.ref 126 } }),
      (nat_lit 128, { cls := Value.type "tuple", data := Data.seq #[] }),
      (nat_lit 130, { cls := Value.type "tuple", data := Data.seq #[Value.str (Str.ofString "self") 360] }),
      (nat_lit 131, { cls := Value.type "tuple", data := Data.seq #[] }),
      (nat_lit 133, { cls := Value.type "code", data := Data.fields #[Value.str (Str.ofString "static_order") 357, Value.str (Str.ofString "TopologicalSorter.static_order") 358, Value.str (Str.ofString "/claim/cut.py") 359, Value.int 120 0, Value.int 1 0, Value.int 0 0, Value.int 0 0, Value.int 3 0, Value.ref 128, Value.bool true, Value.int 181 0, Value.ref 129, Value.none, Value.ref 130, Value.ref 131, Value.ref 132, Value.int 361 0, Value.int 120 0, Value.str (Str.ofString "/claim/cut.py") 362] }),
      (nat_lit 134, { cls := Value.type "function", data := Data.func { name := Str.ofString "static_order", qualname := Str.ofString "TopologicalSorter.static_order", params := a11, body := FuncBody.stmts b11, scope := s11, globals := 3, closure := [], defaults := Value.none, kwdefaults := Value.none, pyModule := Value.str (Str.ofString "cpy313.graphlib") 194, code := Value.ref 133 } }),
      (nat_lit 135, { cls := Value.type "tuple", data := Data.seq #[Value.str (Str.ofString "_nfinished") 364, Value.str (Str.ofString "_node2info") 365, Value.str (Str.ofString "_npassedout") 366, Value.str (Str.ofString "_ready_nodes") 367] }),
      (nat_lit 136, { cls := Value.type "dict", data := Data.dict #[{ hash := PyData.keyHash P (Str.ofString "__module__"), key := Value.str (Str.ofString "__module__") 264, val := Value.str (Str.ofString "cpy313.graphlib") 194 }, { hash := PyData.keyHash P (Str.ofString "__firstlineno__"), key := Value.str (Str.ofString "__firstlineno__") 268, val := Value.int 16 267 }, { hash := PyData.keyHash P (Str.ofString "__init__"), key := Value.str (Str.ofString "__init__") 278, val := Value.ref 73 }, { hash := PyData.keyHash P (Str.ofString "_get_nodeinfo"), key := Value.str (Str.ofString "_get_nodeinfo") 287, val := Value.ref 80 }, { hash := PyData.keyHash P (Str.ofString "add"), key := Value.str (Str.ofString "add") 299, val := Value.ref 87 }, { hash := PyData.keyHash P (Str.ofString "prepare"), key := Value.str (Str.ofString "prepare") 305, val := Value.ref 92 }, { hash := PyData.keyHash P (Str.ofString "get_ready"), key := Value.str (Str.ofString "get_ready") 315, val := Value.ref 99 }, { hash := PyData.keyHash P (Str.ofString "is_active"), key := Value.str (Str.ofString "is_active") 322, val := Value.ref 106 }, { hash := PyData.keyHash P (Str.ofString "__bool__"), key := Value.str (Str.ofString "__bool__") 329, val := Value.ref 113 }, { hash := PyData.keyHash P (Str.ofString "done"), key := Value.str (Str.ofString "done") 343, val := Value.ref 120 }, { hash := PyData.keyHash P (Str.ofString "_find_cycle"), key := Value.str (Str.ofString "_find_cycle") 356, val := Value.ref 127 }, { hash := PyData.keyHash P (Str.ofString "static_order"), key := Value.str (Str.ofString "static_order") 363, val := Value.ref 134 }, { hash := PyData.keyHash P (Str.ofString "__static_attributes__"), key := Value.str (Str.ofString "__static_attributes__") 368, val := Value.ref 135 }, { hash := PyData.keyHash P (Str.ofString "__dict__"), key := Value.str (Str.ofString "__dict__") 370, val := Value.ref 138 }, { hash := PyData.keyHash P (Str.ofString "__weakref__"), key := Value.str (Str.ofString "__weakref__") 372, val := Value.ref 139 }, { hash := PyData.keyHash P (Str.ofString "__doc__"), key := Value.str (Str.ofString "__doc__") 373, val := Value.none }] 4 }),
      (nat_lit 137, { cls := Value.type "type", data := Data.cls { name := Str.ofString "TopologicalSorter", bases := [Value.type "object"], mro := [Value.ref 137, Value.type "object"], ns := 136, qualname := Str.ofString "TopologicalSorter" }, slots := #[none, none, some (Value.str (Str.ofString "TopologicalSorter") 257), some (Value.str (Str.ofString "TopologicalSorter") 265), some (Value.builtin "object.__new__"), some (Value.bool true)] }),
      (nat_lit 138, { cls := Value.type "getset_descriptor", data := Data.fields #[Value.str (Str.ofString "__dict__") 369, Value.ref 137, Value.builtin "function.__dict__", Value.builtin "function.__dict__#set"] }),
      (nat_lit 139, { cls := Value.type "getset_descriptor", data := Data.fields #[Value.str (Str.ofString "__weakref__") 371, Value.ref 137, Value.builtin "ExceptionGroup.__weakref__", Value.none] }),
      (nat_lit 142, { cls := Value.type "tuple", data := Data.seq #[] }),
      (nat_lit 144, { cls := Value.type "tuple", data := Data.seq #[Value.str (Str.ofString "expected") 381, Value.str (Str.ofString "actual") 382, Value.str (Str.ofString "i") 383, Value.str (Str.ofString "j") 384, Value.str (Str.ofString "missing") 385, Value.str (Str.ofString "unexpected") 386, Value.str (Str.ofString "e") 387, Value.str (Str.ofString "a") 388] }),
      (nat_lit 145, { cls := Value.type "tuple", data := Data.seq #[] }),
      (nat_lit 147, { cls := Value.type "code", data := Data.fields #[Value.str (Str.ofString "sorted_list_difference") 378, Value.str (Str.ofString "sorted_list_difference") 379, Value.str (Str.ofString "/claim/cut.py") 380, Value.int 123 0, Value.int 2 0, Value.int 0 0, Value.int 0 0, Value.int 3 0, Value.ref 142, Value.bool true, Value.int 181 0, Value.ref 143, Value.none, Value.ref 144, Value.ref 145, Value.ref 146, Value.int 389 0, Value.int 123 0, Value.str (Str.ofString "/claim/cut.py") 390] }),
      (nat_lit 148, { cls := Value.type "function", data := Data.func { name := Str.ofString "sorted_list_difference", qualname := Str.ofString "sorted_list_difference", params := a12, body := FuncBody.stmts b12, scope := s12, globals := 3, closure := [], defaults := Value.none, kwdefaults := Value.none, pyModule := Value.str (Str.ofString "cpy313.unittest.util") 376, code := Value.ref 147 } }),
      (nat_lit 149, { cls := Value.type "tuple", data := Data.seq #[] }),
      (nat_lit 152, { cls := Value.type "code", data := Data.fields #[Value.str (Str.ofString "_law_arcs") 394, Value.str (Str.ofString "_law_arcs") 395, Value.str (Str.ofString "/claim/cut.py") 396, Value.int 156 0, Value.int 1 0, Value.int 0 0, Value.int 0 0, Value.int 3 0, Value.ref 149, Value.bool true, Value.int 181 0, Value.ref 150, Value.none, Value.none, Value.none, Value.ref 151, Value.int 397 0, Value.int 156 0, Value.str (Str.ofString "/claim/cut.py") 398] }),
      (nat_lit 153, { cls := Value.type "function", data := Data.func { name := Str.ofString "_law_arcs", qualname := Str.ofString "_law_arcs", params := a13, body := FuncBody.stmts b13, scope := s13, globals := 3, closure := [], defaults := Value.none, kwdefaults := Value.none, pyModule := Value.str (Str.ofString "law_oc0184_01") 392, code := Value.ref 152 } }),
      (nat_lit 154, { cls := Value.type "tuple", data := Data.seq #[] }),
      (nat_lit 157, { cls := Value.type "code", data := Data.fields #[Value.str (Str.ofString "_law_waiting") 400, Value.str (Str.ofString "_law_waiting") 401, Value.str (Str.ofString "/claim/cut.py") 402, Value.int 162 0, Value.int 2 0, Value.int 0 0, Value.int 0 0, Value.int 3 0, Value.ref 154, Value.bool true, Value.int 181 0, Value.ref 155, Value.none, Value.none, Value.none, Value.ref 156, Value.int 403 0, Value.int 162 0, Value.str (Str.ofString "/claim/cut.py") 404] }),
      (nat_lit 158, { cls := Value.type "function", data := Data.func { name := Str.ofString "_law_waiting", qualname := Str.ofString "_law_waiting", params := a14, body := FuncBody.stmts b14, scope := s14, globals := 3, closure := [], defaults := Value.none, kwdefaults := Value.none, pyModule := Value.str (Str.ofString "law_oc0184_01") 392, code := Value.ref 157 } }),
      (nat_lit 159, { cls := Value.type "tuple", data := Data.seq #[] }),
      (nat_lit 161, { cls := Value.type "tuple", data := Data.seq #[Value.str (Str.ofString "arcs") 409, Value.str (Str.ofString "orders") 410, Value.str (Str.ofString "sets") 411, Value.str (Str.ofString "seen") 412, Value.str (Str.ofString "order") 413, Value.str (Str.ofString "thing") 414] }),
      (nat_lit 162, { cls := Value.type "tuple", data := Data.seq #[] }),
      (nat_lit 164, { cls := Value.type "code", data := Data.fields #[Value.str (Str.ofString "_law_sets") 406, Value.str (Str.ofString "_law_sets") 407, Value.str (Str.ofString "/claim/cut.py") 408, Value.int 172 0, Value.int 1 0, Value.int 0 0, Value.int 0 0, Value.int 3 0, Value.ref 159, Value.bool true, Value.int 181 0, Value.ref 160, Value.none, Value.ref 161, Value.ref 162, Value.ref 163, Value.int 415 0, Value.int 172 0, Value.str (Str.ofString "/claim/cut.py") 416] }),
      (nat_lit 165, { cls := Value.type "function", data := Data.func { name := Str.ofString "_law_sets", qualname := Str.ofString "_law_sets", params := a15, body := FuncBody.stmts b15, scope := s15, globals := 3, closure := [], defaults := Value.none, kwdefaults := Value.none, pyModule := Value.str (Str.ofString "law_oc0184_01") 392, code := Value.ref 164 } }),
      (nat_lit 166, { cls := Value.type "tuple", data := Data.seq #[] }),
      (nat_lit 169, { cls := Value.type "code", data := Data.fields #[Value.str (Str.ofString "_law_closed") 418, Value.str (Str.ofString "_law_closed") 419, Value.str (Str.ofString "/claim/cut.py") 420, Value.int 184 0, Value.int 1 0, Value.int 0 0, Value.int 0 0, Value.int 3 0, Value.ref 166, Value.bool true, Value.int 181 0, Value.ref 167, Value.none, Value.none, Value.none, Value.ref 168, Value.int 421 0, Value.int 184 0, Value.str (Str.ofString "/claim/cut.py") 422] }),
      (nat_lit 170, { cls := Value.type "function", data := Data.func { name := Str.ofString "_law_closed", qualname := Str.ofString "_law_closed", params := a16, body := FuncBody.stmts b16, scope := s16, globals := 3, closure := [], defaults := Value.none, kwdefaults := Value.none, pyModule := Value.str (Str.ofString "law_oc0184_01") 392, code := Value.ref 169 } }),
      (nat_lit 171, { cls := Value.type "tuple", data := Data.seq #[] }),
      (nat_lit 174, { cls := Value.type "code", data := Data.fields #[Value.str (Str.ofString "_law_cuts") 424, Value.str (Str.ofString "_law_cuts") 425, Value.str (Str.ofString "/claim/cut.py") 426, Value.int 191 0, Value.int 2 0, Value.int 0 0, Value.int 0 0, Value.int 3 0, Value.ref 171, Value.bool true, Value.int 181 0, Value.ref 172, Value.none, Value.none, Value.none, Value.ref 173, Value.int 427 0, Value.int 191 0, Value.str (Str.ofString "/claim/cut.py") 428] }),
      (nat_lit 175, { cls := Value.type "function", data := Data.func { name := Str.ofString "_law_cuts", qualname := Str.ofString "_law_cuts", params := a17, body := FuncBody.stmts b17, scope := s17, globals := 3, closure := [], defaults := Value.none, kwdefaults := Value.none, pyModule := Value.str (Str.ofString "law_oc0184_01") 392, code := Value.ref 174 } }),
      (nat_lit 176, { cls := Value.type "tuple", data := Data.seq #[] }),
      (nat_lit 179, { cls := Value.type "code", data := Data.fields #[Value.str (Str.ofString "_law_fewest") 430, Value.str (Str.ofString "_law_fewest") 431, Value.str (Str.ofString "/claim/cut.py") 432, Value.int 198 0, Value.int 2 0, Value.int 0 0, Value.int 0 0, Value.int 3 0, Value.ref 176, Value.bool true, Value.int 181 0, Value.ref 177, Value.none, Value.none, Value.none, Value.ref 178, Value.int 433 0, Value.int 198 0, Value.str (Str.ofString "/claim/cut.py") 434] }),
      (nat_lit 180, { cls := Value.type "function", data := Data.func { name := Str.ofString "_law_fewest", qualname := Str.ofString "_law_fewest", params := a18, body := FuncBody.stmts b18, scope := s18, globals := 3, closure := [], defaults := Value.none, kwdefaults := Value.none, pyModule := Value.str (Str.ofString "law_oc0184_01") 392, code := Value.ref 179 } }),
      (nat_lit 181, { cls := Value.type "tuple", data := Data.seq #[] }),
      (nat_lit 184, { cls := Value.type "code", data := Data.fields #[Value.str (Str.ofString "_law_most") 436, Value.str (Str.ofString "_law_most") 437, Value.str (Str.ofString "/claim/cut.py") 438, Value.int 205 0, Value.int 1 0, Value.int 0 0, Value.int 0 0, Value.int 3 0, Value.ref 181, Value.bool true, Value.int 181 0, Value.ref 182, Value.none, Value.none, Value.none, Value.ref 183, Value.int 439 0, Value.int 205 0, Value.str (Str.ofString "/claim/cut.py") 440] }),
      (nat_lit 185, { cls := Value.type "function", data := Data.func { name := Str.ofString "_law_most", qualname := Str.ofString "_law_most", params := a19, body := FuncBody.stmts b19, scope := s19, globals := 3, closure := [], defaults := Value.none, kwdefaults := Value.none, pyModule := Value.str (Str.ofString "law_oc0184_01") 392, code := Value.ref 184 } }),
      (nat_lit 186, { cls := Value.type "tuple", data := Data.seq #[] }),
      (nat_lit 188, { cls := Value.type "tuple", data := Data.seq #[Value.str (Str.ofString "script") 445, Value.str (Str.ofString "arcs") 446, Value.str (Str.ofString "sets") 447, Value.str (Str.ofString "cuts") 448] }),
      (nat_lit 189, { cls := Value.type "tuple", data := Data.seq #[] }),
      (nat_lit 191, { cls := Value.type "code", data := Data.fields #[Value.str (Str.ofString "law") 442, Value.str (Str.ofString "law") 443, Value.str (Str.ofString "/claim/cut.py") 444, Value.int 210 0, Value.int 1 0, Value.int 0 0, Value.int 0 0, Value.int 3 0, Value.ref 186, Value.bool true, Value.int 181 0, Value.ref 187, Value.none, Value.ref 188, Value.ref 189, Value.ref 190, Value.int 449 0, Value.int 210 0, Value.str (Str.ofString "/claim/cut.py") 450] }),
      (nat_lit 192, { cls := Value.type "function", data := Data.func { name := Str.ofString "law", qualname := Str.ofString "law", params := a20, body := FuncBody.stmts b20, scope := s20, globals := 3, closure := [], defaults := Value.none, kwdefaults := Value.none, pyModule := Value.str (Str.ofString "law_oc0184_01") 392, code := Value.ref 191 } })]) .mk)
    .mk .mk .mk .mk .mk .mk .mk .mk .mk .mk .mk .mk .mk .mk .mk .mk .mk .mk .mk .mk .mk
abbrev hd.as : List Addr := [nat_lit 2, nat_lit 3, nat_lit 15, nat_lit 17, nat_lit 18, nat_lit 20, nat_lit 21, nat_lit 29, nat_lit 30, nat_lit 32, nat_lit 33, nat_lit 35, nat_lit 36, nat_lit 37, nat_lit 39, nat_lit 40, nat_lit 41, nat_lit 42, nat_lit 43, nat_lit 46, nat_lit 53, nat_lit 54, nat_lit 55, nat_lit 56, nat_lit 66, nat_lit 67, nat_lit 69, nat_lit 70, nat_lit 72, nat_lit 73, nat_lit 74, nat_lit 76, nat_lit 77, nat_lit 79, nat_lit 80, nat_lit 81, nat_lit 83, nat_lit 84, nat_lit 86, nat_lit 87, nat_lit 88, nat_lit 91, nat_lit 92, nat_lit 93, nat_lit 95, nat_lit 96, nat_lit 98, nat_lit 99, nat_lit 100, nat_lit 102, nat_lit 103, nat_lit 105, nat_lit 106, nat_lit 107, nat_lit 109, nat_lit 110, nat_lit 112, nat_lit 113, nat_lit 114, nat_lit 116, nat_lit 117, nat_lit 119, nat_lit 120, nat_lit 121, nat_lit 123, nat_lit 124, nat_lit 126, nat_lit 127, nat_lit 128, nat_lit 130, nat_lit 131, nat_lit 133, nat_lit 134, nat_lit 135, nat_lit 136, nat_lit 137, nat_lit 138, nat_lit 139, nat_lit 142, nat_lit 144, nat_lit 145, nat_lit 147, nat_lit 148, nat_lit 149, nat_lit 152, nat_lit 153, nat_lit 154, nat_lit 157, nat_lit 158, nat_lit 159, nat_lit 161, nat_lit 162, nat_lit 164, nat_lit 165, nat_lit 166, nat_lit 169, nat_lit 170, nat_lit 171, nat_lit 174, nat_lit 175, nat_lit 176, nat_lit 179, nat_lit 180, nat_lit 181, nat_lit 184, nat_lit 185, nat_lit 186, nat_lit 188, nat_lit 189, nat_lit 191, nat_lit 192]
/-- the whole heap behind the top -/
noncomputable def hd.fin : Params → Heap :=
  (fun {a0 : Arguments} {b0 : List Stmt} {s0 : Scope} {a1 : Arguments} {b1 : List Stmt} {s1 : Scope} {a2 : Arguments} {b2 : List Stmt} {s2 : Scope} {a3 : Arguments} {b3 : List Stmt} {s3 : Scope} {a4 : Arguments} {b4 : List Stmt} {s4 : Scope} {a5 : Arguments} {b5 : List Stmt} {s5 : Scope} {a6 : Arguments} {b6 : List Stmt} {s6 : Scope} {a7 : Arguments} {b7 : List Stmt} {s7 : Scope} {a8 : Arguments} {b8 : List Stmt} {s8 : Scope} {a9 : Arguments} {b9 : List Stmt} {s9 : Scope} {a10 : Arguments} {b10 : List Stmt} {s10 : Scope} {a11 : Arguments} {b11 : List Stmt} {s11 : Scope} {a12 : Arguments} {b12 : List Stmt} {s12 : Scope} {a13 : Arguments} {b13 : List Stmt} {s13 : Scope} {a14 : Arguments} {b14 : List Stmt} {s14 : Scope} {a15 : Arguments} {b15 : List Stmt} {s15 : Scope} {a16 : Arguments} {b16 : List Stmt} {s16 : Scope} {a17 : Arguments} {b17 : List Stmt} {s17 : Scope} {a18 : Arguments} {b18 : List Stmt} {s18 : Scope} {a19 : Arguments} {b19 : List Stmt} {s19 : Scope} {a20 : Arguments} {b20 : List Stmt} {s20 : Scope}
    (_ : IsDef (at1 0) a0 b0 s0)
    (_ : IsDef (at2 4 1) a1 b1 s1)
    (_ : IsDef (at2 6 0) a2 b2 s2)
    (_ : IsDef (at2 6 1) a3 b3 s3)
    (_ : IsDef (at2 6 2) a4 b4 s4)
    (_ : IsDef (at2 6 3) a5 b5 s5)
    (_ : IsDef (at2 6 4) a6 b6 s6)
    (_ : IsDef (at2 6 5) a7 b7 s7)
    (_ : IsDef (at2 6 6) a8 b8 s8)
    (_ : IsDef (at2 6 7) a9 b9 s9)
    (_ : IsDef (at2 6 8) a10 b10 s10)
    (_ : IsDef (at2 6 9) a11 b11 s11)
    (_ : IsDef (at1 8) a12 b12 s12)
    (_ : IsDef (at1 10) a13 b13 s13)
    (_ : IsDef (at1 11) a14 b14 s14)
    (_ : IsDef (at1 12) a15 b15 s15)
    (_ : IsDef (at1 13) a16 b16 s16)
    (_ : IsDef (at1 14) a17 b17 s17)
    (_ : IsDef (at1 15) a18 b18 s18)
    (_ : IsDef (at1 16) a19 b19 s19)
    (_ : IsDef (at1 17) a20 b20 s20)
    => fun P => (fun {lv : Value} (_ : IsVal (valAt (boot_o_3 P) 3) lv) => Heap.mk (Array.mk [
      boot_o_0 P,
      boot_o_1 P,
      boot_o_2 P,
      { cls := Value.type "dict", data := Data.dict #[{ hash := PyData.keyHash P (Str.ofString "__name__"), key := Value.str (Str.ofString "__name__") 165, val := Value.str (Str.ofString "law_oc0184_01") 392 }, { hash := PyData.keyHash P (Str.ofString "__doc__"), key := Value.str (Str.ofString "__doc__") 166, val := Value.none }, { hash := PyData.keyHash P (Str.ofString "__package__"), key := Value.str (Str.ofString "__package__") 167, val := Value.none }, { hash := PyData.keyHash P (Str.ofString "__loader__"), key := Value.str (Str.ofString "__loader__") 168, val := lv }, { hash := PyData.keyHash P (Str.ofString "__spec__"), key := Value.str (Str.ofString "__spec__") 169, val := Value.none }, { hash := PyData.keyHash P (Str.ofString "__annotations__"), key := Value.str (Str.ofString "__annotations__") 170, val := Value.ref 6 }, { hash := PyData.keyHash P (Str.ofString "__builtins__"), key := Value.str (Str.ofString "__builtins__") 171, val := Value.ref 4 }, { hash := PyData.keyHash P (Str.ofString "__file__"), key := Value.str (Str.ofString "__file__") 173, val := Value.str (Str.ofString "/claim/cut.py") 172 }, { hash := PyData.keyHash P (Str.ofString "__cached__"), key := Value.str (Str.ofString "__cached__") 174, val := Value.none }, { hash := PyData.keyHash P (Str.ofString "_wall"), key := Value.str (Str.ofString "_wall") 193, val := Value.ref 21 }, { hash := PyData.keyHash P (Str.ofString "_NODE_OUT"), key := Value.str (Str.ofString "_NODE_OUT") 198, val := Value.int (-1) 197 }, { hash := PyData.keyHash P (Str.ofString "_NODE_DONE"), key := Value.str (Str.ofString "_NODE_DONE") 201, val := Value.int (-2) 200 }, { hash := PyData.keyHash P (Str.ofString "_NodeInfo"), key := Value.str (Str.ofString "_NodeInfo") 238, val := Value.ref 40 }, { hash := PyData.keyHash P (Str.ofString "CycleError"), key := Value.str (Str.ofString "CycleError") 256, val := Value.ref 55 }, { hash := PyData.keyHash P (Str.ofString "TopologicalSorter"), key := Value.str (Str.ofString "TopologicalSorter") 375, val := Value.ref 137 }, { hash := PyData.keyHash P (Str.ofString "sorted_list_difference"), key := Value.str (Str.ofString "sorted_list_difference") 391, val := Value.ref 148 }, { hash := PyData.keyHash P (Str.ofString "_law_arcs"), key := Value.str (Str.ofString "_law_arcs") 399, val := Value.ref 153 }, { hash := PyData.keyHash P (Str.ofString "_law_waiting"), key := Value.str (Str.ofString "_law_waiting") 405, val := Value.ref 158 }, { hash := PyData.keyHash P (Str.ofString "_law_sets"), key := Value.str (Str.ofString "_law_sets") 417, val := Value.ref 165 }, { hash := PyData.keyHash P (Str.ofString "_law_closed"), key := Value.str (Str.ofString "_law_closed") 423, val := Value.ref 170 }, { hash := PyData.keyHash P (Str.ofString "_law_cuts"), key := Value.str (Str.ofString "_law_cuts") 429, val := Value.ref 175 }, { hash := PyData.keyHash P (Str.ofString "_law_fewest"), key := Value.str (Str.ofString "_law_fewest") 435, val := Value.ref 180 }, { hash := PyData.keyHash P (Str.ofString "_law_most"), key := Value.str (Str.ofString "_law_most") 441, val := Value.ref 185 }, { hash := PyData.keyHash P (Str.ofString "law"), key := Value.str (Str.ofString "law") 451, val := Value.ref 192 }] 24 },
      boot_o_4 P,
      boot_o_5 P,
      boot_o_6 P,
      boot_o_7 P,
      boot_o_8 P,
      boot_o_9 P,
      boot_o_10 P,
      { cls := Value.type "tuple", data := Data.seq #[] },
      { cls := Value.none, data := Data.fields #[Value.int 1 0, Value.int 0 0, Value.ref 20, Value.int 7 0, Value.int 0 0, Value.ref 27, Value.int 14 0, Value.int 0 0, Value.ref 51, Value.int 16 0, Value.int 0 0, Value.ref 64, Value.int 123 0, Value.int 0 0, Value.ref 147, Value.int 156 0, Value.int 0 0, Value.ref 152, Value.int 162 0, Value.int 0 0, Value.ref 157, Value.int 172 0, Value.int 0 0, Value.ref 164, Value.int 184 0, Value.int 0 0, Value.ref 169, Value.int 191 0, Value.int 0 0, Value.ref 174, Value.int 198 0, Value.int 0 0, Value.ref 179, Value.int 205 0, Value.int 0 0, Value.ref 184, Value.int 210 0, Value.int 0 0, Value.ref 191] },
      { cls := Value.type "code", data := Data.fields #[Value.str (Str.ofString "<module>") 182, Value.str (Str.ofString "<module>") 183, Value.str (Str.ofString "/claim/cut.py") 184, Value.int 1 0, Value.int 0 0, Value.int 0 0, Value.int 0 0, Value.int 0 0, Value.ref 11, Value.bool false, Value.int 181 0, Value.ref 12, Value.none, Value.none, Value.none, Value.none, Value.int 185 0, Value.int 1 0, Value.str (Str.ofString "/claim/cut.py") 186] },
      { cls := Value.type "frame", slots := #[some (Value.ref 13), some (Value.ref 3), some (Value.ref 3), none, some (Value.str (Str.ofString "__main__") 164), none, some (Value.ref 0)] },
      { cls := Value.type "tuple", data := Data.seq #[] },
      { cls := Value.none, data := Data.fields #[] },
      { cls := Value.type "tuple", data := Data.seq #[Value.str (Str.ofString "k") 190] },
      { cls := Value.type "tuple", data := Data.seq #[] },
      { cls := Value.none, data := Data.func { name := Str.ofString "_wall", qualname := Str.ofString "_wall", params := a0, body := FuncBody.stmts b0, scope := s0, globals := 0, closure := [], defaults := Value.none, kwdefaults := Value.none } },
      { cls := Value.type "code", data := Data.fields #[Value.str (Str.ofString "_wall") 187, Value.str (Str.ofString "_wall") 188, Value.str (Str.ofString "/claim/cut.py") 189, Value.int 1 0, Value.int 1 0, Value.int 0 0, Value.int 0 0, Value.int 3 0, Value.ref 15, Value.bool true, Value.int 181 0, Value.ref 16, Value.none, Value.ref 17, Value.ref 18, Value.ref 19, Value.int 191 0, Value.int 1 0, Value.str (Str.ofString "/claim/cut.py") 192] },
      { cls := Value.type "function", data := Data.func { name := Str.ofString "_wall", qualname := Str.ofString "_wall", params := a0, body := FuncBody.stmts b0, scope := s0, globals := 3, closure := [], defaults := Value.none, kwdefaults := Value.none, pyModule := Value.str (Str.ofString "__main__") 164, code := Value.ref 20 } },
      { cls := Value.type "tuple", data := Data.seq #[] },
      { cls := Value.type "builtin_function_or_method", data := Data.fields #[Value.builtin "type.__prepare__", Value.type "type"] },
      { cls := Value.type "dict", data := Data.dict #[{ hash := PyData.keyHash P (Str.ofString "__module__"), key := Value.str (Str.ofString "__module__") 209, val := Value.str (Str.ofString "cpy313.graphlib") 194 }, { hash := PyData.keyHash P (Str.ofString "__qualname__"), key := Value.str (Str.ofString "__qualname__") 211, val := Value.str (Str.ofString "_NodeInfo") 210 }, { hash := PyData.keyHash P (Str.ofString "__firstlineno__"), key := Value.str (Str.ofString "__firstlineno__") 213, val := Value.int 7 212 }, { hash := PyData.keyHash P (Str.ofString "__slots__"), key := Value.str (Str.ofString "__slots__") 217, val := Value.ref 29 }, { hash := PyData.keyHash P (Str.ofString "__init__"), key := Value.str (Str.ofString "__init__") 225, val := Value.ref 36 }, { hash := PyData.keyHash P (Str.ofString "__static_attributes__"), key := Value.str (Str.ofString "__static_attributes__") 229, val := Value.ref 37 }] 6 },
      { cls := Value.type "tuple", data := Data.seq #[] },
      { cls := Value.none, data := Data.fields #[Value.int 10 0, Value.int 4 0, Value.ref 35] },
      { cls := Value.type "code", data := Data.fields #[Value.str (Str.ofString "_NodeInfo") 204, Value.str (Str.ofString "_NodeInfo") 205, Value.str (Str.ofString "/claim/cut.py") 206, Value.int 7 0, Value.int 0 0, Value.int 0 0, Value.int 0 0, Value.int 0 0, Value.ref 25, Value.bool false, Value.int 181 0, Value.ref 26, Value.none, Value.none, Value.none, Value.none, Value.int 207 0, Value.int 7 0, Value.str (Str.ofString "/claim/cut.py") 208] },
      { cls := Value.type "frame", slots := #[some (Value.ref 27), some (Value.ref 3), some (Value.ref 24), none, some (Value.str (Str.ofString "cpy313.graphlib") 194), none, some (Value.ref 0)] },
      { cls := Value.type "tuple", data := Data.seq #[Value.str (Str.ofString "node") 214, Value.str (Str.ofString "npredecessors") 215, Value.str (Str.ofString "successors") 216] },
      { cls := Value.type "tuple", data := Data.seq #[] },
      { cls := Value.none, data := Data.fields #[] },
      { cls := Value.type "tuple", data := Data.seq #[Value.str (Str.ofString "self") 221, Value.str (Str.ofString "node") 222] },
      { cls := Value.type "tuple", data := Data.seq #[] },
      { cls := Value.none, data := Data.func { name := Str.ofString "__init__", qualname := Str.ofString "_NodeInfo.__init__", params := a1, body := FuncBody.stmts b1, scope := s1, globals := 0, closure := [], defaults := Value.none, kwdefaults := Value.none } },
      { cls := Value.type "code", data := Data.fields #[Value.str (Str.ofString "__init__") 218, Value.str (Str.ofString "_NodeInfo.__init__") 219, Value.str (Str.ofString "/claim/cut.py") 220, Value.int 10 0, Value.int 2 0, Value.int 0 0, Value.int 0 0, Value.int 3 0, Value.ref 30, Value.bool true, Value.int 181 0, Value.ref 31, Value.none, Value.ref 32, Value.ref 33, Value.ref 34, Value.int 223 0, Value.int 10 0, Value.str (Str.ofString "/claim/cut.py") 224] },
      { cls := Value.type "function", data := Data.func { name := Str.ofString "__init__", qualname := Str.ofString "_NodeInfo.__init__", params := a1, body := FuncBody.stmts b1, scope := s1, globals := 3, closure := [], defaults := Value.none, kwdefaults := Value.none, pyModule := Value.str (Str.ofString "cpy313.graphlib") 194, code := Value.ref 35 } },
      { cls := Value.type "tuple", data := Data.seq #[Value.str (Str.ofString "node") 226, Value.str (Str.ofString "npredecessors") 227, Value.str (Str.ofString "successors") 228] },
      { cls := Value.type "list", data := Data.seq #[Value.str (Str.ofString "node") 214, Value.str (Str.ofString "npredecessors") 215, Value.str (Str.ofString "successors") 216] 1 },
      { cls := Value.type "dict", data := Data.dict #[{ hash := PyData.keyHash P (Str.ofString "__module__"), key := Value.str (Str.ofString "__module__") 209, val := Value.str (Str.ofString "cpy313.graphlib") 194 }, { hash := PyData.keyHash P (Str.ofString "__firstlineno__"), key := Value.str (Str.ofString "__firstlineno__") 213, val := Value.int 7 212 }, { hash := PyData.keyHash P (Str.ofString "__slots__"), key := Value.str (Str.ofString "__slots__") 217, val := Value.ref 29 }, { hash := PyData.keyHash P (Str.ofString "__init__"), key := Value.str (Str.ofString "__init__") 225, val := Value.ref 36 }, { hash := PyData.keyHash P (Str.ofString "__static_attributes__"), key := Value.str (Str.ofString "__static_attributes__") 229, val := Value.ref 37 }, { hash := PyData.keyHash P (Str.ofString "node"), key := Value.str (Str.ofString "node") 231, val := Value.ref 41 }, { hash := PyData.keyHash P (Str.ofString "npredecessors"), key := Value.str (Str.ofString "npredecessors") 233, val := Value.ref 42 }, { hash := PyData.keyHash P (Str.ofString "successors"), key := Value.str (Str.ofString "successors") 235, val := Value.ref 43 }, { hash := PyData.keyHash P (Str.ofString "__doc__"), key := Value.str (Str.ofString "__doc__") 236, val := Value.none }] 5 },
      { cls := Value.type "type", data := Data.cls { name := Str.ofString "_NodeInfo", bases := [Value.type "object"], mro := [Value.ref 40, Value.type "object"], ns := 39, qualname := Str.ofString "_NodeInfo", hasDict := false, slotNames := [Str.ofString "node", Str.ofString "npredecessors", Str.ofString "successors"] }, slots := #[none, none, some (Value.str (Str.ofString "_NodeInfo") 202), some (Value.str (Str.ofString "_NodeInfo") 210), some (Value.builtin "object.__new__"), some (Value.bool false)] },
      { cls := Value.type "member_descriptor", data := Data.fields #[Value.str (Str.ofString "node") 230, Value.ref 40, Value.builtin "proto.slot", Value.builtin "proto.slot#set", Value.int 2 0] },
      { cls := Value.type "member_descriptor", data := Data.fields #[Value.str (Str.ofString "npredecessors") 232, Value.ref 40, Value.builtin "proto.slot", Value.builtin "proto.slot#set", Value.int 1 0] },
      { cls := Value.type "member_descriptor", data := Data.fields #[Value.str (Str.ofString "successors") 234, Value.ref 40, Value.builtin "proto.slot", Value.builtin "proto.slot#set", Value.int 0 0] },
      { cls := Value.type "super", data := Data.fields #[Value.ref 40, Value.ref 40, Value.ref 40] },
      { cls := Value.type "builtin_function_or_method", data := Data.fields #[Value.builtin "object.__init_subclass__", Value.ref 40] },
      { cls := Value.type "tuple", data := Data.seq #[Value.type "ValueError"] },
      { cls := Value.type "builtin_function_or_method", data := Data.fields #[Value.builtin "type.__prepare__", Value.type "type"] },
      { cls := Value.type "dict", data := Data.dict #[{ hash := PyData.keyHash P (Str.ofString "__module__"), key := Value.str (Str.ofString "__module__") 246, val := Value.str (Str.ofString "cpy313.graphlib") 194 }, { hash := PyData.keyHash P (Str.ofString "__qualname__"), key := Value.str (Str.ofString "__qualname__") 248, val := Value.str (Str.ofString "CycleError") 247 }, { hash := PyData.keyHash P (Str.ofString "__firstlineno__"), key := Value.str (Str.ofString "__firstlineno__") 250, val := Value.int 14 249 }, { hash := PyData.keyHash P (Str.ofString "__static_attributes__"), key := Value.str (Str.ofString "__static_attributes__") 251, val := Value.ref 53 }] 4 },
      { cls := Value.type "tuple", data := Data.seq #[] },
      { cls := Value.none, data := Data.fields #[] },
      { cls := Value.type "code", data := Data.fields #[Value.str (Str.ofString "CycleError") 241, Value.str (Str.ofString "CycleError") 242, Value.str (Str.ofString "/claim/cut.py") 243, Value.int 14 0, Value.int 0 0, Value.int 0 0, Value.int 0 0, Value.int 0 0, Value.ref 49, Value.bool false, Value.int 181 0, Value.ref 50, Value.none, Value.none, Value.none, Value.none, Value.int 244 0, Value.int 14 0, Value.str (Str.ofString "/claim/cut.py") 245] },
      { cls := Value.type "frame", slots := #[some (Value.ref 51), some (Value.ref 3), some (Value.ref 48), none, some (Value.str (Str.ofString "cpy313.graphlib") 194), none, some (Value.ref 0)] },
      { cls := Value.type "tuple", data := Data.seq #[] },
      { cls := Value.type "dict", data := Data.dict #[{ hash := PyData.keyHash P (Str.ofString "__module__"), key := Value.str (Str.ofString "__module__") 246, val := Value.str (Str.ofString "cpy313.graphlib") 194 }, { hash := PyData.keyHash P (Str.ofString "__firstlineno__"), key := Value.str (Str.ofString "__firstlineno__") 250, val := Value.int 14 249 }, { hash := PyData.keyHash P (Str.ofString "__static_attributes__"), key := Value.str (Str.ofString "__static_attributes__") 251, val := Value.ref 53 }, { hash := PyData.keyHash P (Str.ofString "__weakref__"), key := Value.str (Str.ofString "__weakref__") 253, val := Value.ref 56 }, { hash := PyData.keyHash P (Str.ofString "__doc__"), key := Value.str (Str.ofString "__doc__") 254, val := Value.none }] 3 },
      { cls := Value.type "type", data := Data.cls { name := Str.ofString "CycleError", bases := [Value.type "ValueError"], mro := [Value.ref 55, Value.type "ValueError", Value.type "Exception", Value.type "BaseException", Value.type "object"], ns := 54, qualname := Str.ofString "CycleError" }, slots := #[some (Value.ref 46), none, some (Value.str (Str.ofString "CycleError") 239), some (Value.str (Str.ofString "CycleError") 247), some (Value.builtin "ValueError.__new__"), some (Value.bool true)] },
      { cls := Value.type "getset_descriptor", data := Data.fields #[Value.str (Str.ofString "__weakref__") 252, Value.ref 55, Value.builtin "ExceptionGroup.__weakref__", Value.none] },
      { cls := Value.type "super", data := Data.fields #[Value.ref 55, Value.ref 55, Value.ref 55] },
      { cls := Value.type "builtin_function_or_method", data := Data.fields #[Value.builtin "object.__init_subclass__", Value.ref 55] },
      { cls := Value.type "tuple", data := Data.seq #[] },
      { cls := Value.type "builtin_function_or_method", data := Data.fields #[Value.builtin "type.__prepare__", Value.type "type"] },
      { cls := Value.type "dict", data := Data.dict #[{ hash := PyData.keyHash P (Str.ofString "__module__"), key := Value.str (Str.ofString "__module__") 264, val := Value.str (Str.ofString "cpy313.graphlib") 194 }, { hash := PyData.keyHash P (Str.ofString "__qualname__"), key := Value.str (Str.ofString "__qualname__") 266, val := Value.str (Str.ofString "TopologicalSorter") 265 }, { hash := PyData.keyHash P (Str.ofString "__firstlineno__"), key := Value.str (Str.ofString "__firstlineno__") 268, val := Value.int 16 267 }, { hash := PyData.keyHash P (Str.ofString "__init__"), key := Value.str (Str.ofString "__init__") 278, val := Value.ref 73 }, { hash := PyData.keyHash P (Str.ofString "_get_nodeinfo"), key := Value.str (Str.ofString "_get_nodeinfo") 287, val := Value.ref 80 }, { hash := PyData.keyHash P (Str.ofString "add"), key := Value.str (Str.ofString "add") 299, val := Value.ref 87 }, { hash := PyData.keyHash P (Str.ofString "prepare"), key := Value.str (Str.ofString "prepare") 305, val := Value.ref 92 }, { hash := PyData.keyHash P (Str.ofString "get_ready"), key := Value.str (Str.ofString "get_ready") 315, val := Value.ref 99 }, { hash := PyData.keyHash P (Str.ofString "is_active"), key := Value.str (Str.ofString "is_active") 322, val := Value.ref 106 }, { hash := PyData.keyHash P (Str.ofString "__bool__"), key := Value.str (Str.ofString "__bool__") 329, val := Value.ref 113 }, { hash := PyData.keyHash P (Str.ofString "done"), key := Value.str (Str.ofString "done") 343, val := Value.ref 120 }, { hash := PyData.keyHash P (Str.ofString "_find_cycle"), key := Value.str (Str.ofString "_find_cycle") 356, val := Value.ref 127 }, { hash := PyData.keyHash P (Str.ofString "static_order"), key := Value.str (Str.ofString "static_order") 363, val := Value.ref 134 }, { hash := PyData.keyHash P (Str.ofString "__static_attributes__"), key := Value.str (Str.ofString "__static_attributes__") 368, val := Value.ref 135 }] 14 },
      { cls := Value.type "tuple", data := Data.seq #[] },
      { cls := Value.none, data := Data.fields #[Value.int 18 0, Value.int 4 0, Value.ref 72, Value.int 27 0, Value.int 4 0, Value.ref 79, Value.int 32 0, Value.int 4 0, Value.ref 86, Value.int 41 0, Value.int 4 0, Value.ref 91, Value.int 49 0, Value.int 4 0, Value.ref 98, Value.int 60 0, Value.int 4 0, Value.ref 105, Value.int 65 0, Value.int 4 0, Value.ref 112, Value.int 68 0, Value.int 4 0, Value.ref 119, Value.int 91 0, Value.int 4 0, Value.ref 126, Value.int 120 0, Value.int 4 0, Value.ref 133] },
      { cls := Value.type "code", data := Data.fields #[Value.str (Str.ofString "TopologicalSorter") 259, Value.str (Str.ofString "TopologicalSorter") 260, Value.str (Str.ofString "/claim/cut.py") 261, Value.int 16 0, Value.int 0 0, Value.int 0 0, Value.int 0 0, Value.int 0 0, Value.ref 62, Value.bool false, Value.int 181 0, Value.ref 63, Value.none, Value.none, Value.none, Value.none, Value.int 262 0, Value.int 16 0, Value.str (Str.ofString "/claim/cut.py") 263] },
      { cls := Value.type "frame", slots := #[some (Value.ref 64), some (Value.ref 3), some (Value.ref 61), none, some (Value.str (Str.ofString "cpy313.graphlib") 194), none, some (Value.ref 0)] },
      { cls := Value.type "tuple", data := Data.seq #[Value.none] },
      { cls := Value.type "tuple", data := Data.seq #[] },
      { cls := Value.none, data := Data.fields #[] },
      { cls := Value.type "tuple", data := Data.seq #[Value.str (Str.ofString "self") 272, Value.str (Str.ofString "graph") 273, Value.str (Str.ofString "node") 274, Value.str (Str.ofString "predecessors") 275] },
      { cls := Value.type "tuple", data := Data.seq #[] },
      { cls := Value.none, data := Data.func { name := Str.ofString "__init__", qualname := Str.ofString "TopologicalSorter.__init__", params := a2, body := FuncBody.stmts b2, scope := s2, globals := 0, closure := [], defaults := Value.none, kwdefaults := Value.none } },
      { cls := Value.type "code", data := Data.fields #[Value.str (Str.ofString "__init__") 269, Value.str (Str.ofString "TopologicalSorter.__init__") 270, Value.str (Str.ofString "/claim/cut.py") 271, Value.int 18 0, Value.int 2 0, Value.int 0 0, Value.int 0 0, Value.int 3 0, Value.ref 67, Value.bool true, Value.int 181 0, Value.ref 68, Value.none, Value.ref 69, Value.ref 70, Value.ref 71, Value.int 276 0, Value.int 18 0, Value.str (Str.ofString "/claim/cut.py") 277] },
      { cls := Value.type "function", data := Data.func { name := Str.ofString "__init__", qualname := Str.ofString "TopologicalSorter.__init__", params := a2, body := FuncBody.stmts b2, scope := s2, globals := 3, closure := [], defaults := Value.ref 66, kwdefaults := Value.none, pyModule := Value.str (Str.ofString "cpy313.graphlib") 194, code := Value.ref 72 } },
      { cls := Value.type "tuple", data := Data.seq #[] },
      { cls := Value.none, data := Data.fields #[] },
      { cls := Value.type "tuple", data := Data.seq #[Value.str (Str.ofString "self") 282, Value.str (Str.ofString "node") 283, Value.str (Str.ofString "result") 284] },
      { cls := Value.type "tuple", data := Data.seq #[] },
      { cls := Value.none, data := Data.func { name := Str.ofString "_get_nodeinfo", qualname := Str.ofString "TopologicalSorter._get_nodeinfo", params := a3, body := FuncBody.stmts b3, scope := s3, globals := 0, closure := [], defaults := Value.none, kwdefaults := Value.none } },
      { cls := Value.type "code", data := Data.fields #[Value.str (Str.ofString "_get_nodeinfo") 279, Value.str (Str.ofString "TopologicalSorter._get_nodeinfo") 280, Value.str (Str.ofString "/claim/cut.py") 281, Value.int 27 0, Value.int 2 0, Value.int 0 0, Value.int 0 0, Value.int 3 0, Value.ref 74, Value.bool true, Value.int 181 0, Value.ref 75, Value.none, Value.ref 76, Value.ref 77, Value.ref 78, Value.int 285 0, Value.int 27 0, Value.str (Str.ofString "/claim/cut.py") 286] },
      { cls := Value.type "function", data := Data.func { name := Str.ofString "_get_nodeinfo", qualname := Str.ofString "TopologicalSorter._get_nodeinfo", params := a3, body := FuncBody.stmts b3, scope := s3, globals := 3, closure := [], defaults := Value.none, kwdefaults := Value.none, pyModule := Value.str (Str.ofString "cpy313.graphlib") 194, code := Value.ref 79 } },
      { cls := Value.type "tuple", data := Data.seq #[] },
      { cls := Value.none, data := Data.fields #[] },
      { cls := Value.type "tuple", data := Data.seq #[Value.str (Str.ofString "self") 291, Value.str (Str.ofString "node") 292, Value.str (Str.ofString "predecessors") 293, Value.str (Str.ofString "nodeinfo") 294, Value.str (Str.ofString "pred") 295, Value.str (Str.ofString "pred_info") 296] },
      { cls := Value.type "tuple", data := Data.seq #[] },
      { cls := Value.none, data := Data.func { name := Str.ofString "add", qualname := Str.ofString "TopologicalSorter.add", params := a4, body := FuncBody.stmts b4, scope := s4, globals := 0, closure := [], defaults := Value.none, kwdefaults := Value.none } },
      { cls := Value.type "code", data := Data.fields #[Value.str (Str.ofString "add") 288, Value.str (Str.ofString "TopologicalSorter.add") 289, Value.str (Str.ofString "/claim/cut.py") 290, Value.int 32 0, Value.int 2 0, Value.int 0 0, Value.int 0 0, Value.int 7 0, Value.ref 81, Value.bool true, Value.int 181 0, Value.ref 82, Value.none, Value.ref 83, Value.ref 84, Value.ref 85, Value.int 297 0, Value.int 32 0, Value.str (Str.ofString "/claim/cut.py") 298] },
      { cls := Value.type "function", data := Data.func { name := Str.ofString "add", qualname := Str.ofString "TopologicalSorter.add", params := a4, body := FuncBody.stmts b4, scope := s4, globals := 3, closure := [], defaults := Value.none, kwdefaults := Value.none, pyModule := Value.str (Str.ofString "cpy313.graphlib") 194, code := Value.ref 86 } },
      { cls := Value.type "tuple", data := Data.seq #[] },
      { cls := Value.none, data := Data.fields #[] },
      { cls := Value.none, data := Data.func { name := Str.ofString "prepare", qualname := Str.ofString "TopologicalSorter.prepare", params := a5, body := FuncBody.stmts b5, scope := s5, globals := 0, closure := [], defaults := Value.none, kwdefaults := Value.none } },
      { cls := Value.type "code", data := Data.fields #[Value.str (Str.ofString "prepare") 300, Value.str (Str.ofString "TopologicalSorter.prepare") 301, Value.str (Str.ofString "/claim/cut.py") 302, Value.int 41 0, Value.int 1 0, Value.int 0 0, Value.int 0 0, Value.int 3 0, Value.ref 88, Value.bool true, Value.int 181 0, Value.ref 89, Value.none, Value.none, Value.none, Value.ref 90, Value.int 303 0, Value.int 41 0, Value.str (Str.ofString "/claim/cut.py") 304] },
      { cls := Value.type "function", data := Data.func { name := Str.ofString "prepare", qualname := Str.ofString "TopologicalSorter.prepare", params := a5, body := FuncBody.stmts b5, scope := s5, globals := 3, closure := [], defaults := Value.none, kwdefaults := Value.none, pyModule := Value.str (Str.ofString "cpy313.graphlib") 194, code := Value.ref 91 } },
      { cls := Value.type "tuple", data := Data.seq #[] },
      { cls := Value.none, data := Data.fields #[] },
      { cls := Value.type "tuple", data := Data.seq #[Value.str (Str.ofString "self") 309, Value.str (Str.ofString "result") 310, Value.str (Str.ofString "n2i") 311, Value.str (Str.ofString "node") 312] },
      { cls := Value.type "tuple", data := Data.seq #[] },
      { cls := Value.none, data := Data.func { name := Str.ofString "get_ready", qualname := Str.ofString "TopologicalSorter.get_ready", params := a6, body := FuncBody.stmts b6, scope := s6, globals := 0, closure := [], defaults := Value.none, kwdefaults := Value.none } },
      { cls := Value.type "code", data := Data.fields #[Value.str (Str.ofString "get_ready") 306, Value.str (Str.ofString "TopologicalSorter.get_ready") 307, Value.str (Str.ofString "/claim/cut.py") 308, Value.int 49 0, Value.int 1 0, Value.int 0 0, Value.int 0 0, Value.int 3 0, Value.ref 93, Value.bool true, Value.int 181 0, Value.ref 94, Value.none, Value.ref 95, Value.ref 96, Value.ref 97, Value.int 313 0, Value.int 49 0, Value.str (Str.ofString "/claim/cut.py") 314] },
      { cls := Value.type "function", data := Data.func { name := Str.ofString "get_ready", qualname := Str.ofString "TopologicalSorter.get_ready", params := a6, body := FuncBody.stmts b6, scope := s6, globals := 3, closure := [], defaults := Value.none, kwdefaults := Value.none, pyModule := Value.str (Str.ofString "cpy313.graphlib") 194, code := Value.ref 98 } },
      { cls := Value.type "tuple", data := Data.seq #[] },
      { cls := Value.none, data := Data.fields #[] },
      { cls := Value.type "tuple", data := Data.seq #[Value.str (Str.ofString "self") 319] },
      { cls := Value.type "tuple", data := Data.seq #[] },
      { cls := Value.none, data := Data.func { name := Str.ofString "is_active", qualname := Str.ofString "TopologicalSorter.is_active", params := a7, body := FuncBody.stmts b7, scope := s7, globals := 0, closure := [], defaults := Value.none, kwdefaults := Value.none } },
      { cls := Value.type "code", data := Data.fields #[Value.str (Str.ofString "is_active") 316, Value.str (Str.ofString "TopologicalSorter.is_active") 317, Value.str (Str.ofString "/claim/cut.py") 318, Value.int 60 0, Value.int 1 0, Value.int 0 0, Value.int 0 0, Value.int 3 0, Value.ref 100, Value.bool true, Value.int 181 0, Value.ref 101, Value.none, Value.ref 102, Value.ref 103, Value.ref 104, Value.int 320 0, Value.int 60 0, Value.str (Str.ofString "/claim/cut.py") 321] },
      { cls := Value.type "function", data := Data.func { name := Str.ofString "is_active", qualname := Str.ofString "TopologicalSorter.is_active", params := a7, body := FuncBody.stmts b7, scope := s7, globals := 3, closure := [], defaults := Value.none, kwdefaults := Value.none, pyModule := Value.str (Str.ofString "cpy313.graphlib") 194, code := Value.ref 105 } },
      { cls := Value.type "tuple", data := Data.seq #[] },
      { cls := Value.none, data := Data.fields #[] },
      { cls := Value.type "tuple", data := Data.seq #[Value.str (Str.ofString "self") 326] },
      { cls := Value.type "tuple", data := Data.seq #[] },
      { cls := Value.none, data := Data.func { name := Str.ofString "__bool__", qualname := Str.ofString "TopologicalSorter.__bool__", params := a8, body := FuncBody.stmts b8, scope := s8, globals := 0, closure := [], defaults := Value.none, kwdefaults := Value.none } },
      { cls := Value.type "code", data := Data.fields #[Value.str (Str.ofString "__bool__") 323, Value.str (Str.ofString "TopologicalSorter.__bool__") 324, Value.str (Str.ofString "/claim/cut.py") 325, Value.int 65 0, Value.int 1 0, Value.int 0 0, Value.int 0 0, Value.int 3 0, Value.ref 107, Value.bool true, Value.int 181 0, Value.ref 108, Value.none, Value.ref 109, Value.ref 110, Value.ref 111, Value.int 327 0, Value.int 65 0, Value.str (Str.ofString "/claim/cut.py") 328] },
      { cls := Value.type "function", data := Data.func { name := Str.ofString "__bool__", qualname := Str.ofString "TopologicalSorter.__bool__", params := a8, body := FuncBody.stmts b8, scope := s8, globals := 3, closure := [], defaults := Value.none, kwdefaults := Value.none, pyModule := Value.str (Str.ofString "cpy313.graphlib") 194, code := Value.ref 112 } },
      { cls := Value.type "tuple", data := Data.seq #[] },
      { cls := Value.none, data := Data.fields #[] },
      { cls := Value.type "tuple", data := Data.seq #[Value.str (Str.ofString "self") 333, Value.str (Str.ofString "nodes") 334, Value.str (Str.ofString "n2i") 335, Value.str (Str.ofString "node") 336, Value.str (Str.ofString "nodeinfo") 337, Value.str (Str.ofString "stat") 338, Value.str (Str.ofString "successor") 339, Value.str (Str.ofString "successor_info") 340] },
      { cls := Value.type "tuple", data := Data.seq #[] },
      { cls := Value.none, data := Data.func { name := Str.ofString "done", qualname := Str.ofString "TopologicalSorter.done", params := a9, body := FuncBody.stmts b9, scope := s9, globals := 0, closure := [], defaults := Value.none, kwdefaults := Value.none } },
      { cls := Value.type "code", data := Data.fields #[Value.str (Str.ofString "done") 330, Value.str (Str.ofString "TopologicalSorter.done") 331, Value.str (Str.ofString "/claim/cut.py") 332, Value.int 68 0, Value.int 1 0, Value.int 0 0, Value.int 0 0, Value.int 7 0, Value.ref 114, Value.bool true, Value.int 181 0, Value.ref 115, Value.none, Value.ref 116, Value.ref 117, Value.ref 118, Value.int 341 0, Value.int 68 0, Value.str (Str.ofString "/claim/cut.py") 342] },
      { cls := Value.type "function", data := Data.func { name := Str.ofString "done", qualname := Str.ofString "TopologicalSorter.done", params := a9, body := FuncBody.stmts b9, scope := s9, globals := 3, closure := [], defaults := Value.none, kwdefaults := Value.none, pyModule := Value.str (Str.ofString "cpy313.graphlib") 194, code := Value.ref 119 } },
      { cls := Value.type "tuple", data := Data.seq #[] },
      { cls := Value.none, data := Data.fields #[] },
      { cls := Value.type "tuple", data := Data.seq #[Value.str (Str.ofString "self") 347, Value.str (Str.ofString "n2i") 348, Value.str (Str.ofString "stack") 349, Value.str (Str.ofString "itstack") 350, Value.str (Str.ofString "seen") 351, Value.str (Str.ofString "node2stacki") 352, Value.str (Str.ofString "node") 353] },
      { cls := Value.type "tuple", data := Data.seq #[] },
      { cls := Value.none, data := Data.func { name := Str.ofString "_find_cycle", qualname := Str.ofString "TopologicalSorter._find_cycle", params := a10, body := FuncBody.stmts b10, scope := s10, globals := 0, closure := [], defaults := Value.none, kwdefaults := Value.none } },
      { cls := Value.type "code", data := Data.fields #[Value.str (Str.ofString "_find_cycle") 344, Value.str (Str.ofString "TopologicalSorter._find_cycle") 345, Value.str (Str.ofString "/claim/cut.py") 346, Value.int 91 0, Value.int 1 0, Value.int 0 0, Value.int 0 0, Value.int 3 0, Value.ref 121, Value.bool true, Value.int 181 0, Value.ref 122, Value.none, Value.ref 123, Value.ref 124, Value.ref 125, Value.int 354 0, Value.int 91 0, Value.str (Str.ofString "/claim/cut.py") 355] },
      { cls := Value.type "function", data := Data.func { name := Str.ofString "_find_cycle", qualname := Str.ofString "TopologicalSorter._find_cycle", params := a10, body := FuncBody.stmts b10, scope := s10, globals := 3, closure := [], defaults := Value.none, kwdefaults := Value.none, pyModule := Value.str (Str.ofString "cpy313.graphlib") 194, code := Value.ref 126 } },
      { cls := Value.type "tuple", data := Data.seq #[] },
      { cls := Value.none, data := Data.fields #[] },
      { cls := Value.type "tuple", data := Data.seq #[Value.str (Str.ofString "self") 360] },
      { cls := Value.type "tuple", data := Data.seq #[] },
      { cls := Value.none, data := Data.func { name := Str.ofString "static_order", qualname := Str.ofString "TopologicalSorter.static_order", params := a11, body := FuncBody.stmts b11, scope := s11, globals := 0, closure := [], defaults := Value.none, kwdefaults := Value.none } },
      { cls := Value.type "code", data := Data.fields #[Value.str (Str.ofString "static_order") 357, Value.str (Str.ofString "TopologicalSorter.static_order") 358, Value.str (Str.ofString "/claim/cut.py") 359, Value.int 120 0, Value.int 1 0, Value.int 0 0, Value.int 0 0, Value.int 3 0, Value.ref 128, Value.bool true, Value.int 181 0, Value.ref 129, Value.none, Value.ref 130, Value.ref 131, Value.ref 132, Value.int 361 0, Value.int 120 0, Value.str (Str.ofString "/claim/cut.py") 362] },
      { cls := Value.type "function", data := Data.func { name := Str.ofString "static_order", qualname := Str.ofString "TopologicalSorter.static_order", params := a11, body := FuncBody.stmts b11, scope := s11, globals := 3, closure := [], defaults := Value.none, kwdefaults := Value.none, pyModule := Value.str (Str.ofString "cpy313.graphlib") 194, code := Value.ref 133 } },
      { cls := Value.type "tuple", data := Data.seq #[Value.str (Str.ofString "_nfinished") 364, Value.str (Str.ofString "_node2info") 365, Value.str (Str.ofString "_npassedout") 366, Value.str (Str.ofString "_ready_nodes") 367] },
      { cls := Value.type "dict", data := Data.dict #[{ hash := PyData.keyHash P (Str.ofString "__module__"), key := Value.str (Str.ofString "__module__") 264, val := Value.str (Str.ofString "cpy313.graphlib") 194 }, { hash := PyData.keyHash P (Str.ofString "__firstlineno__"), key := Value.str (Str.ofString "__firstlineno__") 268, val := Value.int 16 267 }, { hash := PyData.keyHash P (Str.ofString "__init__"), key := Value.str (Str.ofString "__init__") 278, val := Value.ref 73 }, { hash := PyData.keyHash P (Str.ofString "_get_nodeinfo"), key := Value.str (Str.ofString "_get_nodeinfo") 287, val := Value.ref 80 }, { hash := PyData.keyHash P (Str.ofString "add"), key := Value.str (Str.ofString "add") 299, val := Value.ref 87 }, { hash := PyData.keyHash P (Str.ofString "prepare"), key := Value.str (Str.ofString "prepare") 305, val := Value.ref 92 }, { hash := PyData.keyHash P (Str.ofString "get_ready"), key := Value.str (Str.ofString "get_ready") 315, val := Value.ref 99 }, { hash := PyData.keyHash P (Str.ofString "is_active"), key := Value.str (Str.ofString "is_active") 322, val := Value.ref 106 }, { hash := PyData.keyHash P (Str.ofString "__bool__"), key := Value.str (Str.ofString "__bool__") 329, val := Value.ref 113 }, { hash := PyData.keyHash P (Str.ofString "done"), key := Value.str (Str.ofString "done") 343, val := Value.ref 120 }, { hash := PyData.keyHash P (Str.ofString "_find_cycle"), key := Value.str (Str.ofString "_find_cycle") 356, val := Value.ref 127 }, { hash := PyData.keyHash P (Str.ofString "static_order"), key := Value.str (Str.ofString "static_order") 363, val := Value.ref 134 }, { hash := PyData.keyHash P (Str.ofString "__static_attributes__"), key := Value.str (Str.ofString "__static_attributes__") 368, val := Value.ref 135 }, { hash := PyData.keyHash P (Str.ofString "__dict__"), key := Value.str (Str.ofString "__dict__") 370, val := Value.ref 138 }, { hash := PyData.keyHash P (Str.ofString "__weakref__"), key := Value.str (Str.ofString "__weakref__") 372, val := Value.ref 139 }, { hash := PyData.keyHash P (Str.ofString "__doc__"), key := Value.str (Str.ofString "__doc__") 373, val := Value.none }] 4 },
      { cls := Value.type "type", data := Data.cls { name := Str.ofString "TopologicalSorter", bases := [Value.type "object"], mro := [Value.ref 137, Value.type "object"], ns := 136, qualname := Str.ofString "TopologicalSorter" }, slots := #[none, none, some (Value.str (Str.ofString "TopologicalSorter") 257), some (Value.str (Str.ofString "TopologicalSorter") 265), some (Value.builtin "object.__new__"), some (Value.bool true)] },
      { cls := Value.type "getset_descriptor", data := Data.fields #[Value.str (Str.ofString "__dict__") 369, Value.ref 137, Value.builtin "function.__dict__", Value.builtin "function.__dict__#set"] },
      { cls := Value.type "getset_descriptor", data := Data.fields #[Value.str (Str.ofString "__weakref__") 371, Value.ref 137, Value.builtin "ExceptionGroup.__weakref__", Value.none] },
      { cls := Value.type "super", data := Data.fields #[Value.ref 137, Value.ref 137, Value.ref 137] },
      { cls := Value.type "builtin_function_or_method", data := Data.fields #[Value.builtin "object.__init_subclass__", Value.ref 137] },
      { cls := Value.type "tuple", data := Data.seq #[] },
      { cls := Value.none, data := Data.fields #[] },
      { cls := Value.type "tuple", data := Data.seq #[Value.str (Str.ofString "expected") 381, Value.str (Str.ofString "actual") 382, Value.str (Str.ofString "i") 383, Value.str (Str.ofString "j") 384, Value.str (Str.ofString "missing") 385, Value.str (Str.ofString "unexpected") 386, Value.str (Str.ofString "e") 387, Value.str (Str.ofString "a") 388] },
      { cls := Value.type "tuple", data := Data.seq #[] },
      { cls := Value.none, data := Data.func { name := Str.ofString "sorted_list_difference", qualname := Str.ofString "sorted_list_difference", params := a12, body := FuncBody.stmts b12, scope := s12, globals := 0, closure := [], defaults := Value.none, kwdefaults := Value.none } },
      { cls := Value.type "code", data := Data.fields #[Value.str (Str.ofString "sorted_list_difference") 378, Value.str (Str.ofString "sorted_list_difference") 379, Value.str (Str.ofString "/claim/cut.py") 380, Value.int 123 0, Value.int 2 0, Value.int 0 0, Value.int 0 0, Value.int 3 0, Value.ref 142, Value.bool true, Value.int 181 0, Value.ref 143, Value.none, Value.ref 144, Value.ref 145, Value.ref 146, Value.int 389 0, Value.int 123 0, Value.str (Str.ofString "/claim/cut.py") 390] },
      { cls := Value.type "function", data := Data.func { name := Str.ofString "sorted_list_difference", qualname := Str.ofString "sorted_list_difference", params := a12, body := FuncBody.stmts b12, scope := s12, globals := 3, closure := [], defaults := Value.none, kwdefaults := Value.none, pyModule := Value.str (Str.ofString "cpy313.unittest.util") 376, code := Value.ref 147 } },
      { cls := Value.type "tuple", data := Data.seq #[] },
      { cls := Value.none, data := Data.fields #[] },
      { cls := Value.none, data := Data.func { name := Str.ofString "_law_arcs", qualname := Str.ofString "_law_arcs", params := a13, body := FuncBody.stmts b13, scope := s13, globals := 0, closure := [], defaults := Value.none, kwdefaults := Value.none } },
      { cls := Value.type "code", data := Data.fields #[Value.str (Str.ofString "_law_arcs") 394, Value.str (Str.ofString "_law_arcs") 395, Value.str (Str.ofString "/claim/cut.py") 396, Value.int 156 0, Value.int 1 0, Value.int 0 0, Value.int 0 0, Value.int 3 0, Value.ref 149, Value.bool true, Value.int 181 0, Value.ref 150, Value.none, Value.none, Value.none, Value.ref 151, Value.int 397 0, Value.int 156 0, Value.str (Str.ofString "/claim/cut.py") 398] },
      { cls := Value.type "function", data := Data.func { name := Str.ofString "_law_arcs", qualname := Str.ofString "_law_arcs", params := a13, body := FuncBody.stmts b13, scope := s13, globals := 3, closure := [], defaults := Value.none, kwdefaults := Value.none, pyModule := Value.str (Str.ofString "law_oc0184_01") 392, code := Value.ref 152 } },
      { cls := Value.type "tuple", data := Data.seq #[] },
      { cls := Value.none, data := Data.fields #[] },
      { cls := Value.none, data := Data.func { name := Str.ofString "_law_waiting", qualname := Str.ofString "_law_waiting", params := a14, body := FuncBody.stmts b14, scope := s14, globals := 0, closure := [], defaults := Value.none, kwdefaults := Value.none } },
      { cls := Value.type "code", data := Data.fields #[Value.str (Str.ofString "_law_waiting") 400, Value.str (Str.ofString "_law_waiting") 401, Value.str (Str.ofString "/claim/cut.py") 402, Value.int 162 0, Value.int 2 0, Value.int 0 0, Value.int 0 0, Value.int 3 0, Value.ref 154, Value.bool true, Value.int 181 0, Value.ref 155, Value.none, Value.none, Value.none, Value.ref 156, Value.int 403 0, Value.int 162 0, Value.str (Str.ofString "/claim/cut.py") 404] },
      { cls := Value.type "function", data := Data.func { name := Str.ofString "_law_waiting", qualname := Str.ofString "_law_waiting", params := a14, body := FuncBody.stmts b14, scope := s14, globals := 3, closure := [], defaults := Value.none, kwdefaults := Value.none, pyModule := Value.str (Str.ofString "law_oc0184_01") 392, code := Value.ref 157 } },
      { cls := Value.type "tuple", data := Data.seq #[] },
      { cls := Value.none, data := Data.fields #[] },
      { cls := Value.type "tuple", data := Data.seq #[Value.str (Str.ofString "arcs") 409, Value.str (Str.ofString "orders") 410, Value.str (Str.ofString "sets") 411, Value.str (Str.ofString "seen") 412, Value.str (Str.ofString "order") 413, Value.str (Str.ofString "thing") 414] },
      { cls := Value.type "tuple", data := Data.seq #[] },
      { cls := Value.none, data := Data.func { name := Str.ofString "_law_sets", qualname := Str.ofString "_law_sets", params := a15, body := FuncBody.stmts b15, scope := s15, globals := 0, closure := [], defaults := Value.none, kwdefaults := Value.none } },
      { cls := Value.type "code", data := Data.fields #[Value.str (Str.ofString "_law_sets") 406, Value.str (Str.ofString "_law_sets") 407, Value.str (Str.ofString "/claim/cut.py") 408, Value.int 172 0, Value.int 1 0, Value.int 0 0, Value.int 0 0, Value.int 3 0, Value.ref 159, Value.bool true, Value.int 181 0, Value.ref 160, Value.none, Value.ref 161, Value.ref 162, Value.ref 163, Value.int 415 0, Value.int 172 0, Value.str (Str.ofString "/claim/cut.py") 416] },
      { cls := Value.type "function", data := Data.func { name := Str.ofString "_law_sets", qualname := Str.ofString "_law_sets", params := a15, body := FuncBody.stmts b15, scope := s15, globals := 3, closure := [], defaults := Value.none, kwdefaults := Value.none, pyModule := Value.str (Str.ofString "law_oc0184_01") 392, code := Value.ref 164 } },
      { cls := Value.type "tuple", data := Data.seq #[] },
      { cls := Value.none, data := Data.fields #[] },
      { cls := Value.none, data := Data.func { name := Str.ofString "_law_closed", qualname := Str.ofString "_law_closed", params := a16, body := FuncBody.stmts b16, scope := s16, globals := 0, closure := [], defaults := Value.none, kwdefaults := Value.none } },
      { cls := Value.type "code", data := Data.fields #[Value.str (Str.ofString "_law_closed") 418, Value.str (Str.ofString "_law_closed") 419, Value.str (Str.ofString "/claim/cut.py") 420, Value.int 184 0, Value.int 1 0, Value.int 0 0, Value.int 0 0, Value.int 3 0, Value.ref 166, Value.bool true, Value.int 181 0, Value.ref 167, Value.none, Value.none, Value.none, Value.ref 168, Value.int 421 0, Value.int 184 0, Value.str (Str.ofString "/claim/cut.py") 422] },
      { cls := Value.type "function", data := Data.func { name := Str.ofString "_law_closed", qualname := Str.ofString "_law_closed", params := a16, body := FuncBody.stmts b16, scope := s16, globals := 3, closure := [], defaults := Value.none, kwdefaults := Value.none, pyModule := Value.str (Str.ofString "law_oc0184_01") 392, code := Value.ref 169 } },
      { cls := Value.type "tuple", data := Data.seq #[] },
      { cls := Value.none, data := Data.fields #[] },
      { cls := Value.none, data := Data.func { name := Str.ofString "_law_cuts", qualname := Str.ofString "_law_cuts", params := a17, body := FuncBody.stmts b17, scope := s17, globals := 0, closure := [], defaults := Value.none, kwdefaults := Value.none } },
      { cls := Value.type "code", data := Data.fields #[Value.str (Str.ofString "_law_cuts") 424, Value.str (Str.ofString "_law_cuts") 425, Value.str (Str.ofString "/claim/cut.py") 426, Value.int 191 0, Value.int 2 0, Value.int 0 0, Value.int 0 0, Value.int 3 0, Value.ref 171, Value.bool true, Value.int 181 0, Value.ref 172, Value.none, Value.none, Value.none, Value.ref 173, Value.int 427 0, Value.int 191 0, Value.str (Str.ofString "/claim/cut.py") 428] },
      { cls := Value.type "function", data := Data.func { name := Str.ofString "_law_cuts", qualname := Str.ofString "_law_cuts", params := a17, body := FuncBody.stmts b17, scope := s17, globals := 3, closure := [], defaults := Value.none, kwdefaults := Value.none, pyModule := Value.str (Str.ofString "law_oc0184_01") 392, code := Value.ref 174 } },
      { cls := Value.type "tuple", data := Data.seq #[] },
      { cls := Value.none, data := Data.fields #[] },
      { cls := Value.none, data := Data.func { name := Str.ofString "_law_fewest", qualname := Str.ofString "_law_fewest", params := a18, body := FuncBody.stmts b18, scope := s18, globals := 0, closure := [], defaults := Value.none, kwdefaults := Value.none } },
      { cls := Value.type "code", data := Data.fields #[Value.str (Str.ofString "_law_fewest") 430, Value.str (Str.ofString "_law_fewest") 431, Value.str (Str.ofString "/claim/cut.py") 432, Value.int 198 0, Value.int 2 0, Value.int 0 0, Value.int 0 0, Value.int 3 0, Value.ref 176, Value.bool true, Value.int 181 0, Value.ref 177, Value.none, Value.none, Value.none, Value.ref 178, Value.int 433 0, Value.int 198 0, Value.str (Str.ofString "/claim/cut.py") 434] },
      { cls := Value.type "function", data := Data.func { name := Str.ofString "_law_fewest", qualname := Str.ofString "_law_fewest", params := a18, body := FuncBody.stmts b18, scope := s18, globals := 3, closure := [], defaults := Value.none, kwdefaults := Value.none, pyModule := Value.str (Str.ofString "law_oc0184_01") 392, code := Value.ref 179 } },
      { cls := Value.type "tuple", data := Data.seq #[] },
      { cls := Value.none, data := Data.fields #[] },
      { cls := Value.none, data := Data.func { name := Str.ofString "_law_most", qualname := Str.ofString "_law_most", params := a19, body := FuncBody.stmts b19, scope := s19, globals := 0, closure := [], defaults := Value.none, kwdefaults := Value.none } },
      { cls := Value.type "code", data := Data.fields #[Value.str (Str.ofString "_law_most") 436, Value.str (Str.ofString "_law_most") 437, Value.str (Str.ofString "/claim/cut.py") 438, Value.int 205 0, Value.int 1 0, Value.int 0 0, Value.int 0 0, Value.int 3 0, Value.ref 181, Value.bool true, Value.int 181 0, Value.ref 182, Value.none, Value.none, Value.none, Value.ref 183, Value.int 439 0, Value.int 205 0, Value.str (Str.ofString "/claim/cut.py") 440] },
      { cls := Value.type "function", data := Data.func { name := Str.ofString "_law_most", qualname := Str.ofString "_law_most", params := a19, body := FuncBody.stmts b19, scope := s19, globals := 3, closure := [], defaults := Value.none, kwdefaults := Value.none, pyModule := Value.str (Str.ofString "law_oc0184_01") 392, code := Value.ref 184 } },
      { cls := Value.type "tuple", data := Data.seq #[] },
      { cls := Value.none, data := Data.fields #[] },
      { cls := Value.type "tuple", data := Data.seq #[Value.str (Str.ofString "script") 445, Value.str (Str.ofString "arcs") 446, Value.str (Str.ofString "sets") 447, Value.str (Str.ofString "cuts") 448] },
      { cls := Value.type "tuple", data := Data.seq #[] },
      { cls := Value.none, data := Data.func { name := Str.ofString "law", qualname := Str.ofString "law", params := a20, body := FuncBody.stmts b20, scope := s20, globals := 0, closure := [], defaults := Value.none, kwdefaults := Value.none } },
      { cls := Value.type "code", data := Data.fields #[Value.str (Str.ofString "law") 442, Value.str (Str.ofString "law") 443, Value.str (Str.ofString "/claim/cut.py") 444, Value.int 210 0, Value.int 1 0, Value.int 0 0, Value.int 0 0, Value.int 3 0, Value.ref 186, Value.bool true, Value.int 181 0, Value.ref 187, Value.none, Value.ref 188, Value.ref 189, Value.ref 190, Value.int 449 0, Value.int 210 0, Value.str (Str.ofString "/claim/cut.py") 450] },
      { cls := Value.type "function", data := Data.func { name := Str.ofString "law", qualname := Str.ofString "law", params := a20, body := FuncBody.stmts b20, scope := s20, globals := 3, closure := [], defaults := Value.none, kwdefaults := Value.none, pyModule := Value.str (Str.ofString "law_oc0184_01") 392, code := Value.ref 191 } }]) {}) .mk)
    .mk .mk .mk .mk .mk .mk .mk .mk .mk .mk .mk .mk .mk .mk .mk .mk .mk .mk .mk .mk .mk
abbrev hd.view : Program := PySem.W.view PySem.Challenge.pw_oc0184_01 [0, 2, 3, 4, 5, 6, 8, 10, 11, 12, 13, 14, 15, 16, 17]
abbrev hd.loose : List Str := [Str.ofString "_NodeInfo"]
end Mine
namespace Mine
abbrev hd.row : RowW := PySem.Challenge.rw_oc0184_01.row.toRowW
noncomputable abbrev hd.hook : Hook := kHook hd.heap_39 hd.as (fun _ => by kernel_rfl)
theorem hd.run : ∀ (w : World) (os : OsState), topRun treeTable PySem.Challenge.rw_oc0184_01.row.prog w 11 (some (.ref 6)) 1400 ⟨boot_heap w.params, #[], boot_drawn, boot_toks, os⟩ (topStub PySem.Challenge.rw_oc0184_01.row.prog) = some ⟨hd.fin w.params, #[], {}, 452, os⟩ := fun w os => by
  rw [PySem.W.Fast.te14082659384304107361, PySem.W.Fast.te14364793385576792824]
  kernel_rfl
theorem hd.look1 : ∀ (w : World) (os : OsState), (staticsOk (importedModules PySem.Challenge.rw_oc0184_01.row.prog.main.body) (boot_heap w.params) (hd.fin w.params) && namesBound PySem.Challenge.rw_oc0184_01.row.prog (hd.fin w.params) && gensDone ⟨hd.fin w.params, #[], {}, 452, os⟩ && laidKept (boot_heap w.params) (hd.fin w.params)) = true := fun w os => by kernel_rfl
theorem hd.look2 : ∀ (w : World) (os : OsState), openSeen hd.view hd.loose (importedModules PySem.Challenge.rw_oc0184_01.row.prog.main.body) (fun s => xlAt hd.view [] s && recOk hd.row.records s) true ⟨hd.fin w.params, #[], {}, 452, os⟩ = openGood hd.view hd.loose := fun w os => by
  rw [PySem.W.Fast.te4187177175401517315]
  kernel_rfl
theorem hd.look3 : ∀ (w : World) (os : OsState), hd.hook.obs ⟨hd.fin w.params, #[], {}, 452, os⟩ = hd.hook.val w := fun w os => by kernel_rfl
theorem hd.left : LeftO PySem.Challenge.rw_oc0184_01.row.prog hd.view hd.loose (fun s => xlAt hd.view [] s && recOk hd.row.records s) hd.hook.obs hd.hook.val 2762 :=
  .of_pieces (boot_open (by kernel_rfl) (by decide) fun s => by kernel_rfl) (fun w => by kernel_rfl) hd.run (by decide) fun w => funext fun os => Prod.ext (hd.look1 w os) (Prod.ext (hd.look2 w os) (hd.look3 w os))
theorem hd.said : PySem.Challenge.rw_oc0184_01.wellSaid = true := by
  rw [PySem.W.Fast.te9446332074065402090]
  kernel_rfl
theorem hd {d : DefRec} {kwd : List (Str × PySem.Expr)} (e1 : defOf hd.view PySem.Challenge.rw_oc0184_01.row.name = some (d, kwd)) (e2 : PySem.Challenge.rw_oc0184_01.row.prog.theDef PySem.Challenge.rw_oc0184_01.row.name = some (d.params, d.body, d.scope))
    (e3 : kwWritten? d.params.kwonlyargs d.params.kw_defaults = some kwd) (walk : WalkO hd.view hd.loose (XL hd.view []) hd.hook.says hd.row d kwd fun f vs => PySem.call f vs) : PySem.Challenge.rw_oc0184_01.Holds := by
  w_on
  refine holds_law hd.said fun said => ?_
  refine holds_open (q := hd.view) (loose := hd.loose) (Xt := fun s => xlAt hd.view [] s && recOk hd.row.records s) (XP := XL hd.view []) (Yf := hd.hook.obs) (Ya := hd.hook.val) (YP := hd.hook.says) (N := 2762)
    hd.left hd.hook.of hd.hook.keeps (fun s e => xl_of s (Bool.and_eq_true_iff.mp e).1) XL.keeps e1 e2 e3 (fun s e => recFacts_of (Bool.and_eq_true_iff.mp e).2) (by rfl) said (by decide +kernel) ⟨rfl, rfl, rfl, rfl, rfl, by decide +kernel⟩ ?hw walk
  w_witness2
end Mine

end

section
open PySem PySem.W PyProof.Rows
set_option Elab.async false
namespace Mine

inductive Ex2 {α : Type} (P1 P2 : α → Prop) : Prop
  | mk (a : α) (h1 : P1 a) (h2 : P2 a) : Ex2 P1 P2
inductive Ex3 {α : Type} (P1 P2 P3 : α → Prop) : Prop
  | mk (a : α) (h1 : P1 a) (h2 : P2 a) (h3 : P3 a) : Ex3 P1 P2 P3
inductive Ex4 {α : Type} (P1 P2 P3 P4 : α → Prop) : Prop
  | mk (a : α) (h1 : P1 a) (h2 : P2 a) (h3 : P3 a) (h4 : P4 a) : Ex4 P1 P2 P3 P4
inductive Ex5 {α : Type} (P1 P2 P3 P4 P5 : α → Prop) : Prop
  | mk (a : α) (h1 : P1 a) (h2 : P2 a) (h3 : P3 a) (h4 : P4 a) (h5 : P5 a) : Ex5 P1 P2 P3 P4 P5
inductive Ex6 {α : Type} (P1 P2 P3 P4 P5 P6 : α → Prop) : Prop
  | mk (a : α) (h1 : P1 a) (h2 : P2 a) (h3 : P3 a) (h4 : P4 a) (h5 : P5 a) (h6 : P6 a) : Ex6 P1 P2 P3 P4 P5 P6
inductive Ex7 {α : Type} (P1 P2 P3 P4 P5 P6 P7 : α → Prop) : Prop
  | mk (a : α) (h1 : P1 a) (h2 : P2 a) (h3 : P3 a) (h4 : P4 a) (h5 : P5 a) (h6 : P6 a) (h7 : P7 a) : Ex7 P1 P2 P3 P4 P5 P6 P7
/-- the objects of B stand in h -/
def Sub (B h : Heap) : Prop := ∀ b o, B.get? b = some o → h.get? b = some o
theorem Sub.refl (h : Heap) : Sub h h := fun _ _ e => e
theorem Sub.trans {a b c : Heap} (x : Sub a b) (y : Sub b c) : Sub a c := fun p o e => y p o (x p o e)

abbrev As := Obj → Prop
abbrev Led := List (Addr × As)

def NsP (m : Str → Option Value) : As := fun o => ∃ es ep, o.data = .dict es ep ∧ StrKeys es ∧ ∀ name, nsFind es name = m name
def LsP (vs : List Value) : As := fun o => ∃ n, o = { cls := .type "list", data := .seq vs.toArray n }
theorem LsP.isList {vs : List Value} {o : Obj} {h : Heap} {a : Addr} (x : LsP vs o) (e : h.get? a = some o) : h.IsList a vs.toArray := by
  obtain ⟨n, rfl⟩ := x; exact ⟨_, e, rfl, n, rfl⟩
theorem LsP.plain {vs : List Value} {o : Obj} {h : Heap} {a : Addr} (x : LsP vs o) (e : h.get? a = some o) : h.PlainList a vs.toArray := by
  obtain ⟨n, rfl⟩ := x; exact ⟨n, e⟩
theorem LsP.of {vs : List Value} {h : Heap} {a : Addr} (x : h.PlainList a vs.toArray) : ∃ o, h.get? a = some o ∧ LsP vs o := let ⟨n, e⟩ := x; ⟨_, e, n, rfl⟩
def CellP (v : Option Value) : As := fun o => o.data = .cell v
def ObjP (o' : Obj) : As := fun o => o = o'

structure St (B : Heap) (X : Led) (h : Heap) : Prop where
  sub : Sub B h
  xs : ∀ p ∈ X, (∃ o, h.get? p.1 = some o ∧ p.2 o) ∧ B.get? p.1 = none
  nd : (X.map (·.1)).Nodup

section
variable {B B' h h' : Heap} {X Y pre post : Led} {a d : Addr} {P P' : As} {o : Obj}

theorem St.at (H : St B X h) (hm : (a, P) ∈ X) : ∃ o, h.get? a = some o ∧ P o := (H.xs _ hm).1
theorem St.lt (H : St B X h) (hm : (a, P) ∈ X) : a < h.objs.size := let ⟨_, e, _⟩ := H.at hm; Heap.lt_size e

theorem St.drop {p} (H : St B (p :: X) h) : St B X h :=
  ⟨H.sub, fun q hq => H.xs q (.tail _ hq), (List.nodup_cons.mp (by simpa using H.nd)).2⟩
theorem St.perm (H : St B X h) (hp : X.Perm Y) : St B Y h :=
  ⟨H.sub, fun q hq => H.xs q (hp.mem_iff.mpr hq), (hp.map _).nodup_iff.mp H.nd⟩
theorem St.front (H : St B (pre ++ (d, P) :: post) h) : St B ((d, P) :: (pre ++ post)) h := H.perm List.perm_middle
theorem St.back (H : St B ((d, P) :: (pre ++ post)) h) : St B (pre ++ (d, P) :: post) h := H.perm List.perm_middle.symm
theorem St.dropAt (H : St B (pre ++ (d, P) :: post) h) : St B (pre ++ post) h := H.front.drop

theorem St.upd0 (H : St B ((d, P) :: X) h) (hs : Heap.SameBut d h h') (ho : ∃ o, h'.get? d = some o ∧ P' o) : St B ((d, P') :: X) h' := by
  have hd := (H.xs _ (.head _)).2
  have nd := H.nd
  simp only [List.map_cons, List.nodup_cons] at nd
  refine ⟨fun b o e => (hs.2 b fun q => ?_).trans (H.sub b o e), fun q hq => ?_, by simpa using H.nd⟩
  · rw [q, hd] at e; cases e
  · rcases List.mem_cons.mp hq with rfl | hq
    · exact ⟨ho, hd⟩
    · obtain ⟨⟨o, e, p⟩, n⟩ := H.xs q (.tail _ hq)
      exact ⟨⟨o, (hs.2 _ fun z => nd.1 (z ▸ List.mem_map_of_mem hq)).trans e, p⟩, n⟩
theorem St.upd (pre : Led) (H : St B (pre ++ (d, P) :: post) h) (hs : Heap.SameBut d h h') (ho : ∃ o, h'.get? d = some o ∧ P' o) : St B (pre ++ (d, P') :: post) h' :=
  (H.front.upd0 hs ho).back
theorem St.imp (pre : Led) (H : St B (pre ++ (d, P) :: post) h) (hi : ∀ o, P o → P' o) : St B (pre ++ (d, P') :: post) h := by
  refine ⟨H.sub, fun q hq => ?_, by simpa using H.nd⟩
  rcases List.mem_append.mp hq with hq | hq
  · exact H.xs q (List.mem_append_left _ hq)
  · rcases List.mem_cons.mp hq with rfl | hq
    · obtain ⟨⟨o, e, p⟩, n⟩ := H.xs (d, P) (by simp)
      exact ⟨⟨o, e, hi o p⟩, n⟩
    · exact H.xs q (List.mem_append_right _ (.tail _ hq))

/-- everything of h stays, nothing else is asked -/
theorem St.grow (H : St B X h) (hk : Sub h h') : St B X h' :=
  ⟨H.sub.trans hk, fun q hq => let ⟨⟨o, e, p⟩, n⟩ := H.xs q hq; ⟨⟨o, hk _ _ e, p⟩, n⟩, H.nd⟩
theorem sub_push (h : Heap) (o : Obj) : Sub h (h.push o) := fun _ _ e => Heap.get?_push_of_some o e
theorem St.push (H : St B X h) (o : Obj) : St B X (h.push o) := H.grow (sub_push h o)
theorem St.add (H : St B X h) (hk : Sub h h') (hn : h.get? a = none) (ho : ∃ o, h'.get? a = some o ∧ P o) (hx : a ∉ X.map (·.1)) : St B ((a, P) :: X) h' := by
  have H' := H.grow hk
  refine ⟨H'.sub, fun q hq => ?_, ?_⟩
  · rcases List.mem_cons.mp hq with rfl | hq
    · refine ⟨ho, ?_⟩
      cases e : B.get? a with
      | none => rfl
      | some o => rw [H.sub _ _ e] at hn; cases hn
    · exact H'.xs q hq
  · simpa using ⟨by simpa using hx, by simpa using H.nd⟩
theorem get_size (h : Heap) : h.get? h.objs.size = none := by
  cases e : h.get? h.objs.size with
  | none => rfl
  | some o => exact absurd (Heap.lt_size e) (Nat.lt_irrefl _)
theorem St.notin (H : St B X h) : h.objs.size ∉ X.map (·.1) := fun hm => by
  obtain ⟨p, hp, e⟩ := List.mem_map.mp hm
  have := H.lt (a := p.1) (P := p.2) hp
  exact absurd this (by rw [e]; exact Nat.lt_irrefl _)
theorem St.new (H : St B X h) (hf : o.isFreed = false) (hp : P o) : St B ((h.objs.size, P) :: X) (h.push o) :=
  H.add (sub_push h o) (get_size h) ⟨o, Heap.get?_push_size _ hf, hp⟩ H.notin
theorem St.newBut {o : Obj} (H : St B X h) (hs : Heap.SameBut h.objs.size (h.push o) h') (hp : ∃ o, h'.get? h.objs.size = some o ∧ P o) : St B ((h.objs.size, P) :: X) h' :=
  H.add (fun b o e => (hs.2 b (Nat.ne_of_lt (Heap.lt_size e))).trans (Heap.get?_push_of_some _ e)) (get_size h) hp H.notin

/-- what is frozen: all of h but the ledger's -/
def fz (h : Heap) (X : Led) : Heap := hideAll h (X.map (·.1))
theorem St.fz (H : St B X h) : Sub B (fz h X) ∧ St (fz h X) X h := by
  refine ⟨fun b o e => hideAll_get _ (H.sub b o e) fun hm => ?_, fun b o e => of_hideAll _ e, fun q hq => ⟨(H.xs q hq).1, hideAll_none _ (List.mem_map_of_mem hq)⟩, H.nd⟩
  obtain ⟨p, hp, e'⟩ := List.mem_map.mp hm
  have := (H.xs p hp).2
  rw [e', e] at this; cases this
theorem St.freeze (H : St B ((a, P) :: X) h) : ∃ B' o, Sub B B' ∧ B'.get? a = some o ∧ P o ∧ St B' X h := by
  obtain ⟨o, e, p⟩ := (H.xs (a, P) (.head _)).1
  have nd := H.nd
  simp only [List.map_cons, List.nodup_cons] at nd
  exact ⟨Mine.fz h X, o, H.drop.fz.1, hideAll_get _ e nd.1, p, H.drop.fz.2⟩
theorem St.freezeAt (pre : Led) (H : St B (pre ++ (a, P) :: post) h) : ∃ B' o, Sub B B' ∧ B'.get? a = some o ∧ P o ∧ St B' (pre ++ post) h := H.front.freeze
end

/-- the same state but for heap and tokens -/
def Sm (s s' : Shared) : Prop := ∃ h tk, s' = { s with heap := h, toks := tk }
theorem Sm.refl (s : Shared) : Sm s s := ⟨s.heap, s.toks, rfl⟩
theorem Sm.trans {a b c : Shared} (x : Sm a b) (y : Sm b c) : Sm a c := by
  obtain ⟨h, t, rfl⟩ := x; obtain ⟨h', t', rfl⟩ := y; exact ⟨h', t', rfl⟩

structure W (s₀ : Shared) (B : Heap) (X : Led) (s : Shared) : Prop where
  sm : Sm s₀ s
  st : St B X s.heap

theorem W.to {s₀ s : Shared} {B B' : Heap} {X X' : Led} {h : Heap} {tk : Nat} (H : W s₀ B X s) (x : St B' X' h) : W s₀ B' X' { s with heap := h, toks := tk } :=
  ⟨H.sm.trans ⟨h, tk, rfl⟩, x⟩
theorem W.re {s₀ s : Shared} {B B' : Heap} {X X' : Led} (H : W s₀ B X s) (x : St B' X' s.heap) : W s₀ B' X' s := ⟨H.sm, x⟩

end Mine

end

section
open PySem PySem.W PyProof.Rows
set_option Elab.async false
namespace Mine

theorem abs_post {α : Type} {M : Model} {A : Around} {t : Sem α} {Q : α → Shared → Prop} {E : Value → Shared → Prop} {s : Shared} (h : ∀ Q' : α → Shared → Prop, (∀ a s', Q a s' → Q' a s') → wpAny M A t Q' E s) : wpAny M A t Q E s := h Q fun _ _ x => x
theorem abs_both {α : Type} {M : Model} {A : Around} {t : Sem α} {Q : α → Shared → Prop} {E : Value → Shared → Prop} {s : Shared} (h : ∀ (Q' : α → Shared → Prop) (E' : Value → Shared → Prop), (∀ a s', Q a s' → Q' a s') → (∀ a s', E a s' → E' a s') → wpAny M A t Q' E' s) : wpAny M A t Q E s := h Q E (fun _ _ x => x) fun _ _ x => x
theorem abs_turn {α β : Type} {M : Model} {A : Around} {t : Sem α} {b : Sem β} {Q : β → Shared → Prop} {E E' : Value → Shared → Prop} {s : Shared} (h : ∀ Q' : β → Shared → Prop, (∀ a s', Q a s' → Q' a s') → wpAny M A t (fun _ s₂ => wpAny M A b Q' E s₂) E' s) : wpAny M A t (fun _ s₂ => wpAny M A b Q E s₂) E' s := h Q fun _ _ x => x
abbrev NoE : Value → Shared → Prop := fun _ _ => False

section
variable {prog : Program} {w : World} {A : Around} {E : Value → Shared → Prop}

/-- an iterator: n items, P i v the i-th; C i its own state; R what it needs of the heap -/
structure It (prog : Program) (w : World) (A : Around) (I : Addr) (n : Nat) (P : Nat → Value → Prop) (C : Nat → As) (R : Heap → Prop) : Prop where
  item : ∀ i (s : Shared) (Q : Option Value → Shared → Prop) (E : Value → Shared → Prop), i < n → (∃ o, s.heap.get? I = some o ∧ C i o) → R s.heap →
    (∀ v h' tk, P i v → (∃ o, h'.get? I = some o ∧ C (i + 1) o) → Heap.SameBut I s.heap h' → Q (some v) { s with heap := h', toks := tk }) → wpAny (model prog w) A (pyNext (.ref I)) Q E s
  done : ∀ (s : Shared) (Q : Option Value → Shared → Prop) (E : Value → Shared → Prop), (∃ o, s.heap.get? I = some o ∧ C n o) → R s.heap →
    (∀ h' tk, Heap.ExtBut I s.heap h' → Q none { s with heap := h', toks := tk }) → wpAny (model prog w) A (pyNext (.ref I)) Q E s
  self : ∀ i (s : Shared) (Q : Value → Shared → Prop) (E : Value → Shared → Prop), (∃ o, s.heap.get? I = some o ∧ C i o) → R s.heap → Q (.ref I) s → wpAny (model prog w) A (pyIter (.ref I)) Q E s
  lot : ∀ target i v (s : Shared) (Q : Unit → Shared → Prop) (E : Value → Shared → Prop), (∃ o, s.heap.get? I = some o ∧ C i o) → Q () s → wpAny (model prog w) A (letOwnedTupleGo target (.ref I) v) Q E s

theorem lot_any {I : Addr} {o : Obj} {n : String} {s : Shared} {Q : Unit → Shared → Prop} {target : Expr} {v : Value} (ho : s.heap.get? I = some o) (hc : o.cls = .type n)
    (hn : (["enumerate", "zip", "dict_itemiterator", "dict_reverseitemiterator", "odict_iterator", "itertools.zip_longest", "itertools.pairwise"].contains n) = false) (h : Q () s) :
    wpAny (model prog w) A (letOwnedTupleGo target (.ref I) v) Q E s := by
  unfold letOwnedTupleGo
  obtain ⟨cl, dd, dat, sl⟩ := o
  have hc' : cl = .type n := hc
  subst hc'
  cases target <;> first
    | exact wpAny_pure h
    | (cases v <;> first
        | exact wpAny_pure h
        | (refine wpAny_bind (wpAny_load ho ?_)
           cases dat <;> first
             | exact wpAny_pure h
             | (dsimp only
                rw [if_neg (by rw [hn, Bool.false_and]; exact Bool.false_ne_true)]
                exact wpAny_pure h)))

def LIterP (l : Addr) (i : Nat) : As := fun o => o.cls = .type "list_iterator" ∧ o.data = .fields #[.ref l, .int i 0]
def TIterP (l : Addr) (i : Nat) : As := fun o => o.cls = .type "tuple_iterator" ∧ o.data = .fields #[.ref l, .int i 0]
def RIterP (x left step : Int) : As := fun o => o = { cls := .type "range_iterator", dict := none, data := .fields #[rawInt x, rawInt left, rawInt step], slots := #[] }

theorem it_list (hh : A.handled = none) (I l : Addr) (vs : List Value) : It prog w A I vs.length (fun i v => vs[i]? = some v) (LIterP l) (fun h => h.IsList l vs.toArray) where
  item := fun i s Q E hi hc hr hQ => by
    obtain ⟨o, ho, hc⟩ := hc
    refine wpAny_pyNext_list_item (i := i) ⟨o, ho, hc⟩ hr (x := vs[i]) (by simp [hi]) fun h' hit' hs' => ?_
    exact hQ _ h' s.toks (by simp [hi]) hit' hs'
  done := fun s Q E hc hr hQ => by
    obtain ⟨o, ho, hc⟩ := hc
    exact wpAny_pyNext_list_end hh (i := vs.length) ⟨o, ho, hc⟩ hr (by simp) fun h' he' => hQ h' s.toks he'
  self := fun i s Q E hc hr h => by
    obtain ⟨o, ho, hc⟩ := hc
    exact wpAny_pyIter_listiter (i := i) ⟨o, ho, hc⟩ h
  lot := fun target i v s Q E hc h => by
    obtain ⟨o, ho, hc⟩ := hc
    exact lot_any ho hc.1 (by decide) h

theorem it_tuple (hh : A.handled = none) (I l : Addr) (vs : List Value) : It prog w A I vs.length (fun i v => vs[i]? = some v) (TIterP l) (fun h => h.IsTuple l vs.toArray) where
  item := fun i s Q E hi hc hr hQ => by
    obtain ⟨o, ho, hc⟩ := hc
    refine wpAny_pyNext_tuple_item (i := i) ⟨o, ho, hc⟩ hr (x := vs[i]) (by simp [hi]) fun h' hit' hs' => ?_
    exact hQ _ h' s.toks (by simp [hi]) hit' hs'
  done := fun s Q E hc hr hQ => by
    obtain ⟨o, ho, hc⟩ := hc
    exact wpAny_pyNext_tuple_end hh (i := vs.length) ⟨o, ho, hc⟩ hr (by simp) fun h' he' => hQ h' s.toks he'
  self := fun i s Q E hc hr h => by
    obtain ⟨o, ho, hc⟩ := hc
    exact wpAny_pyIter_tupleiter (i := i) ⟨o, ho, hc⟩ h
  lot := fun target i v s Q E hc h => by
    obtain ⟨o, ho, hc⟩ := hc
    exact lot_any ho hc.1 (by decide) h

theorem it_range (hh : A.handled = none) (I : Addr) (n : Nat) : It prog w A I n (fun i v => ∃ t, v = .int i t) (fun i => RIterP i (n - i) 1) (fun _ => True) where
  item := fun i s Q E hi hc hr hQ => by
    obtain ⟨o, ho, rfl⟩ := hc
    refine wpAny_pyNext_range_item (x := i) (left := n - i) (step := 1) ho (by omega) fun h' hit' hs' => ?_
    refine hQ _ h' _ ⟨_, rfl⟩ ⟨_, hit', ?_⟩ hs'
    show _ = _
    rw [show ((n : Int) - ↑(i + 1)) = (n : Int) - i - 1 by omega, show ((↑(i + 1) : Int)) = (i : Int) + 1 by omega]
  done := fun s Q E hc hr hQ => by
    obtain ⟨o, ho, rfl⟩ := hc
    exact wpAny_pyNext_range_end hh (x := n) (left := n - n) (step := 1) ho (by omega) fun h' he' => hQ h' s.toks he'
  self := fun i s Q E hc hr h => by
    obtain ⟨o, ho, rfl⟩ := hc
    exact wpAny_pyIter_rangeiter ho h
  lot := fun target i v s Q E hc h => by
    obtain ⟨o, ho, rfl⟩ := hc
    exact lot_any (n := "range_iterator") ho rfl (by decide) h

/-- a state in which only entries that are neither in B nor in X have moved -/
theorem St.extBut {B : Heap} {X : Led} {I : Addr} {P : As} {h h' : Heap} (H : St B ((I, P) :: X) h) (he : Heap.ExtBut I h h') : St B X h' := by
  have nd := H.nd
  simp only [List.map_cons, List.nodup_cons] at nd
  refine ⟨fun b o e => he b o (fun q => ?_) (H.sub b o e), fun q hq => ?_, nd.2⟩
  · have := (H.xs _ (.head _)).2; subst q; rw [e] at this; cases this
  · obtain ⟨⟨o, e, p⟩, n⟩ := H.xs q (.tail _ hq)
    exact ⟨⟨o, he _ o (fun z => nd.1 (z ▸ List.mem_map_of_mem hq)) e, p⟩, n⟩

theorem for_it {s₀ s : Shared} {B : Heap} {X : Led} {I : Addr} {n : Nat} {P : Nat → Value → Prop} {C : Nat → As} {R : Heap → Prop} {target : Expr} {body : List Stmt} {env : Env} {Q : Flow → Shared → Prop}
    (it : It prog w A I n P C R) (J : Nat → Heap → Led → Prop) (hR : ∀ i B' X' h, Sub B B' → J i B' X' → St B' X' h → R h)
    (hW : W s₀ B ((I, C 0) :: X) s) (h0 : J 0 B X)
    (turn : ∀ i v B' X' s', i < n → P i v → Sub B B' → J i B' X' → W s₀ B' ((I, C (i + 1)) :: X') s' →
      wpAny (model prog w) A (assign target env v) (fun _ s₂ => wpAny (model prog w) A (execs body env) (fun f s₃ => match f with
        | .next | .cont => ∃ B'' X'', Sub B' B'' ∧ J (i + 1) B'' X'' ∧ W s₀ B'' ((I, C (i + 1)) :: X'') s₃
        | .brk => Q .next s₃
        | .ret v => Q (.ret v) s₃) NoE s₂) NoE s')
    (fin : ∀ B' X' s', Sub B B' → J n B' X' → W s₀ B' X' s' → Q .next s') :
    codeAny (model prog w) A (.forLoop target (.ref I) body [] env) (fun r s' => match r with | .ok f => Q f s' | .error e => cameBackBy (model prog w) A env E e s') s := by
  refine codeAny_forLoop_any (fun k s' => ∃ i B' X', k = n - i ∧ i ≤ n ∧ Sub B B' ∧ J i B' X' ∧ W s₀ B' ((I, C i) :: X') s') ?_ n ⟨0, B, X, rfl, Nat.zero_le _, Sub.refl _, h0, hW⟩
  rintro k s' ⟨i, B', X', rfl, hin, hsub, hJ, hW'⟩
  have hat := hW'.st.at (.head _)
  have hr := hR i B' X' _ hsub hJ hW'.st.drop
  by_cases hlt : i < n
  · refine it.item i s' _ _ hlt hat hr fun v h' tk hP hc hs => ?_
    have W1 : W s₀ B' ((I, C (i + 1)) :: X') { s' with heap := h', toks := tk } := hW'.to (hW'.st.upd0 hs hc)
    refine it.lot target (i + 1) v _ _ _ (W1.st.at (.head _)) ?_
    refine wpAny_mono (turn i v B' X' _ hlt hP hsub hJ W1) (fun _ s₂ h₂ => wpAny_mono h₂ (fun f s₃ h₃ => ?_) fun _ _ f => f.elim) fun _ _ f => f.elim
    cases f with
    | next => obtain ⟨B'', X'', hs', hJ', hW''⟩ := h₃; exact ⟨n - (i + 1), by omega, i + 1, B'', X'', rfl, hlt, hsub.trans hs', hJ', hW''⟩
    | cont => obtain ⟨B'', X'', hs', hJ', hW''⟩ := h₃; exact ⟨n - (i + 1), by omega, i + 1, B'', X'', rfl, hlt, hsub.trans hs', hJ', hW''⟩
    | brk => exact h₃
    | ret v => exact h₃
  · have e : i = n := by omega
    subst e
    refine it.done s' _ _ hat hr fun h' tk he => ?_
    exact wpAny_execs_nil (fin B' X' _ hsub hJ (hW'.to (hW'.st.extBut he)))

/-- a comprehension's turns, any target -/
theorem compLoop_any {R : Result → Shared → Prop} {s : Shared} {elt target iter : Expr} {ifs : List Expr} {scope : Scope} {pos : Pos} {it acc : Value} {env : Env} (I : Nat → Shared → Prop)
    (turn : ∀ n s, I n s → wpAny (model prog w) A (pyNext it) (fun r s₁ => match r with
      | none => R (.ok .next) s₁
      | some v => wpAny (model prog w) A (letOwnedTupleGo target it v) (fun _ s₁' => wpAny (model prog w) A (assign target env v) (fun _ s₂ =>
          wpAny (model prog w) A (forIn ifs true fun c r => if r = true then do let ok ← isTrue c env (eval c env); pure (ForInStep.yield ok) else pure (ForInStep.yield r)) (fun ok s₃ =>
            if ok = true then wpAny (model prog w) A (eval elt env) (fun x s₄ =>
              wpAny (model prog w) A (call (.builtin "list.append") [acc, x]) (fun _ s₅ => ∃ m, m < n ∧ I m s₅) NoE s₄) NoE s₃
            else ∃ m, m < n ∧ I m s₃) NoE s₂) NoE s₁') NoE s₁) NoE s)
    (n : Nat) (h : I n s) : codeAny (model prog w) A (.compLoop (.ListComp elt [⟨target, iter, ifs, 0⟩] scope pos) 0 it acc env) R s := by
  refine codeAny_loop rfl I (fun n s hI => ?_) n h
  show wpAny _ A ((compTurn (.ListComp elt [⟨target, iter, ifs, 0⟩] scope pos) 0 it acc env).onRaise (fun x => do noteFrame x env; theTreesLotGoes x)) _ _ s
  refine wpAny_noted ?_
  rw [compTurn_list]
  refine wpAny_bind (wpAny_standAt (wpAny_bind (wpAny_mono (turn n s hI) (fun r s₁ h₁ => ?_) fun _ _ h' => h'.elim)))
  cases r with
  | none => exact wpAny_pure h₁
  | some v =>
    refine wpAny_bind (wpAny_mono h₁ (fun _ s₁' h₁' => ?_) fun _ _ h' => h'.elim)
    refine wpAny_bind (wpAny_mono h₁' (fun _ s₂ h₂ => wpAny_bind (wpAny_mono h₂ (fun ok s₃ h₃ => ?_) fun _ _ h' => h'.elim)) fun _ _ h' => h'.elim)
    cases ok with
    | false => exact wpAny_pure ⟨rfl, h₃⟩
    | true =>
      exact wpAny_bind (wpAny_bind (wpAny_mono h₃ (fun x s₄ h₄ => wpAny_bind (wpAny_mono h₄ (fun _ s₅ h₅ => wpAny_pure (wpAny_pure ⟨rfl, h₅⟩)) fun _ _ h' => h'.elim)) fun _ _ h' => h'.elim))

abbrev testsOf (ifs : List Expr) (env : Env) : Sem Bool := forIn ifs true fun c r => if r = true then do let ok ← isTrue c env (eval c env); pure (ForInStep.yield ok) else pure (ForInStep.yield r)

theorem comp_it {s₀ s : Shared} {B : Heap} {Y : Led} {I D Cn : Addr} {n : Nat} {P : Nat → Value → Prop} {C : Nat → As} {R : Heap → Prop} {elt target iter : Expr} {ifs : List Expr} {scope : Scope} {pos : Pos} {cenv : Env} {RR : Result → Shared → Prop} {mc : Str → Option Value}
    (it : It prog w A I n P C R) (J : Nat → List Value → Heap → Prop) (hR : ∀ B' h, Sub B B' → St B' Y h → R h) (hsz : n ≤ sizeLine)
    (hW : W s₀ B ((Cn, NsP mc) :: (I, C 0) :: (D, LsP []) :: Y) s) (h0 : J 0 [] B)
    (turn : ∀ i v us B' mc s', i < n → P i v → Sub B B' → J i us B' → W s₀ B' ((Cn, NsP mc) :: (I, C (i + 1)) :: (D, LsP us) :: Y) s' →
      wpAny (model prog w) A (assign target cenv v) (fun _ s₂ => wpAny (model prog w) A (testsOf ifs cenv) (fun ok s₃ =>
        if ok = true then wpAny (model prog w) A (eval elt cenv) (fun u s₄ => ∃ B'' mc', Sub B' B'' ∧ J (i + 1) (us ++ [u]) B'' ∧ W s₀ B'' ((Cn, NsP mc') :: (I, C (i + 1)) :: (D, LsP us) :: Y) s₄) NoE s₃
        else ∃ B'' mc', Sub B' B'' ∧ J (i + 1) us B'' ∧ W s₀ B'' ((Cn, NsP mc') :: (I, C (i + 1)) :: (D, LsP us) :: Y) s₃) NoE s₂) NoE s')
    (fin : ∀ us B' mc s', us.length ≤ n → Sub B B' → J n us B' → W s₀ B' ((Cn, NsP mc) :: (D, LsP us) :: Y) s' → RR (.ok .next) s') :
    codeAny (model prog w) A (.compLoop (.ListComp elt [⟨target, iter, ifs, 0⟩] scope pos) 0 (.ref I) (.ref D) cenv) RR s := by
  refine compLoop_any (fun k s' => ∃ i us B' mc, k = n - i ∧ i ≤ n ∧ us.length ≤ i ∧ Sub B B' ∧ J i us B' ∧ W s₀ B' ((Cn, NsP mc) :: (I, C i) :: (D, LsP us) :: Y) s') ?_ n ⟨0, [], B, mc, rfl, Nat.zero_le _, Nat.le_refl _, Sub.refl _, h0, hW⟩
  rintro k s' ⟨i, us, B', mc, rfl, hin, hlen, hsub, hJ, hW'⟩
  have hat := hW'.st.at (.tail _ (.head _))
  have hr := hR B' _ hsub hW'.st.drop.drop.drop
  by_cases hlt : i < n
  · refine it.item i s' _ _ hlt hat hr fun v h' tk hP hc hs => ?_
    have W1 : W s₀ B' ((Cn, NsP mc) :: (I, C (i + 1)) :: (D, LsP us) :: Y) { s' with heap := h', toks := tk } := hW'.to (hW'.st.upd [(Cn, NsP mc)] hs hc)
    refine it.lot target (i + 1) v _ _ _ (W1.st.at (.tail _ (.head _))) ?_
    refine wpAny_mono (turn i v us B' mc _ hlt hP hsub hJ W1) (fun _ s₂ h₂ => wpAny_mono h₂ (fun ok s₃ h₃ => ?_) fun _ _ f => f) fun _ _ f => f
    cases ok with
    | false =>
      simp only [Bool.false_eq_true, if_false] at h₃ ⊢
      obtain ⟨B'', mc', hs', hJ', hW''⟩ := h₃
      exact ⟨n - (i + 1), by omega, i + 1, us, B'', mc', rfl, hlt, by omega, hsub.trans hs', hJ', hW''⟩
    | true =>
      simp only [if_true] at h₃ ⊢
      refine wpAny_mono h₃ (fun u s₄ h₄ => ?_) fun _ _ f => f
      obtain ⟨B'', mc', hs', hJ', hW''⟩ := h₄
      obtain ⟨oD, hoD, pD⟩ := hW''.st.at (.tail _ (.tail _ (.head _)))
      refine wpAny_list_append_plain (items := us.toArray) (pD.plain hoD) (fun h' hl' hs => ?_) (by simp; omega)
      refine ⟨n - (i + 1), by omega, i + 1, us ++ [u], B'', mc', rfl, hlt, by simp; omega, hsub.trans hs', hJ', hW''.to (hW''.st.upd [(Cn, NsP mc'), (I, C (i + 1))] hs ?_)⟩
      exact LsP.of (by simpa using hl')
  · have e : i = n := by omega
    subst e
    refine it.done s' _ _ hat hr fun h' tk he => ?_
    exact fin us B' mc _ hlen hsub hJ (hW'.to ((hW'.st.front (pre := [(Cn, NsP mc)])).extBut he))
end
end Mine

end

section
open PySem PySem.W PyProof.Rows
set_option Elab.async false
namespace Mine

/-! data -/
abbrev Rel (α : Type) := Heap → Value → α → Prop
inductive F2 {α β : Type} (R : α → β → Prop) : List α → List β → Prop
  | nil : F2 R [] []
  | cons {a b l m} : R a b → F2 R l m → F2 R (a :: l) (b :: m)
theorem F2.imp {α β : Type} {R S : α → β → Prop} (h : ∀ a b, R a b → S a b) {l : List α} {m : List β} (x : F2 R l m) : F2 S l m := by
  induction x with
  | nil => exact .nil
  | cons a _ ih => exact .cons (h _ _ a) ih
theorem F2.length {α β : Type} {R : α → β → Prop} {l : List α} {m : List β} (x : F2 R l m) : l.length = m.length := by
  induction x with
  | nil => rfl
  | cons _ _ ih => exact congrArg Nat.succ ih
theorem F2.append {α β : Type} {R : α → β → Prop} {l l' : List α} {m m' : List β} (x : F2 R l m) (y : F2 R l' m') : F2 R (l ++ l') (m ++ m') := by
  induction x with
  | nil => exact y
  | cons a _ ih => exact .cons a ih
theorem F2.get {α β : Type} {R : α → β → Prop} {l : List α} {m : List β} (x : F2 R l m) {i : Nat} {a : α} (h : l[i]? = some a) : ∃ b, m[i]? = some b ∧ R a b := by
  induction x generalizing i with
  | nil => cases h
  | cons r _ ih => cases i with
    | zero => cases h; exact ⟨_, rfl, r⟩
    | succ i => exact ih (i := i) h
theorem F2.get' {α β : Type} {R : α → β → Prop} {l : List α} {m : List β} (x : F2 R l m) {i : Nat} {b : β} (h : m[i]? = some b) : ∃ a, l[i]? = some a ∧ R a b := by
  induction x generalizing i with
  | nil => cases h
  | cons r _ ih => cases i with
    | zero => cases h; exact ⟨_, rfl, r⟩
    | succ i => exact ih (i := i) h

def Mono {α : Type} (R : Rel α) : Prop := ∀ B B' v x, Sub B B' → R B v x → R B' v x
def RInt : Rel Int := fun _ v i => ∃ t, v = .int i t
def RList {α : Type} (R : Rel α) : Rel (List α) := fun B v xs => ∃ a vs, v = .ref a ∧ (∃ o, B.get? a = some o ∧ LsP vs o) ∧ F2 (R B) vs xs
def RPair {α β : Type} (R : Rel α) (R' : Rel β) : Rel (α × β) := fun B v x => ∃ a v1 v2, v = .ref a ∧ B.IsTuple a #[v1, v2] ∧ R B v1 x.1 ∧ R' B v2 x.2
theorem mono_int : Mono RInt := fun _ _ _ _ _ h => h
theorem F2.mono {α : Type} {R : Rel α} (hR : Mono R) {B B' : Heap} (h : Sub B B') {vs xs} (x : F2 (R B) vs xs) : F2 (R B') vs xs := x.imp fun _ _ y => hR _ _ _ _ h y
theorem mono_list {α : Type} {R : Rel α} (hR : Mono R) : Mono (RList R) := fun _ _ _ _ h ⟨a, vs, e, ⟨o, ho, p⟩, f⟩ => ⟨a, vs, e, ⟨o, h _ _ ho, p⟩, f.mono hR h⟩
theorem mono_pair {α β : Type} {R : Rel α} {R' : Rel β} (hR : Mono R) (hR' : Mono R') : Mono (RPair R R') :=
  fun _ _ _ _ h ⟨a, v1, v2, e, ⟨o, ho, p⟩, r, r'⟩ => ⟨a, v1, v2, e, ⟨o, h _ _ ho, p⟩, hR _ _ _ _ h r, hR' _ _ _ _ h r'⟩

/-- the list stands: frozen, or in the ledger -/
def LAt (B : Heap) (X : Led) (a : Addr) (vs : List Value) : Prop := (∃ o, B.get? a = some o ∧ LsP vs o) ∨ (a, LsP vs) ∈ X
theorem LAt.isList {B h : Heap} {X : Led} {a : Addr} {vs : List Value} (x : LAt B X a vs) (H : St B X h) : h.IsList a vs.toArray := by
  rcases x with ⟨o, ho, p⟩ | hm
  · exact p.isList (H.sub _ _ ho)
  · obtain ⟨o, ho, p⟩ := H.at hm; exact p.isList ho
theorem LAt.mono {B B' : Heap} {X : Led} {a : Addr} {vs : List Value} (x : LAt B X a vs) (h : Sub B B') : LAt B' X a vs := x.imp (fun ⟨o, e, p⟩ => ⟨o, h _ _ e, p⟩) id

section
variable {prog : Program} {w : World} {A : Around} {E : Value → Shared → Prop} {s₀ s : Shared} {B : Heap} {X Y pre post : Led} {env : Env}

/-! names -/
theorem ns_at {m : Str → Option Value} {L : Addr} {h : Heap} (H : St B X h) (hm : (L, NsP m) ∈ X) : h.Ns L m := by
  obtain ⟨o, ho, es, ep, x⟩ := H.at hm
  exact ⟨o, es, ep, ho, x⟩
theorem nsP_of {m : Str → Option Value} {L : Addr} {h : Heap} (x : h.Ns L m) : ∃ o, h.get? L = some o ∧ NsP m o := let ⟨o, es, ep, ho, r⟩ := x; ⟨o, ho, es, ep, r⟩
def up (m : Str → Option Value) (x : Str) (v : Value) : Str → Option Value := fun y => if y = x then some v else m y
theorem up_self (m : Str → Option Value) (x : Str) (v : Value) : up m x v x = some v := by simp [up]
theorem up_ne {m : Str → Option Value} {x y : Str} {v : Value} (h : y ≠ x) : up m x v y = m y := by simp [up, h]

theorem ev_local {m : Str → Option Value} {x : Str} {pos : Pos} {v : Value} {Q : Value → Shared → Prop} (hW : W s₀ B X s) (hm : (env.locals, NsP m) ∈ X) (hv : m x = some v) (h : Q v s)
    (hk : env.scope.kind = .function := by rfl) (hl : env.kindOf x = some .local := by rfl) (hd : (x == ("__debug__" : Str)) = false := by decide) :
    wpAny (model prog w) A (eval (.Name x pos) env) Q E s := wpAny_Name (wpAny_loadName_local hk hl (ns_at hW.st hm) hv h) hd
theorem ld_local {m : Str → Option Value} {x : Str} {v : Value} {Q : Value → Shared → Prop} (hW : W s₀ B X s) (hm : (env.locals, NsP m) ∈ X) (hv : m x = some v) (h : Q v s)
    (hk : env.scope.kind = .function := by rfl) (hl : env.kindOf x = some .local := by rfl) :
    wpAny (model prog w) A (loadName env x) Q E s := wpAny_loadName_local hk hl (ns_at hW.st hm) hv h
theorem ev_cell {x : Str} {pos : Pos} {c : Addr} {v : Value} {Q : Value → Shared → Prop} (hW : W s₀ B X s) (hm : (c, CellP (some v)) ∈ X) (h : Q v s)
    (hk : env.scope.kind = .function := by rfl) (hl : env.kindOf x = some .cell := by rfl) (hc : env.cells.lookup x = some c := by rfl) (hd : (x == ("__debug__" : Str)) = false := by decide) :
    wpAny (model prog w) A (eval (.Name x pos) env) Q E s := wpAny_Name (wpAny_loadName_cell hk hl hc (hW.st.at hm) h) hd

theorem st_local {m : Str → Option Value} {x : Str} {v : Value} {Q : Unit → Shared → Prop} (pre : Led) (hW : W s₀ B (pre ++ (env.locals, NsP m) :: post) s)
    (h : ∀ s', W s₀ B (pre ++ (env.locals, NsP (up m x v)) :: post) s' → Q () s')
    (hl : env.kindOf x = some .local := by rfl) (hk : env.scope.kind = .function := by rfl) : wpAny (model prog w) A (storeName env x v) Q E s :=
  wpAny_storeName_local hl (ns_at hW.st (by simp)) (fun _ hn hs => h _ (hW.to (hW.st.upd pre hs (nsP_of hn)))) (by rw [hk]; rfl)
theorem st_cell {x : Str} {c : Addr} {v₀ : Option Value} {v : Value} {Q : Unit → Shared → Prop} (pre : Led) (hW : W s₀ B (pre ++ (c, CellP v₀) :: post) s)
    (h : ∀ s', W s₀ B (pre ++ (c, CellP (some v)) :: post) s' → Q () s')
    (hl : env.kindOf x = some .cell := by rfl) (hk : env.scope.kind = .function := by rfl) (hc : env.cells.lookup x = some c := by rfl) : wpAny (model prog w) A (storeName env x v) Q E s :=
  wpAny_storeName_cell hk hl hc (hW.st.at (P := CellP v₀) (by simp)) (fun _ hn hs => h _ (hW.to (tk := s.toks) (hW.st.upd pre hs hn)))

/-! for -/
theorem for_list {a : Addr} {vs : List Value} {target iter : Expr} {body : List Stmt} {pos : Pos} {Q : Flow → Shared → Prop} (hh : A.handled = none) (J : List Value → Heap → Led → Prop)
    (hit : wpAny (model prog w) A (eval iter env) (fun xv s₁ => ∃ B₁ X₁, xv = .ref a ∧ W s₀ B₁ X₁ s₁ ∧ J [] B₁ X₁ ∧
      (∀ pre v post I As B' X' s', vs = pre ++ v :: post → Sub B₁ B' → J pre B' X' → W s₀ B' ((I, As) :: X') s' →
        wpAny (model prog w) A (assign target env v) (fun _ s₂ => wpAny (model prog w) A (execs body env) (fun f s₃ => match f with
          | .next | .cont => ∃ B'' X'', Sub B' B'' ∧ J (pre ++ [v]) B'' X'' ∧ W s₀ B'' ((I, As) :: X'') s₃
          | .brk => Q .next s₃
          | .ret v => Q (.ret v) s₃) NoE s₂) NoE s') ∧
      (∀ B' X' s', Sub B₁ B' → J vs B' X' → W s₀ B' X' s' → Q .next s')) E s)
    (hl : ∀ pre B' X', J pre B' X' → LAt B' X' a vs)
    (hs : ∀ x, foldedSetIterable iter env x = pure x := by intro _; rfl) :
    wpAny (model prog w) A (exec (.For target iter body [] pos) env) Q E s := by
  refine wpAny_For (wpAny_mono hit (fun xv s₁ h₁ => ?_) fun _ _ e => e) hs
  obtain ⟨B₁, X₁, rfl, hW, h0, turn, fin⟩ := h₁
  have hlist := (hl _ _ _ h0).isList hW.st
  refine wpAny_pyIter_list hlist ?_
  refine for_it (s₀ := s₀) (B := B₁) (X := X₁) (it_list hh s₁.heap.objs.size a vs) (fun i B' X' => J (vs.take i) B' X') (fun i B' X' h _ hJ H => (hl _ _ _ hJ).isList H) ?_ (by simpa using h0) ?_ ?_
  · exact hW.to (tk := s₁.toks) (hW.st.new rfl ⟨rfl, rfl⟩)
  · intro i v B' X' s' hi hP hsub hJ hW'
    have e : vs = vs.take i ++ v :: vs.drop (i + 1) := by
      have := List.take_append_drop i vs
      rw [List.drop_eq_getElem_cons hi] at this
      have hv : vs[i] = v := by rw [List.getElem?_eq_getElem hi] at hP; exact Option.some.inj hP
      rw [hv] at this
      exact this.symm
    refine wpAny_mono (turn _ v _ _ _ B' X' s' e hsub hJ hW') (fun _ s₂ h₂ => wpAny_mono h₂ (fun f s₃ h₃ => ?_) fun _ _ f => f) fun _ _ f => f
    have et : vs.take (i + 1) = vs.take i ++ [v] := by rw [List.take_add_one, hP]; rfl
    cases f with
    | next => rw [et]; exact h₃
    | cont => rw [et]; exact h₃
    | brk => exact h₃
    | ret v => exact h₃
  · intro B' X' s' hsub hJ hW'
    exact fin B' X' s' hsub (by simpa using hJ) hW'

/-! comprehensions: a pure filter and map -/
theorem nil_lookup : (fun x => ([] : List (Str × Value)).reverse.lookup x) = fun _ => none := rfl

theorem comp_block {elt target iter : Expr} {ifs : List Expr} {scope : Scope} {cl : List (Str × Addr)} {pos : Pos} {I : Addr} {n : Nat} {P : Nat → Value → Prop} {C : Nat → As} {R : Heap → Prop} {RR : Value → Addr → Result → Shared → Prop}
    (it : It prog w A I n P C R) (J : Nat → List Value → Heap → Prop) (hR : ∀ B' h, Sub B B' → St B' Y h → R h) (hsz : n ≤ sizeLine)
    (hcell : ∀ y ∈ scope.names, y.2 ≠ .cell) (hkind : scope.kind = .function)
    (hW : W s₀ B ((I, C 0) :: Y) s) (h0 : J 0 [] B)
    (turn : ∀ i v us B' mc Cn D s', i < n → P i v → Sub B B' → J i us B' → W s₀ B' ((Cn, NsP mc) :: (I, C (i + 1)) :: (D, LsP us) :: Y) s' →
      wpAny (model prog w) A (assign target (compEnvC scope cl Cn env) v) (fun _ s₂ => wpAny (model prog w) A (testsOf ifs (compEnvC scope cl Cn env)) (fun ok s₃ =>
        if ok = true then wpAny (model prog w) A (eval elt (compEnvC scope cl Cn env)) (fun u s₄ => ∃ B'' mc', Sub B' B'' ∧ J (i + 1) (us ++ [u]) B'' ∧ W s₀ B'' ((Cn, NsP mc') :: (I, C (i + 1)) :: (D, LsP us) :: Y) s₄) NoE s₃
        else ∃ B'' mc', Sub B' B'' ∧ J (i + 1) us B'' ∧ W s₀ B'' ((Cn, NsP mc') :: (I, C (i + 1)) :: (D, LsP us) :: Y) s₃) NoE s₂) NoE s')
    (fin : ∀ D Cn us B' mc s', us.length ≤ n → Sub B B' → J n us B' → W s₀ B' ((Cn, NsP mc) :: (D, LsP us) :: Y) s' → RR (.ref D) Cn (.ok .next) s') :
    wpAny (model prog w) A (newList []) (fun acc s₃ => wpAny (model prog w) A (newFunctionEnv scope env.globals cl [] env.qual none .none (some env)) (fun cenv s₄ =>
      codeAny (model prog w) A (.compStart (.ListComp elt [⟨target, iter, ifs, 0⟩] scope pos) 0 (.ref I) acc { cenv with scope := relabel scope env }) (RR acc cenv.locals) s₄) E s₃) E s := by
  refine wpAny_newObj_type ?_
  have W1 : W s₀ B ((s.heap.objs.size, LsP []) :: (I, C 0) :: Y) { s with heap := s.heap.push { cls := .type "list", data := .seq ([] : List Value).toArray } } := hW.to (tk := s.toks) (hW.st.new rfl ⟨_, rfl⟩)
  generalize hs1 : ({ s with heap := s.heap.push { cls := .type "list", data := .seq ([] : List Value).toArray } } : Shared) = s1 at W1
  have hD : s.heap.objs.size + 1 = s1.heap.objs.size := by rw [← hs1]; exact (Heap.size_push ..).symm
  refine wpAny_newFunctionEnv hcell (by intro y hy; simp at hy) (fun h₁ hns₁ hsb₁ => ?_) hkind
  have W2 : W s₀ B ((s1.heap.objs.size, NsP fun _ => none) :: (s.heap.objs.size, LsP []) :: (I, C 0) :: Y) { s1 with heap := h₁, toks := s1.toks + ([] : List (Str × Value)).length } :=
    W1.to (W1.st.newBut hsb₁ (nsP_of hns₁))
  have W3 : W s₀ B ((s1.heap.objs.size, NsP fun _ => none) :: (I, C 0) :: (s.heap.objs.size, LsP []) :: Y) { s1 with heap := h₁, toks := s1.toks + ([] : List (Str × Value)).length } :=
    W2.re (W2.st.perm (List.Perm.cons _ (List.Perm.swap _ _ _)))
  have loop : codeAny (model prog w) A (.compLoop (.ListComp elt [⟨target, iter, ifs, 0⟩] scope pos) 0 (.ref I) (.ref s.heap.objs.size) (compEnvC scope cl s1.heap.objs.size env))
      (RR (.ref s.heap.objs.size) s1.heap.objs.size) { s1 with heap := h₁, toks := s1.toks + ([] : List (Str × Value)).length } :=
    comp_it it J hR hsz W3 h0 (fun i v us B' mc s' => turn i v us B' mc _ _ s') (fun us B' mc s' => fin _ _ us B' mc s')
  exact codeAny_compStart_list loop (it.self 0 _ _ _ (W3.st.at (.tail _ (.head _))) (hR _ _ (Sub.refl _) W3.st.drop.drop.drop) loop)

/-- the result's ledger behind a comprehension -/
theorem ev_comp_it {elt target iter : Expr} {ifs : List Expr} {scope : Scope} {cl : List (Str × Addr)} {pos : Pos} {Q : Value → Shared → Prop}
    (hclos : closureFor scope env = pure cl) (hcell : ∀ y ∈ scope.names, y.2 ≠ .cell) (hkind : scope.kind = .function)
    (hnames : ∀ y ∈ scope.names, y.2 = .local → scope.names.lookup y.1 = some .local)
    (h : wpAny (model prog w) A (eval iter env) (fun xv s₁ => wpAny (model prog w) A (pyIter xv) (fun itv s₂ => ∃ I n P C R B Y, ∃ J : Nat → List Value → Heap → Prop, itv = .ref I ∧ It prog w A I n P C R ∧
      (∀ B' h, Sub B B' → St B' Y h → R h) ∧ n ≤ sizeLine ∧ W s₀ B ((I, C 0) :: Y) s₂ ∧ J 0 [] B ∧
      (∀ i v us B' mc Cn D s', i < n → P i v → Sub B B' → J i us B' → W s₀ B' ((Cn, NsP mc) :: (I, C (i + 1)) :: (D, LsP us) :: Y) s' →
        wpAny (model prog w) A (assign target (compEnvC scope cl Cn env) v) (fun _ s₂ => wpAny (model prog w) A (testsOf ifs (compEnvC scope cl Cn env)) (fun ok s₃ =>
          if ok = true then wpAny (model prog w) A (eval elt (compEnvC scope cl Cn env)) (fun u s₄ => ∃ B'' mc', Sub B' B'' ∧ J (i + 1) (us ++ [u]) B'' ∧ W s₀ B'' ((Cn, NsP mc') :: (I, C (i + 1)) :: (D, LsP us) :: Y) s₄) NoE s₃
          else ∃ B'' mc', Sub B' B'' ∧ J (i + 1) us B'' ∧ W s₀ B'' ((Cn, NsP mc') :: (I, C (i + 1)) :: (D, LsP us) :: Y) s₃) NoE s₂) NoE s') ∧
      (∀ D Cn us B' mc s', us.length ≤ n → Sub B B' → J n us B' → W s₀ B' ((Cn, NsP mc) :: (D, LsP us) :: Y) s' → ∀ h', Heap.SameBut Cn s'.heap h' → Q (.ref D) { s' with heap := h' })) E s₁) E s)
    (hs : ∀ x, foldedSetIterable iter env x = pure x := by intro _; rfl) :
    wpAny (model prog w) A (eval (.ListComp elt [⟨target, iter, ifs, 0⟩] scope pos) env) Q E s := by
  rw [eval_ListComp]
  refine wpAny_comprehension_free (use := none) rfl hs hclos hkind hnames (wpAny_mono h (fun xv s₁ h₁ => wpAny_mono h₁ (fun itv s₂ h₂ => ?_) fun _ _ e => e) fun _ _ e => e)
  obtain ⟨I, n, P, C, R, B, Y, J, rfl, it, hR, hsz, hW, h0, turn, fin⟩ := h₂
  refine comp_block (RR := fun acc Cn => compPost (model prog w) A E none Q acc Cn) it J hR hsz hcell hkind hW h0 turn ?_
  intro D Cn us B' mc s' hlen hsub hJ hW'
  exact ⟨mc, ns_at hW'.st (.head _), fun h' hs' => fin D Cn us B' mc s' hlen hsub hJ hW' h' hs'⟩

theorem as_comp_it {elt target iter : Expr} {ifs : List Expr} {scope : Scope} {cl : List (Str × Addr)} {pos py spos : Pos} {y : Str} {Q : Flow → Shared → Prop}
    (hsw : swapsWith (.ListComp elt [⟨target, iter, ifs, 0⟩] scope pos) (some (.Name y py)) spos.line env = pure true)
    (hclos : closureFor scope env = pure cl) (hcell : ∀ y ∈ scope.names, y.2 ≠ .cell) (hkind : scope.kind = .function)
    (hnames : ∀ y ∈ scope.names, y.2 = .local → scope.names.lookup y.1 = some .local)
    (h : wpAny (model prog w) A (eval iter env) (fun xv s₁ => wpAny (model prog w) A (pyIter xv) (fun itv s₂ => ∃ I n P C R B Y, ∃ J : Nat → List Value → Heap → Prop, itv = .ref I ∧ It prog w A I n P C R ∧
      (∀ B' h, Sub B B' → St B' Y h → R h) ∧ n ≤ sizeLine ∧ W s₀ B ((I, C 0) :: Y) s₂ ∧ J 0 [] B ∧
      (∀ i v us B' mc Cn D s', i < n → P i v → Sub B B' → J i us B' → W s₀ B' ((Cn, NsP mc) :: (I, C (i + 1)) :: (D, LsP us) :: Y) s' →
        wpAny (model prog w) A (assign target (compEnvC scope cl Cn env) v) (fun _ s₂ => wpAny (model prog w) A (testsOf ifs (compEnvC scope cl Cn env)) (fun ok s₃ =>
          if ok = true then wpAny (model prog w) A (eval elt (compEnvC scope cl Cn env)) (fun u s₄ => ∃ B'' mc', Sub B' B'' ∧ J (i + 1) (us ++ [u]) B'' ∧ W s₀ B'' ((Cn, NsP mc') :: (I, C (i + 1)) :: (D, LsP us) :: Y) s₄) NoE s₃
          else ∃ B'' mc', Sub B' B'' ∧ J (i + 1) us B'' ∧ W s₀ B'' ((Cn, NsP mc') :: (I, C (i + 1)) :: (D, LsP us) :: Y) s₃) NoE s₂) NoE s') ∧
      (∀ D Cn us B' mc s', us.length ≤ n → Sub B B' → J n us B' → W s₀ B' ((Cn, NsP mc) :: (D, LsP us) :: Y) s' → wpAny (model prog w) A (storeName env y (.ref D)) (fun _ s'' => ∃ B'' mc' Z, W s₀ B'' ((Cn, NsP mc') :: Z) s'' ∧ (∀ s''', W s₀ B'' Z s''' → Q .next s''')) E s')) E s₁) E s)
    (hs : ∀ x, foldedSetIterable iter env x = pure x := by intro _; rfl) :
    wpAny (model prog w) A (exec (.Assign [.Name y py] (.ListComp elt [⟨target, iter, ifs, 0⟩] scope pos) spos) env) Q E s := by
  rw [exec_Assign_Name_used _ _ _ _ hsw]
  refine wpAny_bind (wpAny_standAt (wpAny_bind ?_))
  show wpAny _ A (do let _ ← comprehension (.ListComp elt [⟨target, iter, ifs, 0⟩] scope pos) scope env _ (newList []) false (eval iter env) (some (assign (.Name y py) env))) _ _ s
  refine wpAny_bind (wpAny_mono (wpAny_comprehension_free (use := some (assign (.Name y py) env)) (Q := fun _ s' => Q .next s') rfl hs hclos hkind hnames
    (wpAny_mono h (fun xv s₁ h₁ => wpAny_mono h₁ (fun itv s₂ h₂ => ?_) fun _ _ e => e) fun _ _ e => e)) (fun _ s' hq => wpAny_pure (wpAny_pure hq)) fun _ _ e => e)
  obtain ⟨I, n, P, C, R, B, Y, J, rfl, it, hR, hsz, hW, h0, turn, fin⟩ := h₂
  refine comp_block (RR := fun acc Cn => compPost (model prog w) A E (some (assign (.Name y py) env)) (fun _ s' => Q .next s') acc Cn) it J hR hsz hcell hkind hW h0 turn ?_
  intro D Cn us B' mc s' hlen hsub hJ hW'
  show wpAny _ A (assign (.Name y py) env (.ref D)) _ _ _
  refine wpAny_assign_Name (wpAny_mono (fin D Cn us B' mc s' hlen hsub hJ hW') (fun _ s'' hz => ?_) fun _ _ e => e)
  obtain ⟨B'', mc', Z, hW'', hq⟩ := hz
  exact ⟨mc', ns_at hW''.st (.head _), fun h' hs' => hq _ (hW''.to (tk := s''.toks) (hW''.st.extBut hs'.extBut))⟩
end
end Mine

end

section
open PySem PySem.W PyProof.Rows PySem.SeqAt
set_option Elab.async false
namespace Mine

/-! equality -/
def Fun {α : Type} (R : Rel α) : Prop := ∀ B v x x', R B v x → R B v x' → x = x'
theorem fun_int : Fun RInt := fun _ _ _ _ ⟨_, e⟩ ⟨_, e'⟩ => by rw [e] at e'; injection e'
theorem F2.fun {α : Type} {R : Rel α} (h : Fun R) {B : Heap} {vs : List Value} {xs ys : List α} (x : F2 (R B) vs xs) (y : F2 (R B) vs ys) : xs = ys := by
  induction x generalizing ys with
  | nil => cases y; rfl
  | cons a _ ih => cases y with | cons c d => rw [h _ _ _ _ a c, ih d]
theorem lsP_inj {vs vs' : List Value} {o : Obj} (x : LsP vs o) (y : LsP vs' o) : vs = vs' := by
  obtain ⟨n, e⟩ := x; obtain ⟨n', e'⟩ := y; rw [e] at e'; simpa using congrArg (fun o : Obj => match o.data with | .seq xs _ => xs.toList | _ => []) e'
theorem fun_list {α : Type} {R : Rel α} (h : Fun R) : Fun (RList R) := fun B v x x' ⟨a, vs, e, ⟨o, ho, p⟩, f⟩ ⟨a', vs', e', ⟨o', ho', p'⟩, f'⟩ => by
  rw [e] at e'; cases e'; rw [ho] at ho'; cases ho'; cases lsP_inj p p'; exact F2.fun h f f'
def EqOK {α : Type} [DecidableEq α] (R : Rel α) (d : Nat) : Prop := ∀ (A : Around) (s : Shared) (B : Heap) v v' x x', Sub B s.heap → R B v x → R B v' x' → A.units + d < cLine → EqAt A s v v' (decide (x = x'))
theorem eq_int : EqOK RInt 0 := by
  rintro A s B v v' x x' _ ⟨t, rfl⟩ ⟨t', rfl⟩ _ prog w E Q hq
  have e : (x == x') = decide (x = x') := by by_cases h : x = x' <;> simp [h]
  exact wpAny_eqBool_int (by rw [e]; exact hq)

theorem all_range_eq {α β : Type} [DecidableEq β] {R : α → β → Prop} : ∀ {vs ws : List α} {xs ys : List β}, F2 R vs xs → F2 R ws ys → vs.length = ws.length →
    ((List.range vs.length).all fun j => decide (xs[j]? = ys[j]?)) = decide (xs = ys) := by
  intro vs ws xs ys h1 h2 hl
  have l1 := h1.length; have l2 := h2.length
  by_cases h : xs = ys
  · subst h; simp
  · simp only [h, decide_false]
    rw [Bool.eq_false_iff]
    intro hall
    apply h
    apply List.ext_getElem?
    intro j
    by_cases hj : j < vs.length
    · have := List.all_eq_true.mp hall j (by simpa using hj); simpa using this
    · rw [List.getElem?_eq_none (by omega), List.getElem?_eq_none (by omega)]

theorem rcAt_list {α : Type} [DecidableEq α] {R : Rel α} {d : Nat} (hR : EqOK R d) {A : Around} {s : Shared} {B : Heap} {a b : Addr} {vs ws : List Value} {xs ys : List α} (hsub : Sub B s.heap)
    (ha : s.heap.IsList a vs.toArray) (hb : s.heap.IsList b ws.toArray) (f : F2 (R B) vs xs) (g : F2 (R B) ws ys) (hu : A.units + (d + 1) < cLine) : RcAt A s (.ref a) (.ref b) (decide (xs = ys)) := by
  have l1 := f.length; have l2 := g.length
  by_cases hl : vs.length = ws.length
  · have := RcAt.lists (A := A) (e := fun j => decide (xs[j]? = ys[j]?)) ha hb (by simpa using hl) (by omega) (fun j h1 h2 => by
      have h1' : j < vs.length := by simpa using h1
      have h2' : j < ws.length := by simpa using h2
      obtain ⟨x, ex, rx⟩ := f.get (i := j) (a := vs[j]) (by simp [h1'])
      obtain ⟨y, ey, ry⟩ := g.get (i := j) (a := ws[j]) (by simp [h2'])
      have := hR A.in1 s B _ _ x y hsub rx ry (by show A.units + 1 + d < cLine; omega)
      simpa [ex, ey] using this)
    simpa [all_range_eq f g hl] using this
  · have hne : xs ≠ ys := fun e => hl (by rw [l1, l2, e])
    simp only [hne, decide_false]
    exact RcAt.lists_lengths ha hb (by simpa using hl) (by omega)
theorem eq_list {α : Type} [DecidableEq α] {R : Rel α} {d : Nat} (hR : EqOK R d) (hf : Fun R) : EqOK (RList R) (d + 1) := by
  rintro A s B v v' x x' hsub ⟨a, vs, rfl, ⟨o, ho, p⟩, f⟩ ⟨b, ws, rfl, ⟨o', ho', p'⟩, g⟩ hu
  by_cases hab : a = b
  · subst hab; rw [ho] at ho'; cases ho'; cases lsP_inj p p'
    have := F2.fun hf f g
    subst this
    simpa using EqAt.same (A := A) (s := s) (.ref a)
  · exact EqAt.of_refs hab (rcAt_list hR hsub (p.isList (hsub _ _ ho)) (p'.isList (hsub _ _ ho')) f g hu)

theorem any_eq {α : Type} [DecidableEq α] {R : Value → α → Prop} {y : α} {e : Value → Bool} {vs : List Value} {xs : List α} (x : F2 R vs xs) (he : ∀ v x, v ∈ vs → R v x → e v = decide (x = y)) : vs.any e = decide (y ∈ xs) := by
  induction x with
  | nil => simp
  | @cons a b l m h t ih =>
    rw [List.any_cons, ih fun v x hv hr => he v x (.tail _ hv) hr, he _ _ (.head _) h]
    by_cases hb : b = y
    · subst hb; simp
    · simp [hb, eq_comm (a := y)]

section
variable {prog : Program} {w : World} {A : Around} {E : Value → Shared → Prop} {s₀ s : Shared} {B : Heap} {X Y pre post : Led} {env : Env}

theorem in_list {α : Type} [DecidableEq α] {R : Rel α} {d : Nat} (hR : EqOK R d) (hf : Fun R) {a : Addr} {vs : List Value} {xs : List α} {v : Value} {x : α} {Q : Value → Shared → Prop} (hW : W s₀ B X s)
    (hl : LAt B X a vs) (f : F2 (R B) vs xs) (hx : R B v x) (hu : A.units + (d + 1) < cLine) (h : Q (.bool (decide (x ∈ xs))) s) : wpAny (model prog w) A (compareOp .In v (.ref a)) Q E s := by
  classical
  have key : ∃ e : Value → Bool, ∀ u y, R B u y → e u = decide (y = x) := ⟨fun u => decide (∃ y, R B u y ∧ y = x), fun u y hy => by
    by_cases hyx : y = x
    · subst hyx; simp [hy]
    · simp only [hyx, decide_false, decide_eq_false_iff_not]; rintro ⟨z, hz, rfl⟩; exact hyx (hf _ _ _ _ hy hz)⟩
  obtain ⟨e, he⟩ := key
  refine in_listAt e (hl.isList hW.st) (fun y hy => ?_) (by rw [List.any_toArray, any_eq f fun u y _ hr => he u y hr]; exact h)
  obtain ⟨i, hi⟩ := List.getElem?_of_mem (List.mem_toArray.mp hy)
  obtain ⟨z, _, rz⟩ := f.get hi
  rw [he _ _ rz]
  exact hR A.in1 s B _ _ _ _ hW.st.sub rz hx (by show A.units + 1 + d < cLine; omega)
theorem notIn_list {α : Type} [DecidableEq α] {R : Rel α} {d : Nat} (hR : EqOK R d) (hf : Fun R) {a : Addr} {vs : List Value} {xs : List α} {v : Value} {x : α} {Q : Value → Shared → Prop} (hW : W s₀ B X s)
    (hl : LAt B X a vs) (f : F2 (R B) vs xs) (hx : R B v x) (hu : A.units + (d + 1) < cLine) (h : Q (.bool (!decide (x ∈ xs))) s) : wpAny (model prog w) A (compareOp .NotIn v (.ref a)) Q E s := by
  classical
  have key : ∃ e : Value → Bool, ∀ u y, R B u y → e u = decide (y = x) := ⟨fun u => decide (∃ y, R B u y ∧ y = x), fun u y hy => by
    by_cases hyx : y = x
    · subst hyx; simp [hy]
    · simp only [hyx, decide_false, decide_eq_false_iff_not]; rintro ⟨z, hz, rfl⟩; exact hyx (hf _ _ _ _ hy hz)⟩
  obtain ⟨e, he⟩ := key
  refine notIn_listAt e (hl.isList hW.st) (fun y hy => ?_) (by rw [List.any_toArray, any_eq f fun u y _ hr => he u y hr]; exact h)
  obtain ⟨i, hi⟩ := List.getElem?_of_mem (List.mem_toArray.mp hy)
  obtain ⟨z, _, rz⟩ := f.get hi
  rw [he _ _ rz]
  exact hR A.in1 s B _ _ _ _ hW.st.sub rz hx (by show A.units + 1 + d < cLine; omega)

theorem eqq_list {α : Type} [DecidableEq α] {R : Rel α} {d : Nat} (hR : EqOK R d) {a b : Addr} {vs ws : List Value} {xs ys : List α} {Q : Value → Shared → Prop} (hW : W s₀ B X s)
    (ha : LAt B X a vs) (hb : LAt B X b ws) (f : F2 (R B) vs xs) (g : F2 (R B) ws ys) (hu : A.units + (d + 1) < cLine) (h : Q (.bool (decide (xs = ys))) s) : wpAny (model prog w) A (compareOp .Eq (.ref a) (.ref b)) Q E s :=
  rcAt_list hR hW.st.sub (ha.isList hW.st) (hb.isList hW.st) f g hu prog w E Q h

/-! comprehensions of a list -/
theorem as_pair {t : Addr} {v1 v2 : Value} {x y : Str} {p1 p2 pos : Pos} {k : Nat} {m : Str → Option Value} {Q : Unit → Shared → Prop} (hh : A.handled = none) (pre : Led) (hW : W s₀ B (pre ++ (env.locals, NsP m) :: post) s) (ht : B.IsTuple t #[v1, v2])
    (h : ∀ s', W s₀ B (pre ++ (env.locals, NsP (up (up m x v1) y v2)) :: post) s' → Q () s')
    (hx : env.kindOf x = some .local := by rfl) (hy : env.kindOf y = some .local := by rfl) (hk : env.scope.kind = .function := by rfl) :
    wpAny (model prog w) A (assign (.Tuple [.Name x p1, .Name y p2] k pos) env (.ref t)) Q E s := by
  obtain ⟨o, ho, r⟩ := ht
  refine wpAny_assign_Tuple hh ⟨o, hW.st.sub _ _ ho, r⟩ rfl rfl fun h' he => ?_
  have W1 : W s₀ B (pre ++ (env.locals, NsP m) :: post) { s with heap := h' } := hW.to (tk := s.toks) (hW.st.grow fun b o e => he b o (Nat.ne_of_lt (Heap.lt_size e)) e)
  show wpAny _ _ (assignInOrder [assign (.Name x p1) env, assign (.Name y p2) env] [v1, v2]) _ _ _
  refine wpAny_assignInOrder_more (wpAny_assign_Name (st_local pre W1 (fun s1 W2 => ?_) hx hk))
  exact wpAny_assignInOrder_more (wpAny_assign_Name (st_local pre W2 (fun s2 W3 => wpAny_assignInOrder_none (h _ W3)) hy hk))
theorem as_name {x : Str} {p : Pos} {v : Value} {m : Str → Option Value} {Q : Unit → Shared → Prop} (pre : Led) (hW : W s₀ B (pre ++ (env.locals, NsP m) :: post) s)
    (h : ∀ s', W s₀ B (pre ++ (env.locals, NsP (up m x v)) :: post) s' → Q () s')
    (hx : env.kindOf x = some .local := by rfl) (hk : env.scope.kind = .function := by rfl) :
    wpAny (model prog w) A (assign (.Name x p) env v) Q E s := wpAny_assign_Name (st_local pre hW h hx hk)
theorem as_nameC {x : Str} {p : Pos} {v : Value} {c : Addr} {v₀ : Option Value} {Q : Unit → Shared → Prop} (pre : Led) (hW : W s₀ B (pre ++ (c, CellP v₀) :: post) s)
    (h : ∀ s', W s₀ B (pre ++ (c, CellP (some v)) :: post) s' → Q () s')
    (hx : env.kindOf x = some .cell := by rfl) (hk : env.scope.kind = .function := by rfl) (hc : env.cells.lookup x = some c := by rfl) :
    wpAny (model prog w) A (assign (.Name x p) env v) Q E s := wpAny_assign_Name (st_cell pre hW h hx hk hc)

/-- one turn of a comprehension that keeps x if p x and gives f x -/
def CTurn {α β : Type} (prog : Program) (w : World) (A : Around) (s₀ : Shared) (cenv : Env) (target elt : Expr) (ifs : List Expr) (Y : Led) (RB : Rel β) (p : α → Bool) (f : α → β) (B' : Heap) (v : Value) (x : α) (s' : Shared) : Prop :=
  wpAny (model prog w) A (assign target cenv v) (fun _ s₂ => wpAny (model prog w) A (testsOf ifs cenv) (fun ok s₃ => ok = p x ∧
    (if ok = true then wpAny (model prog w) A (eval elt cenv) (fun u s₄ => ∃ B'' mc', Sub B' B'' ∧ RB B'' u (f x) ∧ W s₀ B'' ((cenv.locals, NsP mc') :: Y) s₄) NoE s₃
     else ∃ B'' mc', Sub B' B'' ∧ W s₀ B'' ((cenv.locals, NsP mc') :: Y) s₃)) NoE s₂) NoE s'

theorem filter_snoc {α β : Type} {p : α → Bool} {f : α → β} (xs : List α) (i : Nat) (x : α) (h : xs[i]? = some x) :
    ((xs.take (i + 1)).filter p).map f = ((xs.take i).filter p).map f ++ (if p x then [f x] else []) := by
  rw [List.take_add_one, h, List.filter_append, List.map_append]
  cases hp : p x <;> simp [hp]

theorem comp_list_src {α β : Type} {RA : Rel α} {RB : Rel β} (p : α → Bool) (f : α → β) {elt target : Expr} {ifs : List Expr} {scope : Scope} {cl : List (Str × Addr)} {a : Addr} {vs : List Value} {xs : List α}
    (hh : A.handled = none) (hW : W s₀ B Y s) (hl : ∀ B' h, Sub B B' → St B' Y h → h.IsList a vs.toArray) (hx : F2 (RA B) vs xs) (mA : Mono RA) (mB : Mono RB) (hsz : xs.length ≤ sizeLine) {Fin : Addr → Addr → List Value → Heap → (Str → Option Value) → Shared → Prop}
    (turn : ∀ x v B' mc Cn Z s', x ∈ xs → Sub B B' → RA B' v x → W s₀ B' ((Cn, NsP mc) :: (Z ++ Y)) s' → CTurn prog w A s₀ (compEnvC scope cl Cn env) target elt ifs (Z ++ Y) RB p f B' v x s')
    (fin : ∀ D Cn us B' mc s', Sub B B' → F2 (RB B') us ((xs.filter p).map f) → W s₀ B' ((Cn, NsP mc) :: (D, LsP us) :: Y) s' → Fin D Cn us B' mc s') :
    wpAny (model prog w) A (pyIter (.ref a)) (fun itv s₂ => ∃ I n P C R B Y, ∃ J : Nat → List Value → Heap → Prop, itv = .ref I ∧ It prog w A I n P C R ∧
      (∀ B' h, Sub B B' → St B' Y h → R h) ∧ n ≤ sizeLine ∧ W s₀ B ((I, C 0) :: Y) s₂ ∧ J 0 [] B ∧
      (∀ i v us B' mc Cn D s', i < n → P i v → Sub B B' → J i us B' → W s₀ B' ((Cn, NsP mc) :: (I, C (i + 1)) :: (D, LsP us) :: Y) s' →
        wpAny (model prog w) A (assign target (compEnvC scope cl Cn env) v) (fun _ s₂ => wpAny (model prog w) A (testsOf ifs (compEnvC scope cl Cn env)) (fun ok s₃ =>
          if ok = true then wpAny (model prog w) A (eval elt (compEnvC scope cl Cn env)) (fun u s₄ => ∃ B'' mc', Sub B' B'' ∧ J (i + 1) (us ++ [u]) B'' ∧ W s₀ B'' ((Cn, NsP mc') :: (I, C (i + 1)) :: (D, LsP us) :: Y) s₄) NoE s₃
          else ∃ B'' mc', Sub B' B'' ∧ J (i + 1) us B'' ∧ W s₀ B'' ((Cn, NsP mc') :: (I, C (i + 1)) :: (D, LsP us) :: Y) s₃) NoE s₂) NoE s') ∧
      (∀ D Cn us B' mc s', us.length ≤ n → Sub B B' → J n us B' → W s₀ B' ((Cn, NsP mc) :: (D, LsP us) :: Y) s' → Fin D Cn us B' mc s')) E s := by
  refine wpAny_pyIter_list (hl _ _ (Sub.refl _) hW.st) ?_
  have hlen := hx.length
  refine ⟨_, vs.length, _, _, _, B, Y, (fun i us B' => F2 (RB B') us (((xs.take i).filter p).map f)), rfl, it_list hh _ a vs, hl, by omega, hW.to (tk := s.toks) (hW.st.new rfl ⟨rfl, rfl⟩), by simpa using F2.nil, ?_, ?_⟩
  · intro i v us B' mc Cn D s' hi hP hsub hJ hW'
    obtain ⟨x, ex, rx⟩ := hx.get hP
    have hxm : x ∈ xs := List.mem_of_getElem? ex
    refine wpAny_mono (turn x v B' mc Cn [(s.heap.objs.size, LIterP a (i + 1)), (D, LsP us)] s' hxm hsub (mA _ _ _ _ hsub rx) hW') (fun _ s₂ h₂ => wpAny_mono h₂ (fun ok s₃ h₃ => ?_) fun _ _ f => f) fun _ _ f => f
    obtain ⟨rfl, h₃⟩ := h₃
    split at h₃
    · rename_i hp
      rw [if_pos hp]
      refine wpAny_mono h₃ (fun u s₄ h₄ => ?_) fun _ _ f => f
      obtain ⟨B'', mc', hs, hr, hW''⟩ := h₄
      refine ⟨B'', mc', hs, ?_, hW''⟩
      show F2 _ _ _
      rw [filter_snoc _ _ _ ex, if_pos hp]
      exact (hJ.mono mB hs).append (.cons hr .nil)
    · rename_i hp
      rw [if_neg hp]
      obtain ⟨B'', mc', hs, hW''⟩ := h₃
      refine ⟨B'', mc', hs, ?_, hW''⟩
      show F2 _ _ _
      rw [filter_snoc _ _ _ ex, if_neg hp, List.append_nil]
      exact hJ.mono mB hs
  · intro D Cn us B' mc s' _ hsub hJ hW'
    refine fin D Cn us B' mc s' hsub ?_ hW'
    rwa [hlen, List.take_length] at hJ

theorem ev_comp_list {α β : Type} {RA : Rel α} {RB : Rel β} (p : α → Bool) (f : α → β) {elt target iter : Expr} {ifs : List Expr} {scope : Scope} {cl : List (Str × Addr)} {pos : Pos} {a : Addr} {vs : List Value} {xs : List α} {Q : Value → Shared → Prop}
    (hh : A.handled = none) (hiter : ∀ Q' : Value → Shared → Prop, Q' (.ref a) s → wpAny (model prog w) A (eval iter env) Q' E s)
    (hW : W s₀ B Y s) (hl : LAt B Y a vs) (hx : F2 (RA B) vs xs) (mA : Mono RA) (mB : Mono RB) (hsz : xs.length ≤ sizeLine)
    (turn : ∀ x v B' mc Cn Z s', x ∈ xs → Sub B B' → RA B' v x → W s₀ B' ((Cn, NsP mc) :: (Z ++ Y)) s' → CTurn prog w A s₀ (compEnvC scope cl Cn env) target elt ifs (Z ++ Y) RB p f B' v x s')
    (fin : ∀ D us B' s', Sub B B' → F2 (RB B') us ((xs.filter p).map f) → W s₀ B' ((D, LsP us) :: Y) s' → Q (.ref D) s')
    (hclos : closureFor scope env = pure cl := by rfl) (hcell : ∀ y ∈ scope.names, y.2 ≠ .cell := by decide) (hkind : scope.kind = .function := by rfl)
    (hnames : ∀ y ∈ scope.names, y.2 = .local → scope.names.lookup y.1 = some .local := by decide)
    (hs : ∀ x, foldedSetIterable iter env x = pure x := by intro _; rfl) :
    wpAny (model prog w) A (eval (.ListComp elt [⟨target, iter, ifs, 0⟩] scope pos) env) Q E s := by
  refine ev_comp_it (s₀ := s₀) hclos hcell hkind hnames (hiter _ ?_) hs
  exact comp_list_src (Fin := fun D Cn us B' mc s' => ∀ h', Heap.SameBut Cn s'.heap h' → Q (.ref D) { s' with heap := h' }) p f hh hW (fun B' h hs H => (hl.mono hs).isList H) hx mA mB hsz turn
    (fun D Cn us B' mc s' hsub hf hW' h' hs' => fin D us B' _ hsub hf (hW'.to (tk := s'.toks) (hW'.st.extBut hs'.extBut)))

theorem as_comp_list {α β : Type} {RA : Rel α} {RB : Rel β} (p : α → Bool) (f : α → β) {elt target iter : Expr} {ifs : List Expr} {scope : Scope} {cl : List (Str × Addr)} {pos py spos : Pos} {y : Str} {a : Addr} {vs : List Value} {xs : List α} {m : Str → Option Value} {Q : Flow → Shared → Prop}
    (hh : A.handled = none) (pre : Led) (hiter : ∀ Q' : Value → Shared → Prop, Q' (.ref a) s → wpAny (model prog w) A (eval iter env) Q' E s)
    (hW : W s₀ B (pre ++ (env.locals, NsP m) :: post) s) (hl : LAt B (pre ++ (env.locals, NsP m) :: post) a vs) (hx : F2 (RA B) vs xs) (mA : Mono RA) (mB : Mono RB) (hsz : xs.length ≤ sizeLine)
    (turn : ∀ x v B' mc Cn Z s', x ∈ xs → Sub B B' → RA B' v x → W s₀ B' ((Cn, NsP mc) :: (Z ++ (pre ++ (env.locals, NsP m) :: post))) s' → CTurn prog w A s₀ (compEnvC scope cl Cn env) target elt ifs (Z ++ (pre ++ (env.locals, NsP m) :: post)) RB p f B' v x s')
    (fin : ∀ D us B' s', Sub B B' → F2 (RB B') us ((xs.filter p).map f) → W s₀ B' ((D, LsP us) :: (pre ++ (env.locals, NsP (up m y (.ref D))) :: post)) s' → Q .next s')
    (hsw : swapsWith (.ListComp elt [⟨target, iter, ifs, 0⟩] scope pos) (some (.Name y py)) spos.line env = pure true := by rfl)
    (hclos : closureFor scope env = pure cl := by rfl) (hcell : ∀ y ∈ scope.names, y.2 ≠ .cell := by decide) (hkind : scope.kind = .function := by rfl)
    (hnames : ∀ y ∈ scope.names, y.2 = .local → scope.names.lookup y.1 = some .local := by decide)
    (hy : env.kindOf y = some .local := by rfl) (hk : env.scope.kind = .function := by rfl)
    (hs : ∀ x, foldedSetIterable iter env x = pure x := by intro _; rfl) :
    wpAny (model prog w) A (exec (.Assign [.Name y py] (.ListComp elt [⟨target, iter, ifs, 0⟩] scope pos) spos) env) Q E s := by
  refine as_comp_it (s₀ := s₀) hsw hclos hcell hkind hnames (hiter _ ?_) hs
  refine comp_list_src p f hh hW (fun B' h hs H => (hl.mono hs).isList H) hx mA mB hsz turn (fun D Cn us B' mc s' hsub hf hW' => ?_)
  refine st_local (m := m) ((Cn, NsP mc) :: (D, LsP us) :: pre) hW' (fun s'' hW'' => ⟨B', mc, _, hW'', fun s3 hW3 => fin D us B' s3 hsub hf hW3⟩) hy hk

theorem as_comp_listI {α β : Type} {RA : Rel α} {RB : Rel β} (p : α → Bool) (f : α → β) {elt target iter : Expr} {ifs : List Expr} {scope : Scope} {cl : List (Str × Addr)} {pos py spos : Pos} {y : Str} {a : Addr} {vs : List Value} {xs : List α} {m : Str → Option Value} {Q : Flow → Shared → Prop}
    (hh : A.handled = none) (pre : Led) (hiter : ∀ Q' : Value → Shared → Prop, Q' (.ref a) s → wpAny (model prog w) A (eval iter env) Q' E s)
    (hW : W s₀ B (pre ++ (env.locals, NsP m) :: post) s) (hl : ∀ B' h, Sub B B' → St B' (pre ++ (env.locals, NsP m) :: post) h → h.IsList a vs.toArray) (hx : F2 (RA B) vs xs) (mA : Mono RA) (mB : Mono RB) (hsz : xs.length ≤ sizeLine)
    (turn : ∀ x v B' mc Cn Z s', x ∈ xs → Sub B B' → RA B' v x → W s₀ B' ((Cn, NsP mc) :: (Z ++ (pre ++ (env.locals, NsP m) :: post))) s' → CTurn prog w A s₀ (compEnvC scope cl Cn env) target elt ifs (Z ++ (pre ++ (env.locals, NsP m) :: post)) RB p f B' v x s')
    (fin : ∀ D us B' s', Sub B B' → F2 (RB B') us ((xs.filter p).map f) → W s₀ B' ((D, LsP us) :: (pre ++ (env.locals, NsP (up m y (.ref D))) :: post)) s' → Q .next s')
    (hsw : swapsWith (.ListComp elt [⟨target, iter, ifs, 0⟩] scope pos) (some (.Name y py)) spos.line env = pure true := by rfl)
    (hclos : closureFor scope env = pure cl := by rfl) (hcell : ∀ y ∈ scope.names, y.2 ≠ .cell := by decide) (hkind : scope.kind = .function := by rfl)
    (hnames : ∀ y ∈ scope.names, y.2 = .local → scope.names.lookup y.1 = some .local := by decide)
    (hy : env.kindOf y = some .local := by rfl) (hk : env.scope.kind = .function := by rfl)
    (hs : ∀ x, foldedSetIterable iter env x = pure x := by intro _; rfl) :
    wpAny (model prog w) A (exec (.Assign [.Name y py] (.ListComp elt [⟨target, iter, ifs, 0⟩] scope pos) spos) env) Q E s := by
  refine as_comp_it (s₀ := s₀) hsw hclos hcell hkind hnames (hiter _ ?_) hs
  refine comp_list_src p f hh hW hl hx mA mB hsz turn (fun D Cn us B' mc s' hsub hf hW' => ?_)
  refine st_local (m := m) ((Cn, NsP mc) :: (D, LsP us) :: pre) hW' (fun s'' hW'' => ⟨B', mc, _, hW'', fun s3 hW3 => fin D us B' s3 hsub hf hW3⟩) hy hk
end
end Mine

end

section
open PySem PySem.W PyProof.Rows
set_option Elab.async false
namespace Mine

structure G (K : Frag) (mg mb : Str → Option Value) (B : Heap) : Prop where
  kin : K.In B
  g : B.Ns mainGlobals mg
  b : B.Ns builtinsNs mb
  lim : B.NoLimit
  bt : ∀ x : Str, x ≠ "__name__" → mb x = bootBuiltins x
theorem G.mono {K : Frag} {mg mb : Str → Option Value} {B B' : Heap} (x : G K mg mb B) (h : Sub B B') : G K mg mb B' :=
  ⟨x.kin.keeps h, x.g.keeps h, x.b.keeps h, x.lim.keeps h, x.bt⟩

section
variable {prog : Program} {w : World} {A : Around} {E : Value → Shared → Prop} {s₀ s : Shared} {B : Heap} {X Y pre post : Led} {env : Env} {K : Frag} {mg mb : Str → Option Value}

theorem ev_global {x : Str} {pos : Pos} {v : Value} {Q : Value → Shared → Prop} (hG : G K mg mb B) (hW : W s₀ B X s) (h : Q v s) (e : nsIn K mainGlobals x = some (some v) := by with_unfolding_all rfl)
    (hg : env.globals = mainGlobals := by rfl) (hk : env.scope.kind = .function := by rfl) (hx : env.kindOf x = some .globalImplicit := by rfl) (hd : (x == ("__debug__" : Str)) = false := by decide) :
    wpAny (model prog w) A (eval (.Name x pos) env) Q E s :=
  Calls.Name_function_global hk hx (Calls.loadGlobal_global (by rw [hg]; exact hG.g.keeps hW.st.sub) (mg_of hG.kin hG.g e) h) hd
theorem ev_builtin {x : Str} {pos : Pos} {v : Value} {Q : Value → Shared → Prop} (hG : G K mg mb B) (hW : W s₀ B X s) (hv : bootBuiltins x = some v) (h : Q v s) (e : nsIn K mainGlobals x = some none := by with_unfolding_all rfl) (hn : x ≠ "__name__" := by decide)
    (hg : env.globals = mainGlobals := by rfl) (hb : env.builtins = builtinsNs := by rfl) (hk : env.scope.kind = .function := by rfl) (hx : env.kindOf x = some .globalImplicit := by rfl) (hd : (x == ("__debug__" : Str)) = false := by decide) :
    wpAny (model prog w) A (eval (.Name x pos) env) Q E s :=
  Calls.Name_function_global hk hx (Calls.loadGlobal_builtin (by rw [hg]; exact hG.g.keeps hW.st.sub) (mg_none_of hG.kin hG.g e) (by rw [hb]; exact hG.b.keeps hW.st.sub) ((hG.bt x hn).trans hv) h) hd

/-- a call of a def without cells -/
theorem call_fn {fd : FuncData} {body : List Stmt} {oc : Value} {od : Option Addr} {osl : Array (Option Value)} {f : Addr} {args : List Value} {binds : List (Str × Value)} {Q : Value → Shared → Prop}
    (hG : G K mg mb B) (hW : W s₀ B X s) (ho : K.lookup f = some ⟨oc, od, .func fd, osl⟩) (hcd : codeIn K fd.code fd.qualname = true) (hbody : fd.body = .stmts body) (hroom : A.depth < recursionLimit)
    (hbind : BindsTo s fd ⟨args, []⟩ binds) (hcell : ∀ x ∈ fd.scope.names, x.2 ≠ .cell) (hloc : ∀ x ∈ binds, fd.scope.names.lookup x.1 = some .local)
    (hco : fd.scope.isCoroutine = false) (hgen : fd.scope.isGenerator = false) (hk : fd.scope.kind = .function)
    (h : ∀ L s', W s₀ B ((L, NsP fun x => binds.reverse.lookup x) :: X) s' → wpAny (model prog w) (A.deeper (callEnv fd L f)) (execs body (callEnv fd L f)) (fun fl s'' => Q (match fl with | .ret v => v | _ => .none) s'') NoE s') :
    wpAny (model prog w) A (call (.ref f) args) Q E s := by
  refine wpAny_call (codeAny_call_def hroom (hW.st.sub _ _ (hG.kin _ _ ho)) rfl (hG.lim.keeps hW.st.sub) (codeRec_of (hG.kin.keeps hW.st.sub) hcd) hbody hbind hcell hloc (fun h₁ hns hk₁ => ?_) hco hgen hk)
  refine wpAny_mono (h s.heap.objs.size _ (hW.to (hW.st.add hk₁ (get_size _) (nsP_of hns) hW.st.notin))) (fun fl s'' hq => ?_) fun _ _ f => f.elim
  cases fl <;> exact hq

def cellLed (cm : Str → Option Value) (cs : List (Str × Addr)) : Led := cs.map fun p => (p.2, CellP (cm p.1))
theorem St.cells {h h' : Heap} {L : Addr} {cm : Str → Option Value} (H : St B X h) (hk : Sub h h') (hL : h.objs.size ≤ L) : ∀ {cs : List (Str × Addr)}, (∀ p ∈ cs, h'.IsCell p.2 (cm p.1)) → (cs.Pairwise fun x y => x.2 ≠ y.2) → (∀ p ∈ cs, L < p.2) → St B (cellLed cm cs ++ X) h'
  | [], _, _, _ => H.grow hk
  | p :: r, hc, hp, hl => by
    have hp' := List.pairwise_cons.mp hp
    have ih := St.cells (cs := r) H hk hL (fun q hq => hc q (.tail _ hq)) hp'.2 fun q hq => hl q (.tail _ hq)
    have hn : ∀ b, L < b → h.get? b = none := fun b hb => by
      cases e : h.get? b with
      | none => rfl
      | some o => exact absurd (Heap.lt_size e) (Nat.not_lt.mpr (Nat.le_of_lt (Nat.lt_of_le_of_lt hL hb)))
    refine ⟨ih.sub, fun q hq => ?_, ?_⟩
    · rcases List.mem_cons.mp hq with rfl | hq
      · refine ⟨hc p (.head _), ?_⟩
        show B.get? p.2 = none
        cases e : B.get? p.2 with
        | none => rfl
        | some o => have := H.sub _ _ e; rw [hn _ (hl p (.head _))] at this; cases this
      · exact ih.xs q hq
    · show ((p.2, CellP (cm p.1)) :: (cellLed cm r ++ X)).map (·.1) |>.Nodup
      rw [List.map_cons, List.nodup_cons]
      refine ⟨fun hm => ?_, ih.nd⟩
      obtain ⟨q, hq, e⟩ := List.mem_map.mp hm
      rcases List.mem_append.mp hq with hq | hq
      · obtain ⟨q', hq', rfl⟩ := List.mem_map.mp hq
        exact hp'.1 q' hq' e.symm
      · have hlt := H.lt (a := q.1) (P := q.2) hq
        have h2 := hl p (.head _)
        have e' : q.1 = p.2 := e
        rw [e'] at hlt
        exact absurd (Nat.lt_of_lt_of_le hlt hL) (Nat.not_lt.mpr (Nat.le_of_lt h2))

/-- a call of a def with cells -/
theorem call_fnC {fd : FuncData} {body : List Stmt} {oc : Value} {od : Option Addr} {osl : Array (Option Value)} {f : Addr} {args : List Value} {binds : List (Str × Value)} {Q : Value → Shared → Prop}
    (hG : G K mg mb B) (hW : W s₀ B X s) (ho : K.lookup f = some ⟨oc, od, .func fd, osl⟩) (hcd : codeIn K fd.code fd.qualname = true) (hbody : fd.body = .stmts body) (hroom : A.depth < recursionLimit)
    (hbind : bindArgs fd ⟨args, []⟩ = pure binds) (hclo : fd.closure = [])
    (hkind : ∀ L, ∀ x ∈ binds, fd.scope.names.lookup x.1 = some .local ∨ (fd.scope.names.lookup x.1 = some .cell ∧ ((cellsFrom (L + 1) fd.scope.names []).lookup x.1).isSome = true))
    (hlk : ∀ L, ∀ p ∈ cellsFrom (L + 1) fd.scope.names [], (cellsFrom (L + 1) fd.scope.names []).lookup p.1 = some p.2)
    (hco : fd.scope.isCoroutine = false) (hgen : fd.scope.isGenerator = false) (hk : fd.scope.kind = .function)
    (h : ∀ L s', W s₀ B ((L, NsP (bindL (callEnvC fd L f).kindOf binds fun _ => none)) :: (cellLed (bindC (callEnvC fd L f).kindOf binds fun _ => none) (cellsFrom (L + 1) fd.scope.names []) ++ X)) s' →
      wpAny (model prog w) (A.deeper (callEnvC fd L f)) (execs body (callEnvC fd L f)) (fun fl s'' => Q (match fl with | .ret v => v | _ => .none) s'') NoE s') :
    wpAny (model prog w) A (call (.ref f) args) Q E s := by
  refine wpAny_call (codeAny_call_cells hroom (hW.st.sub _ _ (hG.kin _ _ ho)) rfl (hG.lim.keeps hW.st.sub) (codeRec_of (hG.kin.keeps hW.st.sub) hcd) hbody hbind hclo (hkind _) (fun s₁ x => ?_) hco hgen hk)
  obtain ⟨h₁, tk, e⟩ := x.toInCall.same
  have Hc := hW.st.cells (cm := bindC (callEnvC fd s.heap.objs.size f).kindOf binds fun _ => none) x.toInCall.keep (Nat.le_refl _) (cs := cellsFrom (s.heap.objs.size + 1) fd.scope.names []) (fun p hp => x.cell p.1 p.2 (hlk _ p hp)) x.apart fun p hp => x.above p.1 p.2 hp
  have hnot : s.heap.objs.size ∉ ((cellLed (bindC (callEnvC fd s.heap.objs.size f).kindOf binds fun _ => none) (cellsFrom (s.heap.objs.size + 1) fd.scope.names []) ++ X).map (·.1)) := fun hm => by
    obtain ⟨q, hq, e⟩ := List.mem_map.mp hm
    rcases List.mem_append.mp hq with hq | hq
    · obtain ⟨q', hq', rfl⟩ := List.mem_map.mp hq
      have := x.above q'.1 q'.2 hq'
      exact absurd this (by have e' : q'.2 = s.heap.objs.size := e; rw [e']; exact Nat.lt_irrefl _)
    · exact hW.st.notin (List.mem_map.mpr ⟨q, hq, e⟩)
  have H1 : St B ((s.heap.objs.size, NsP (bindL (callEnvC fd s.heap.objs.size f).kindOf binds fun _ => none)) :: (cellLed (bindC (callEnvC fd s.heap.objs.size f).kindOf binds fun _ => none) (cellsFrom (s.heap.objs.size + 1) fd.scope.names []) ++ X)) s₁.heap := by
    refine ⟨Hc.sub, fun q hq => ?_, ?_⟩
    · rcases List.mem_cons.mp hq with rfl | hq
      · refine ⟨nsP_of x.toInCall.ns, ?_⟩
        show B.get? s.heap.objs.size = none
        cases eb : B.get? s.heap.objs.size with
        | none => rfl
        | some o => have := hW.st.sub _ _ eb; rw [get_size] at this; cases this
      · exact Hc.xs q hq
    · rw [List.map_cons, List.nodup_cons]; exact ⟨hnot, Hc.nd⟩
  refine wpAny_mono (h s.heap.objs.size s₁ ⟨hW.sm.trans ⟨h₁, tk, e⟩, H1⟩) (fun fl s'' hq => ?_) fun _ _ f => f.elim
  cases fl <;> exact hq
end
end Mine

end

section
open PySem PySem.W PyProof.Rows PySem.SeqAt
set_option Elab.async false
set_option linter.unusedVariables false
namespace Mine

/-- where an expression is met -/
structure Cx where
  prog : Program
  w : World
  A : Around
  env : Env
  s₀ : Shared
  B : Heap
  X : Led

/-- e evaluates, leaving ledger and frozen part as they are, to a value with P -/
def Ev (c : Cx) (e : Expr) (P : Value → Prop) : Prop :=
  ∀ (s : Shared) (Q E : Value → Shared → Prop), W c.s₀ c.B c.X s → (∀ s' v, P v → W c.s₀ c.B c.X s' → Q v s') → wpAny (model c.prog c.w) c.A (eval e c.env) Q E s
/-- .. the frozen part may grow -/
def EvA (c : Cx) (e : Expr) (P : Heap → Value → Prop) : Prop :=
  ∀ (s : Shared) (Q E : Value → Shared → Prop), W c.s₀ c.B c.X s → (∀ s' B' v, Sub c.B B' → P B' v → W c.s₀ B' c.X s' → Q v s') → wpAny (model c.prog c.w) c.A (eval e c.env) Q E s
def EvT (c : Cx) (e : Expr) (b : Bool) : Prop :=
  ∀ (s : Shared) (Q : Bool → Shared → Prop) (E : Value → Shared → Prop), W c.s₀ c.B c.X s → (∀ s', W c.s₀ c.B c.X s' → Q b s') → wpAny (model c.prog c.w) c.A (isTrue e c.env (eval e c.env)) Q E s
/-- truth, the frozen part may grow -/
def EvTA (c : Cx) (e : Expr) (b : Bool) : Prop :=
  ∀ (s : Shared) (Q : Bool → Shared → Prop) (E : Value → Shared → Prop), W c.s₀ c.B c.X s → (∀ s' B', Sub c.B B' → W c.s₀ B' c.X s' → Q b s') → wpAny (model c.prog c.w) c.A (isTrue e c.env (eval e c.env)) Q E s

def IsI (i : Int) (v : Value) : Prop := ∃ t, v = .int i t

variable {c : Cx}
theorem W.tok {s₀ s : Shared} {B : Heap} {X : Led} (h : W s₀ B X s) (n : Nat) : W s₀ B X { s with toks := n } := h.to h.st

theorem Ev.local {m : Str → Option Value} {x : Str} {pos : Pos} {v : Value} (hm : (c.env.locals, NsP m) ∈ c.X) (hv : m x = some v)
    (hk : c.env.scope.kind = .function := by rfl) (hl : c.env.kindOf x = some .local := by rfl) (hd : (x == ("__debug__" : Str)) = false := by decide) : Ev c (.Name x pos) (· = v) :=
  fun s Q E hW h => ev_local hW hm hv (h s v rfl hW) hk hl hd
theorem Ev.cell {x : Str} {pos : Pos} {a : Addr} {v : Value} (hm : (a, CellP (some v)) ∈ c.X)
    (hk : c.env.scope.kind = .function := by rfl) (hl : c.env.kindOf x = some .cell := by rfl) (hc : c.env.cells.lookup x = some a := by rfl) (hd : (x == ("__debug__" : Str)) = false := by decide) : Ev c (.Name x pos) (· = v) :=
  fun s Q E hW h => ev_cell hW hm (h s v rfl hW) hk hl hc hd
theorem Ev.imp {e : Expr} {P P' : Value → Prop} (h : Ev c e P) (hi : ∀ v, P v → P' v) : Ev c e P' := fun s Q E hW k => h s Q E hW fun s' v p w => k s' v (hi v p) w
theorem Ev.a {e : Expr} {P : Value → Prop} (h : Ev c e P) : EvA c e (fun _ => P) := fun s Q E hW k => h s Q E hW fun s' v p w => k s' c.B v (Sub.refl _) p w
theorem Ev.int {i : Int} {k : Nat} {pos : Pos} : Ev c (.Constant (.int i) k pos) (IsI i) := fun s Q E hW h => wpAny_Constant_int (h _ _ ⟨_, rfl⟩ (hW.tok _))
theorem Ev.bin {l r : Expr} {op : Operator} {pos : Pos} {P P' R : Value → Prop} (hl : Ev c l P) (hr : Ev c r P')
    (h : ∀ s (Q E : Value → Shared → Prop) v v', P v → P' v' → W c.s₀ c.B c.X s → (∀ s' v, R v → W c.s₀ c.B c.X s' → Q v s') → wpAny (model c.prog c.w) c.A (binaryOp op v v') Q E s) : Ev c (.BinOp l op r pos) R :=
  fun s Q E hW k => wpAny_BinOp (hl s _ _ hW fun s1 v p W1 => hr s1 _ _ W1 fun s2 v' p' W2 => h s2 Q E v v' p p' W2 k)
theorem Ev.mod {l r : Expr} {pos : Pos} {a b : Int} (hl : Ev c l (IsI a)) (hr : Ev c r (IsI b)) (hb : b ≠ 0) : Ev c (.BinOp l .Mod r pos) (IsI (a.fmod b)) :=
  .bin hl hr fun s Q E v v' ⟨t, e⟩ ⟨t', e'⟩ hW k => by subst e e'; exact mod_int hb (k _ _ ⟨_, rfl⟩ (hW.tok _))
theorem Ev.fdiv {l r : Expr} {pos : Pos} {a b : Int} (hl : Ev c l (IsI a)) (hr : Ev c r (IsI b)) (hb : b ≠ 0) (hs : a.natAbs < 2 ^ 30 ∧ b.natAbs < 2 ^ 30) : Ev c (.BinOp l .FloorDiv r pos) (IsI (a.fdiv b)) :=
  .bin hl hr fun s Q E v v' ⟨t, e⟩ ⟨t', e'⟩ hW k => by subst e e'; exact floordiv_int hb (k _ _ ⟨_, rfl⟩ (hW.tok _)) (.inl (PyProof.noPylong_small (by omega)))
theorem Ev.add {l r : Expr} {pos : Pos} {a b : Int} (hl : Ev c l (IsI a)) (hr : Ev c r (IsI b)) : Ev c (.BinOp l .Add r pos) (IsI (a + b)) :=
  .bin hl hr fun s Q E v v' ⟨t, e⟩ ⟨t', e'⟩ hW k => by subst e e'; exact add_int (k _ _ ⟨_, rfl⟩ (hW.tok _))
theorem not_big : ∀ k ∈ List.range 65, ¬Builtin.Int.intTooBig (((Builtin.Int.intBits 2 : Nat) : Int) * (k : Int)) = true := by decide +kernel
theorem Ev.pow2 {l r : Expr} {pos : Pos} {k : Nat} (hl : Ev c l (IsI 2)) (hr : Ev c r (IsI k)) (hk : k ≤ 64) : Ev c (.BinOp l .Pow r pos) (IsI (2 ^ k)) :=
  .bin hl hr fun s Q E v v' ⟨t, e⟩ ⟨t', e'⟩ hW h => by
    subst e e'
    by_cases h0 : k = 0
    · subst h0; exact PySem.AutoIntOps.pow_0 (by decide) (by decide) (h _ _ ⟨_, rfl⟩ (hW.tok _))
    · refine PySem.AutoIntOps.pow_4 (by omega) (by simpa using h0) (by decide) (by decide) ?_ (h _ _ ⟨_, by simp; rfl⟩ (hW.tok _))
      exact not_big k (List.mem_range.mpr (by omega))

theorem Ev.cmp {l r : Expr} {op : CmpOp} {pos : Pos} {P P' : Value → Prop} {b : Bool} (hl : Ev c l P) (hr : Ev c r P')
    (h : ∀ s (Q E : Value → Shared → Prop) v v', P v → P' v' → W c.s₀ c.B c.X s → (∀ s', W c.s₀ c.B c.X s' → Q (.bool b) s') → wpAny (model c.prog c.w) c.A (compareOp op v v') Q E s)
    (hm : behindInMarks op r = false := by with_unfolding_all rfl) : EvT c (.Compare l [op] [r] pos) b :=
  fun s Q E hW k => wpAny_isTrue_Compare1 (hl s _ _ hW fun s1 v p W1 => hr s1 _ _ W1 fun s2 v' p' W2 => h s2 _ _ v v' p p' W2 fun s3 W3 => wpAny_truthy_bool (k s3 W3)) hm
theorem beq_dec (a b : Int) : (a == b) = decide (a = b) := by by_cases h : a = b <;> simp [h]
theorem Ev.eqI {l r : Expr} {pos : Pos} {a b : Int} (hl : Ev c l (IsI a)) (hr : Ev c r (IsI b)) (hm : behindInMarks .Eq r = false := by with_unfolding_all rfl) : EvT c (.Compare l [.Eq] [r] pos) (decide (a = b)) :=
  Ev.cmp hl hr (fun s Q E v v' ⟨t, e⟩ ⟨t', e'⟩ hW k => by subst e e'; exact cmp_ofEq (wpAny_eq_int (by rw [beq_dec]; exact k s hW))) hm
theorem Ev.neI {l r : Expr} {pos : Pos} {a b : Int} (hl : Ev c l (IsI a)) (hr : Ev c r (IsI b)) (hm : behindInMarks .NotEq r = false := by with_unfolding_all rfl) : EvT c (.Compare l [.NotEq] [r] pos) (!decide (a = b)) :=
  Ev.cmp hl hr (fun s Q E v v' ⟨t, e⟩ ⟨t', e'⟩ hW k => by subst e e'; exact IsLeap.wpAny_ne_int (by rw [bne, beq_dec]; exact k s hW)) hm
theorem Ev.ltI {l r : Expr} {pos : Pos} {a b : Int} (hl : Ev c l (IsI a)) (hr : Ev c r (IsI b)) (hm : behindInMarks .Lt r = false := by with_unfolding_all rfl) : EvT c (.Compare l [.Lt] [r] pos) (decide (a < b)) :=
  Ev.cmp hl hr (fun s Q E v v' ⟨t, e⟩ ⟨t', e'⟩ hW k => by subst e e'; exact wpAny_lt_int (k s hW)) hm
theorem Ev.gtI {l r : Expr} {pos : Pos} {a b : Int} (hl : Ev c l (IsI a)) (hr : Ev c r (IsI b)) (hm : behindInMarks .Gt r = false := by with_unfolding_all rfl) : EvT c (.Compare l [.Gt] [r] pos) (decide (b < a)) :=
  Ev.cmp hl hr (fun s Q E v v' ⟨t, e⟩ ⟨t', e'⟩ hW k => by subst e e'; exact gt_int (k s hW)) hm
theorem Ev.inL {α : Type} [DecidableEq α] {R : Rel α} {d : Nat} (hR : EqOK R d) (hf : Fun R) {l r : Expr} {pos : Pos} {x : α} {a : Addr} {vs : List Value} {xs : List α} (hl : Ev c l (R c.B · x)) (hr : Ev c r (· = .ref a))
    (ha : LAt c.B c.X a vs) (f : F2 (R c.B) vs xs) (hu : c.A.units + (d + 1) < cLine) (hm : behindInMarks .In r = false := by with_unfolding_all rfl) : EvT c (.Compare l [.In] [r] pos) (decide (x ∈ xs)) :=
  Ev.cmp hl hr (fun s Q E v v' p e hW k => by subst e; exact in_list hR hf hW ha f p hu (k s hW)) hm
theorem Ev.notInL {α : Type} [DecidableEq α] {R : Rel α} {d : Nat} (hR : EqOK R d) (hf : Fun R) {l r : Expr} {pos : Pos} {x : α} {a : Addr} {vs : List Value} {xs : List α} (hl : Ev c l (R c.B · x)) (hr : Ev c r (· = .ref a))
    (ha : LAt c.B c.X a vs) (f : F2 (R c.B) vs xs) (hu : c.A.units + (d + 1) < cLine) (hm : behindInMarks .NotIn r = false := by with_unfolding_all rfl) : EvT c (.Compare l [.NotIn] [r] pos) (!decide (x ∈ xs)) :=
  Ev.cmp hl hr (fun s Q E v v' p e hW k => by subst e; exact notIn_list hR hf hW ha f p hu (k s hW)) hm
theorem EvT.and {l r : Expr} {pos : Pos} {b b' : Bool} (hl : EvT c l b) (hr : b = true → EvT c r b') : EvT c (.BoolOp .And [l, r] pos) (b && b') := fun s Q E hW k => by
  refine wpAny_isTrue_BoolOp (wpAny_allTrue_And_cons (hl s _ _ hW fun s1 W1 => ?_))
  cases b with
  | false => exact k s1 W1
  | true => exact wpAny_allTrue_And_cons (hr rfl s1 _ _ W1 fun s2 W2 => by cases b' with | false => exact k s2 W2 | true => exact wpAny_allTrue_And_nil (k s2 W2))
theorem EvT.a {e : Expr} {b : Bool} (h : EvT c e b) : EvTA c e b := fun s Q E hW k => h s Q E hW fun s' w => k s' c.B (Sub.refl _) w

/-- an item of a list, frozen or of the ledger -/
theorem Ev.item {l r : Expr} {pos : Pos} {a : Addr} {vs : List Value} {k : Nat} {v : Value} (hl : Ev c l (· = .ref a)) (hr : Ev c r (IsI k)) (ha : LAt c.B c.X a vs) (hv : vs[k]? = some v) (hk : k < 2 ^ 63)
    (hs : ∀ u, subscripted r false (.ref a) (.int k u) = operate [.ref a, .int k u] (getItem (.ref a) (.int k u)) := by intro _; with_unfolding_all rfl) : Ev c (.Subscript l r pos) (· = v) :=
  fun s Q E hW h => Subscript_ (hl s _ _ hW fun s1 v1 e1 W1 => by
    subst e1
    refine hr s1 _ _ W1 fun s2 v2 ⟨u, e2⟩ W2 => ?_
    subst e2
    have hi := ha.isList W2.st
    exact tail_any hi.typeIs slot_list_getitem.lookup (wpAny_getItem_list hi (by omega) (by omega) (by simpa using hv) (h s2 v rfl W2)) (hs u))
theorem isTup_of {h : Heap} {a : Addr} {its : Array Value} (x : h.IsTuple a its) : IsTup h a its := x
/-- an item of a frozen pair -/
theorem Ev.fst {l r : Expr} {pos : Pos} {a : Addr} {v1 v2 : Value} (hl : Ev c l (· = .ref a)) (hr : Ev c r (IsI 0)) (ha : c.B.IsTuple a #[v1, v2])
    (hs : ∀ u, subscripted r false (.ref a) (.int 0 u) = operate [.ref a, .int 0 u] (getItem (.ref a) (.int 0 u)) := by intro _; with_unfolding_all rfl) : Ev c (.Subscript l r pos) (· = v1) :=
  fun s Q E hW h => Subscript_ (hl s _ _ hW fun s1 w1 e1 W1 => by
    subst e1
    refine hr s1 _ _ W1 fun s2 w2 ⟨u, e2⟩ W2 => ?_
    subst e2
    obtain ⟨o, ho, p⟩ := ha
    exact item_tupleT (l := [v1, v2]) (j := 0) ⟨o, W2.st.sub _ _ ho, p⟩ (by decide) (by decide) rfl rfl (h s2 _ rfl W2) (hs u))
theorem Ev.snd {l r : Expr} {pos : Pos} {a : Addr} {v1 v2 : Value} (hl : Ev c l (· = .ref a)) (hr : Ev c r (IsI 1)) (ha : c.B.IsTuple a #[v1, v2])
    (hs : ∀ u, subscripted r false (.ref a) (.int 1 u) = operate [.ref a, .int 1 u] (getItem (.ref a) (.int 1 u)) := by intro _; with_unfolding_all rfl) : Ev c (.Subscript l r pos) (· = v2) :=
  fun s Q E hW h => Subscript_ (hl s _ _ hW fun s1 w1 e1 W1 => by
    subst e1
    refine hr s1 _ _ W1 fun s2 w2 ⟨u, e2⟩ W2 => ?_
    subst e2
    obtain ⟨o, ho, p⟩ := ha
    exact item_tupleT (l := [v1, v2]) (j := 1) ⟨o, W2.st.sub _ _ ho, p⟩ (by decide) (by decide) rfl rfl (h s2 _ rfl W2) (hs u))

/-- len(xs) -/
theorem Ev.len {K : Frag} {mg mb : Str → Option Value} {l : Expr} {p pos : Pos} {a : Addr} {vs : List Value} (hG : G K mg mb c.B) (hl : Ev c l (· = .ref a)) (ha : LAt c.B c.X a vs) (hz : vs.length < 2 ^ 60)
    (hns : starEach [l] c.env = [(false, eval l c.env)] := by rfl)
    (e : nsIn K mainGlobals "len" = some none := by with_unfolding_all rfl)
    (hg : c.env.globals = mainGlobals := by rfl) (hb : c.env.builtins = builtinsNs := by rfl) (hk : c.env.scope.kind = .function := by rfl) (hx : c.env.kindOf "len" = some .globalImplicit := by rfl) :
    Ev c (.Call (.Name "len" p) [l] [] pos) (IsI vs.length) := fun s Q E hW h => by
  refine wpAny_Call_NameR (ev_builtin hG hW boot_len ?_ e (by decide) hg hb hk hx)
  rw [hns]
  refine Calls.callWith_builtin rfl (Calls.evalArgs_plain (Calls.spliced_cons (hl s _ _ hW fun s1 v1 e1 W1 => Calls.spliced_nil ?_)))
  subst e1
  have hi := ha.isList W1.st
  refine len_list hi (by simp; omega) ?_
  simpa using h _ _ ⟨_, rfl⟩ (W1.tok _)
end Mine

end

section
open PySem PySem.W PyProof.Rows PySem.SeqAt
set_option Elab.async false
set_option linter.unusedVariables false
namespace Mine

def upTo' (n : Nat) : List Int := (List.range n).map fun (i : Nat) => (i : Int)
theorem upTo'_len (n : Nat) : (upTo' n).length = n := by simp [upTo']
theorem upTo'_get {n i : Nat} (h : i < n) : (upTo' n)[i]? = some (i : Int) := by simp [upTo', h]
theorem mem_upTo' {n : Nat} {x : Int} : x ∈ upTo' n ↔ 0 ≤ x ∧ x < n := by
  simp only [upTo', List.mem_map, List.mem_range]
  constructor
  · rintro ⟨i, h, rfl⟩; omega
  · rintro ⟨h, h'⟩; exact ⟨x.toNat, by omega, by omega⟩

section
variable {prog : Program} {w : World} {A : Around} {E : Value → Shared → Prop} {s₀ s : Shared} {B : Heap} {X Y pre post : Led} {env : Env} {K : Frag} {mg mb : Str → Option Value}

/-- iter(range(n)) -/
theorem range_iter {e : Expr} {rp rpos : Pos} {n : Nat} {Kk : Value → Shared → Prop} (hG : G K mg mb B) (hW : W s₀ B X s)
    (he : Ev ⟨prog, w, A, env, s₀, B, X⟩ e (IsI n)) (hn : n < 2 ^ 60)
    (h : ∀ I s', W s₀ B ((I, RIterP (0 : Nat) ((n : Int) - (0 : Nat)) 1) :: X) s' → Kk (.ref I) s')
    (hns : starEach [e] env = [(false, eval e env)] := by rfl) (e0 : nsIn K mainGlobals "range" = some none := by with_unfolding_all rfl)
    (hg : env.globals = mainGlobals := by rfl) (hb : env.builtins = builtinsNs := by rfl) (hk : env.scope.kind = .function := by rfl) (hx : env.kindOf "range" = some .globalImplicit := by rfl) :
    wpAny (model prog w) A (eval (.Call (.Name "range" rp) [e] [] rpos) env) (fun xv s₁ => wpAny (model prog w) A (pyIter xv) Kk E s₁) E s := by
  refine wpAny_Call_NameR (ev_builtin hG hW boot_range ?_ e0 (by decide) hg hb hk hx)
  rw [hns]
  refine PyProof.Rows.callWith_type rfl (Calls.evalArgs_plain (Calls.spliced_cons (he s _ _ hW fun s₁ nv ⟨tN, en⟩ W1 => Calls.spliced_nil ?_)))
  subst en
  refine call_range_1 ?_
  have W2 : W s₀ B X { s₁ with heap := s₁.heap.push { cls := .type "range", data := .fields #[.int 0 s₁.toks, .int n tN, .int 1 (s₁.toks + 1)] }, toks := s₁.toks + 1 + 1 } := W1.to (W1.st.push _)
  refine wpAny_pyIter_range (Heap.get?_push_size _ rfl) (small_one (by decide) (by decide) (by omega) (by omega)) ?_
  have hsz : Builtin.Range.rangeSize 0 n 1 = (n : Int) := by rw [rangeSize_one]; split <;> omega
  refine h _ _ (W2.to (tk := s₁.toks + 1 + 1) (W2.st.new rfl ?_))
  show _ = _
  rw [hsz]
  simp

theorem comp_range_src {β : Type} {RB : Rel β} (p : Int → Bool) (f : Int → β) {elt target : Expr} {ifs : List Expr} {scope : Scope} {cl : List (Str × Addr)} {n : Nat} {e : Expr} {rp rpos : Pos}
    (hh : A.handled = none) (hG : G K mg mb B) (hW : W s₀ B Y s) (he : Ev ⟨prog, w, A, env, s₀, B, Y⟩ e (IsI n)) (mB : Mono RB) (hsz : n ≤ sizeLine) (hn : n < 2 ^ 60) {Fin : Addr → Addr → List Value → Heap → (Str → Option Value) → Shared → Prop}
    (turn : ∀ (x : Int) v B' mc Cn Z s', x ∈ upTo' n → Sub B B' → RInt B' v x → W s₀ B' ((Cn, NsP mc) :: (Z ++ Y)) s' → CTurn prog w A s₀ (compEnvC scope cl Cn env) target elt ifs (Z ++ Y) RB p f B' v x s')
    (fin : ∀ D Cn us B' mc s', Sub B B' → F2 (RB B') us (((upTo' n).filter p).map f) → W s₀ B' ((Cn, NsP mc) :: (D, LsP us) :: Y) s' → Fin D Cn us B' mc s')
    (hns : starEach [e] env = [(false, eval e env)]) (e0 : nsIn K mainGlobals "range" = some none)
    (hg : env.globals = mainGlobals) (hb : env.builtins = builtinsNs) (hk : env.scope.kind = .function) (hx : env.kindOf "range" = some .globalImplicit) :
    wpAny (model prog w) A (eval (.Call (.Name "range" rp) [e] [] rpos) env) (fun xv s₁ => wpAny (model prog w) A (pyIter xv) (fun itv s₂ => ∃ I n P C R B Y, ∃ J : Nat → List Value → Heap → Prop, itv = .ref I ∧ It prog w A I n P C R ∧
      (∀ B' h, Sub B B' → St B' Y h → R h) ∧ n ≤ sizeLine ∧ W s₀ B ((I, C 0) :: Y) s₂ ∧ J 0 [] B ∧
      (∀ i v us B' mc Cn D s', i < n → P i v → Sub B B' → J i us B' → W s₀ B' ((Cn, NsP mc) :: (I, C (i + 1)) :: (D, LsP us) :: Y) s' →
        wpAny (model prog w) A (assign target (compEnvC scope cl Cn env) v) (fun _ s₂ => wpAny (model prog w) A (testsOf ifs (compEnvC scope cl Cn env)) (fun ok s₃ =>
          if ok = true then wpAny (model prog w) A (eval elt (compEnvC scope cl Cn env)) (fun u s₄ => ∃ B'' mc', Sub B' B'' ∧ J (i + 1) (us ++ [u]) B'' ∧ W s₀ B'' ((Cn, NsP mc') :: (I, C (i + 1)) :: (D, LsP us) :: Y) s₄) NoE s₃
          else ∃ B'' mc', Sub B' B'' ∧ J (i + 1) us B'' ∧ W s₀ B'' ((Cn, NsP mc') :: (I, C (i + 1)) :: (D, LsP us) :: Y) s₃) NoE s₂) NoE s') ∧
      (∀ D Cn us B' mc s', us.length ≤ n → Sub B B' → J n us B' → W s₀ B' ((Cn, NsP mc) :: (D, LsP us) :: Y) s' → Fin D Cn us B' mc s')) E s₁) E s := by
  refine range_iter hG hW he hn (fun I s' hW' => ?_) hns e0 hg hb hk hx
  refine ⟨_, n, _, _, _, B, Y, (fun i us B' => F2 (RB B') us ((((upTo' n).take i).filter p).map f)), rfl, it_range hh _ n, (fun _ _ _ _ => trivial), hsz, hW', by simpa using F2.nil, ?_, ?_⟩
  · intro i v us B' mc Cn D s' hi ⟨t, hP⟩ hsub hJ hW'
    have ex := upTo'_get hi
    refine wpAny_mono (turn i v B' mc Cn [(I, _), (D, LsP us)] s' (List.mem_of_getElem? ex) hsub ⟨t, hP⟩ hW') (fun _ s₂ h₂ => wpAny_mono h₂ (fun ok s₃ h₃ => ?_) fun _ _ f => f) fun _ _ f => f
    obtain ⟨rfl, h₃⟩ := h₃
    split at h₃
    · rename_i hp
      rw [if_pos hp]
      refine wpAny_mono h₃ (fun u s₄ h₄ => ?_) fun _ _ f => f
      obtain ⟨B'', mc', hs, hr, hW''⟩ := h₄
      refine ⟨B'', mc', hs, ?_, hW''⟩
      show F2 _ _ _
      rw [filter_snoc _ _ _ ex, if_pos hp]
      exact (hJ.mono mB hs).append (.cons hr .nil)
    · rename_i hp
      rw [if_neg hp]
      obtain ⟨B'', mc', hs, hW''⟩ := h₃
      refine ⟨B'', mc', hs, ?_, hW''⟩
      show F2 _ _ _
      rw [filter_snoc _ _ _ ex, if_neg hp, List.append_nil]
      exact hJ.mono mB hs
  · intro D Cn us B' mc s' _ hsub hJ hW'
    refine fin D Cn us B' mc s' hsub ?_ hW'
    have e : (upTo' n).take n = upTo' n := List.take_of_length_le (Nat.le_of_eq (upTo'_len n))
    rwa [e] at hJ

theorem ev_comp_range {β : Type} {RB : Rel β} (p : Int → Bool) (f : Int → β) {elt target : Expr} {ifs : List Expr} {scope : Scope} {cl : List (Str × Addr)} {pos : Pos} {n : Nat} {e : Expr} {rp rpos : Pos} {Q : Value → Shared → Prop}
    (hh : A.handled = none) (hG : G K mg mb B) (hW : W s₀ B Y s) (he : Ev ⟨prog, w, A, env, s₀, B, Y⟩ e (IsI n)) (mB : Mono RB) (hsz : n ≤ sizeLine) (hn : n < 2 ^ 60)
    (turn : ∀ (x : Int) v B' mc Cn Z s', x ∈ upTo' n → Sub B B' → RInt B' v x → W s₀ B' ((Cn, NsP mc) :: (Z ++ Y)) s' → CTurn prog w A s₀ (compEnvC scope cl Cn env) target elt ifs (Z ++ Y) RB p f B' v x s')
    (fin : ∀ D us B' s', Sub B B' → F2 (RB B') us (((upTo' n).filter p).map f) → W s₀ B' ((D, LsP us) :: Y) s' → Q (.ref D) s')
    (hclos : closureFor scope env = pure cl := by rfl) (hcell : ∀ y ∈ scope.names, y.2 ≠ .cell := by decide) (hkind : scope.kind = .function := by rfl)
    (hnames : ∀ y ∈ scope.names, y.2 = .local → scope.names.lookup y.1 = some .local := by decide)
    (hns : starEach [e] env = [(false, eval e env)] := by rfl) (e0 : nsIn K mainGlobals "range" = some none := by with_unfolding_all rfl)
    (hg : env.globals = mainGlobals := by rfl) (hb : env.builtins = builtinsNs := by rfl) (hk : env.scope.kind = .function := by rfl) (hx : env.kindOf "range" = some .globalImplicit := by rfl)
    (hs : ∀ x, foldedSetIterable (.Call (.Name "range" rp) [e] [] rpos) env x = pure x := by intro _; rfl) :
    wpAny (model prog w) A (eval (.ListComp elt [⟨target, .Call (.Name "range" rp) [e] [] rpos, ifs, 0⟩] scope pos) env) Q E s := by
  refine ev_comp_it (s₀ := s₀) hclos hcell hkind hnames ?_ hs
  exact comp_range_src (Fin := fun D Cn us B' mc s' => ∀ h', Heap.SameBut Cn s'.heap h' → Q (.ref D) { s' with heap := h' }) p f hh hG hW he mB hsz hn turn
    (fun D Cn us B' mc s' hsub hf hW' h' hs' => fin D us B' _ hsub hf (hW'.to (tk := s'.toks) (hW'.st.extBut hs'.extBut))) hns e0 hg hb hk hx

theorem as_comp_range {β : Type} {RB : Rel β} (p : Int → Bool) (f : Int → β) {elt target : Expr} {ifs : List Expr} {scope : Scope} {cl : List (Str × Addr)} {pos py spos : Pos} {y : Str} {n : Nat} {e : Expr} {rp rpos : Pos} {m : Str → Option Value} {Q : Flow → Shared → Prop}
    (hh : A.handled = none) (pre : Led) (hG : G K mg mb B) (hW : W s₀ B (pre ++ (env.locals, NsP m) :: post) s) (he : Ev ⟨prog, w, A, env, s₀, B, pre ++ (env.locals, NsP m) :: post⟩ e (IsI n)) (mB : Mono RB) (hsz : n ≤ sizeLine) (hn : n < 2 ^ 60)
    (turn : ∀ (x : Int) v B' mc Cn Z s', x ∈ upTo' n → Sub B B' → RInt B' v x → W s₀ B' ((Cn, NsP mc) :: (Z ++ (pre ++ (env.locals, NsP m) :: post))) s' → CTurn prog w A s₀ (compEnvC scope cl Cn env) target elt ifs (Z ++ (pre ++ (env.locals, NsP m) :: post)) RB p f B' v x s')
    (fin : ∀ D us B' s', Sub B B' → F2 (RB B') us (((upTo' n).filter p).map f) → W s₀ B' ((D, LsP us) :: (pre ++ (env.locals, NsP (up m y (.ref D))) :: post)) s' → Q .next s')
    (hsw : swapsWith (.ListComp elt [⟨target, .Call (.Name "range" rp) [e] [] rpos, ifs, 0⟩] scope pos) (some (.Name y py)) spos.line env = pure true := by rfl)
    (hclos : closureFor scope env = pure cl := by rfl) (hcell : ∀ y ∈ scope.names, y.2 ≠ .cell := by decide) (hkind : scope.kind = .function := by rfl)
    (hnames : ∀ y ∈ scope.names, y.2 = .local → scope.names.lookup y.1 = some .local := by decide)
    (hns : starEach [e] env = [(false, eval e env)] := by rfl) (e0 : nsIn K mainGlobals "range" = some none := by with_unfolding_all rfl)
    (hg : env.globals = mainGlobals := by rfl) (hb : env.builtins = builtinsNs := by rfl) (hk : env.scope.kind = .function := by rfl) (hx : env.kindOf "range" = some .globalImplicit := by rfl)
    (hy : env.kindOf y = some .local := by rfl)
    (hs : ∀ x, foldedSetIterable (.Call (.Name "range" rp) [e] [] rpos) env x = pure x := by intro _; rfl) :
    wpAny (model prog w) A (exec (.Assign [.Name y py] (.ListComp elt [⟨target, .Call (.Name "range" rp) [e] [] rpos, ifs, 0⟩] scope pos) spos) env) Q E s := by
  refine as_comp_it (s₀ := s₀) hsw hclos hcell hkind hnames ?_ hs
  refine comp_range_src p f hh hG hW he mB hsz hn turn (fun D Cn us B' mc s' hsub hf hW' => ?_) hns e0 hg hb hk hx
  refine st_local (m := m) ((Cn, NsP mc) :: (D, LsP us) :: pre) hW' (fun s'' hW'' => ⟨B', mc, _, hW'', fun s3 hW3 => fin D us B' s3 hsub hf hW3⟩) hy hk

theorem for_range {n : Nat} {target e : Expr} {rp rpos pos : Pos} {body : List Stmt} {Q : Flow → Shared → Prop} (hh : A.handled = none) (hG : G K mg mb B) (hW : W s₀ B X s) (he : Ev ⟨prog, w, A, env, s₀, B, X⟩ e (IsI n)) (hn : n < 2 ^ 60)
    (J : Nat → Heap → Led → Prop) (h0 : J 0 B X)
    (turn : ∀ i v I As B' X' s', i < n → IsI i v → Sub B B' → J i B' X' → W s₀ B' ((I, As) :: X') s' →
      wpAny (model prog w) A (assign target env v) (fun _ s₂ => wpAny (model prog w) A (execs body env) (fun f s₃ => match f with
        | .next | .cont => ∃ B'' X'', Sub B' B'' ∧ J (i + 1) B'' X'' ∧ W s₀ B'' ((I, As) :: X'') s₃
        | .brk => Q .next s₃
        | .ret v => Q (.ret v) s₃) NoE s₂) NoE s')
    (fin : ∀ B' X' s', Sub B B' → J n B' X' → W s₀ B' X' s' → Q .next s')
    (hns : starEach [e] env = [(false, eval e env)] := by rfl) (e0 : nsIn K mainGlobals "range" = some none := by with_unfolding_all rfl)
    (hg : env.globals = mainGlobals := by rfl) (hb : env.builtins = builtinsNs := by rfl) (hk : env.scope.kind = .function := by rfl) (hx : env.kindOf "range" = some .globalImplicit := by rfl)
    (hs : ∀ x, foldedSetIterable (.Call (.Name "range" rp) [e] [] rpos) env x = pure x := by intro _; rfl) :
    wpAny (model prog w) A (exec (.For target (.Call (.Name "range" rp) [e] [] rpos) body [] pos) env) Q E s := by
  refine wpAny_For (range_iter hG hW he hn (fun I s' hW' => ?_) hns e0 hg hb hk hx) hs
  exact for_it (it_range hh I n) J (fun _ _ _ _ _ _ _ => trivial) hW' h0 (fun i v B' X' s' hi hP hsub hJ hW'' => turn i v I _ B' X' s' hi hP hsub hJ hW'') fin
end
end Mine

end

section
open PySem PySem.W PyProof.Rows
set_option Elab.async false
set_option linter.unusedVariables false
namespace Mine

def run {α : Type} (lt : Nat → Nat → Bool) : KasT α → α
  | .ret a => a
  | .ask i j k => run lt (k (lt i j))
theorem run_bind {α β : Type} (lt : Nat → Nat → Bool) (f : α → KasT β) : ∀ t : KasT α, run lt (t.bind f) = run lt (f (run lt t))
  | .ret _ => rfl
  | .ask i j k => run_bind lt f (k (lt i j))

def gt' (p : Array Nat) (i : Nat) : Nat := p.getD i 0
structure Tot (lt : Nat → Nat → Bool) (n : Nat) : Prop where
  irr : ∀ i, i < n → lt i i = false
  tr : ∀ i j k, i < n → j < n → k < n → lt i j = true → lt j k = true → lt i k = true
  tot : ∀ i j, i < n → j < n → i ≠ j → lt i j = false → lt j i = true
structure Good (n : Nat) (p : Array Nat) : Prop where
  size : p.size = n
  perm : p.toList.Perm (List.range n)
theorem Good.lt {n : Nat} {p : Array Nat} (h : Good n p) {i : Nat} (hi : i < n) : gt' p i < n := by
  have hi' : i < p.size := by rw [h.size]; exact hi
  have e : gt' p i = p[i] := by simp [gt', hi']
  rw [e]
  exact List.mem_range.mp (h.perm.mem_iff.mp (by simp))
theorem Good.inj {n : Nat} {p : Array Nat} (h : Good n p) {i j : Nat} (hi : i < n) (hj : j < n) (e : gt' p i = gt' p j) : i = j := by
  have hi' : i < p.size := by rw [h.size]; exact hi
  have hj' : j < p.size := by rw [h.size]; exact hj
  have nd : p.toList.Nodup := h.perm.nodup_iff.mpr List.nodup_range
  have e' : p.toList[i]'(by simpa using hi') = p.toList[j]'(by simpa using hj') := by simpa [gt', hi', hj'] using e
  exact (List.getElem_inj (h₀ := by simpa using hi') (h₁ := by simpa using hj') nd).mp e'

section
variable {lt : Nat → Nat → Bool} {n : Nat} (T : Tot lt n)
def Asc (lt : Nat → Nat → Bool) (p : Array Nat) (k : Nat) : Prop := ∀ i, i + 1 < k → lt (gt' p i) (gt' p (i + 1)) = true
def Desc (lt : Nat → Nat → Bool) (p : Array Nat) (k : Nat) : Prop := ∀ i, i + 1 < k → lt (gt' p (i + 1)) (gt' p i) = true
include T
theorem Asc.pair {p : Array Nat} (g : Good n p) {k : Nat} (h : Asc lt p k) (hk : k ≤ n) : ∀ d i, i + d + 1 < k → lt (gt' p i) (gt' p (i + d + 1)) = true
  | 0, i, hi => h i hi
  | d + 1, i, hi => T.tr _ _ _ (g.lt (by omega)) (g.lt (i := i + d + 1) (by omega)) (g.lt (by omega)) (Asc.pair g h hk d i (by omega)) (by have := h (i + d + 1) (by omega); rwa [show i + (d + 1) + 1 = i + d + 1 + 1 by omega])
theorem Asc.lt' {p : Array Nat} (g : Good n p) {k : Nat} (h : Asc lt p k) (hk : k ≤ n) {i j : Nat} (hij : i < j) (hj : j < k) : lt (gt' p i) (gt' p j) = true := by
  have := Asc.pair T g h hk (j - i - 1) i (by omega); rwa [show i + (j - i - 1) + 1 = j by omega] at this
theorem run_asc {p : Array Nat} (g : Good n p) : ∀ f m, 1 ≤ m → m + f ≤ n → Asc lt p m →
    m ≤ run lt (kas_asc p f m) ∧ run lt (kas_asc p f m) ≤ m + f ∧ Asc lt p (run lt (kas_asc p f m)) ∧ (run lt (kas_asc p f m) < m + f → lt (gt' p (run lt (kas_asc p f m))) (gt' p (run lt (kas_asc p f m) - 1)) = true)
  | 0, m, h1, hn, ha => ⟨Nat.le_refl _, Nat.le_refl _, ha, fun h => absurd h (Nat.lt_irrefl _)⟩
  | f + 1, m, h1, hn, ha => by
    have e : run lt (kas_asc p (f + 1) m) = if lt (gt' p m) (gt' p (m - 1)) = true then m else run lt (kas_asc p f (m + 1)) := by
      show run lt (if lt (p.getD m 0) (p.getD (m - 1) 0) = true then KasT.ret m else kas_asc p f (m + 1)) = _
      by_cases hc : lt (p.getD m 0) (p.getD (m - 1) 0) = true
      · rw [if_pos hc, if_pos (show lt (gt' p m) (gt' p (m - 1)) = true from hc)]; rfl
      · rw [if_neg hc, if_neg (show ¬lt (gt' p m) (gt' p (m - 1)) = true from hc)]
    by_cases hc : lt (gt' p m) (gt' p (m - 1)) = true
    · rw [e, if_pos hc]; exact ⟨Nat.le_refl _, by omega, ha, fun _ => hc⟩
    · rw [e, if_neg hc]
      have h2 : lt (gt' p (m - 1)) (gt' p m) = true := T.tot _ _ (g.lt (by omega)) (g.lt (by omega)) (fun q => by have := g.inj (by omega) (by omega) q; omega) (by simpa using hc)
      have ha' : Asc lt p (m + 1) := fun i hi => by
        by_cases hm : i + 1 < m
        · exact ha i hm
        · have : i = m - 1 := by omega
          subst this
          rwa [show m - 1 + 1 = m by omega]
      obtain ⟨a, b, c, d⟩ := run_asc g f (m + 1) (by omega) (by omega) ha'
      exact ⟨by omega, by omega, c, fun h => d (by omega)⟩
theorem run_desc {p : Array Nat} (g : Good n p) : ∀ f m, 1 ≤ m → m + f ≤ n → Desc lt p m → ∃ r, run lt (kas_desc f p m 0) = (p, r, 0) ∧ m ≤ r ∧ r ≤ m + f ∧ Desc lt p r
  | 0, m, h1, hn, ha => ⟨m, rfl, Nat.le_refl _, Nat.le_refl _, ha⟩
  | f + 1, m, h1, hn, ha => by
    have e : run lt (kas_desc (f + 1) p m 0) = if lt (gt' p m) (gt' p (m - 1)) = true then run lt (kas_desc f p (m + 1) 0) else if lt (gt' p (m - 1)) (gt' p m) = true then (p, m, 0) else run lt (kas_desc f p (m + 1) 1) := by
      show run lt (if lt (p.getD m 0) (p.getD (m - 1) 0) = true then (if 0 > 0 then kas_desc f (kas_rev p (m - (0 + 1)) m) (m + 1) 0 else kas_desc f p (m + 1) 0)
        else .ask (p.getD (m - 1) 0) (p.getD m 0) fun d => if d = true then .ret (p, m, 0) else kas_desc f p (m + 1) (0 + 1)) = _
      by_cases hc : lt (p.getD m 0) (p.getD (m - 1) 0) = true
      · rw [if_pos hc, if_pos (show lt (gt' p m) (gt' p (m - 1)) = true from hc)]; rfl
      · rw [if_neg hc, if_neg (show ¬lt (gt' p m) (gt' p (m - 1)) = true from hc)]
        show run lt (if lt (p.getD (m - 1) 0) (p.getD m 0) = true then .ret (p, m, 0) else kas_desc f p (m + 1) (0 + 1)) = _
        by_cases hd : lt (p.getD (m - 1) 0) (p.getD m 0) = true
        · rw [if_pos hd, if_pos (show lt (gt' p (m - 1)) (gt' p m) = true from hd)]; rfl
        · rw [if_neg hd, if_neg (show ¬lt (gt' p (m - 1)) (gt' p m) = true from hd)]
    by_cases hc : lt (gt' p m) (gt' p (m - 1)) = true
    · rw [e, if_pos hc]
      have ha' : Desc lt p (m + 1) := fun i hi => by
        by_cases hm : i + 1 < m
        · exact ha i hm
        · have : i = m - 1 := by omega
          subst this
          rwa [show m - 1 + 1 = m by omega]
      obtain ⟨r, a, b, c, d⟩ := run_desc g f (m + 1) (by omega) (by omega) ha'
      exact ⟨r, a, by omega, by omega, d⟩
    · have h2 : lt (gt' p (m - 1)) (gt' p m) = true := T.tot _ _ (g.lt (by omega)) (g.lt (by omega)) (fun q => by have := g.inj (by omega) (by omega) q; omega) (by simpa using hc)
      rw [e, if_neg hc, if_pos h2]
      exact ⟨m, rfl, Nat.le_refl _, by omega, ha⟩
omit T in
theorem gt_rev {p : Array Nat} (g : Good n p) {m : Nat} (hm : m ≤ n) (k : Nat) : gt' (kas_rev p 0 m) k = if k < m then gt' p (m - 1 - k) else gt' p k := by
  have e := getElem?_mirror_all (xs := p) (i := 0) (j := m) (by rw [g.size]; exact hm) k
  unfold gt' kas_rev
  rw [Array.getD_eq_getD_getElem?, e]
  by_cases h : k < m
  · rw [if_pos ⟨Nat.zero_le _, h⟩, if_pos h, Array.getD_eq_getD_getElem?]; congr 2; omega
  · rw [if_neg (by omega), if_neg h, Array.getD_eq_getD_getElem?]
omit T in
theorem good_rev {p : Array Nat} (g : Good n p) (m : Nat) : Good n (kas_rev p 0 m) :=
  ⟨(mirror_size ..).trans g.size, (Array.perm_iff_toList_perm.mp (mirror_perm p 0 m ((m - 0) / 2))).trans g.perm⟩
theorem run_tail3 {p : Array Nat} (g : Good n p) {m : Nat} (h1 : 1 ≤ m) (hm : m ≤ n) (hd : Desc lt p m) :
    ∃ k p', run lt (kas_tail3 m n p) = (k, p') ∧ 1 ≤ k ∧ k ≤ n ∧ Good n p' ∧ Asc lt p' k := by
  have g' := good_rev g m
  have ha : Asc lt (kas_rev p 0 m) m := fun i hi => by
    rw [gt_rev g hm, gt_rev g hm, if_pos (by omega), if_pos (by omega)]
    have := hd (m - 1 - (i + 1)) (by omega)
    rwa [show m - 1 - (i + 1) + 1 = m - 1 - i by omega] at this
  obtain ⟨a, b, c, d⟩ := run_asc T g' (n - m) m h1 (by omega) ha
  refine ⟨run lt (kas_asc (kas_rev p 0 m) (n - m) m), kas_rev p 0 m, ?_, by omega, by omega, g', c⟩
  unfold kas_tail3; rw [run_bind]; rfl
theorem run_count {p : Array Nat} (g : Good n p) (hn : 1 ≤ n) : ∃ k p', run lt (kas_count n p) = (k, p') ∧ 1 ≤ k ∧ k ≤ n ∧ Good n p' ∧ Asc lt p' k := by
  obtain ⟨a, b, c, d⟩ := run_asc T g (n - 1) 1 (Nat.le_refl _) (by omega) (fun i hi => absurd hi (by omega))
  unfold kas_count
  rw [run_bind]
  generalize run lt (kas_asc p (n - 1) 1) = r at a b c d
  by_cases h1 : r = n
  · subst h1; exact ⟨r, p, by simp [run], by omega, Nat.le_refl _, g, c⟩
  · rw [if_neg (by simpa using h1)]
    by_cases h2 : r > 1
    · rw [if_pos h2]
      have hl : lt (p.getD 0 0) (p.getD (r - 1) 0) = true := Asc.lt' T g c (by omega) (i := 0) (j := r - 1) (by omega) (by omega)
      refine ⟨r, p, ?_, by omega, by omega, g, c⟩
      show run lt (if lt (p.getD 0 0) (p.getD (r - 1) 0) = true then KasT.ret (r, p) else kas_descPart r n (kas_rev p 0 r)) = _
      rw [if_pos hl]; rfl
    · rw [if_neg h2]
      have hr : r = 1 := by omega
      subst hr
      have hd : Desc lt p 2 := fun i hi => by
        have h0 : i = 0 := by omega
        subst h0
        exact d (by omega)
      obtain ⟨q, e, h3, h4, h5⟩ := run_desc T g (n - (1 + 1)) 2 (by omega) (by omega) hd
      unfold kas_descPart
      rw [run_bind, show run lt (kas_desc (n - (1 + 1)) p (1 + 1) 0) = (p, q, 0) from e]
      exact run_tail3 T g (m := q) (by omega) (by omega) h5
theorem run_place {p : Array Nat} (g : Good n p) {k : Nat} (hk : k < n) (ha : Asc lt p k) : ∀ f l r, l ≤ r → r ≤ k → r - l ≤ f → (∀ i, i < l → lt (gt' p i) (gt' p k) = true) → (∀ i, r ≤ i → i < k → lt (gt' p k) (gt' p i) = true) →
    run lt (kas_place p k f l r) ≤ k ∧ (∀ i, i < run lt (kas_place p k f l r) → lt (gt' p i) (gt' p k) = true) ∧ (∀ i, run lt (kas_place p k f l r) ≤ i → i < k → lt (gt' p k) (gt' p i) = true)
  | 0, l, r, hlr, hrk, hf, h1, h2 => by
    have : l = r := by omega
    subst this
    exact ⟨hrk, h1, h2⟩
  | f + 1, l, r, hlr, hrk, hf, h1, h2 => by
    unfold kas_place
    by_cases hge : l ≥ r
    · rw [if_pos hge]
      have : l = r := by omega
      subst this
      exact ⟨hrk, h1, h2⟩
    · rw [if_neg hge]
      have hmid : (l + r) / 2 < r := by omega
      have hmid' : l ≤ (l + r) / 2 := by omega
      show run lt (if lt (gt' p k) (gt' p ((l + r) / 2)) = true then kas_place p k f l ((l + r) / 2) else kas_place p k f ((l + r) / 2 + 1) r) ≤ k ∧ _
      have key : ∀ t, t = (if lt (gt' p k) (gt' p ((l + r) / 2)) = true then kas_place p k f l ((l + r) / 2) else kas_place p k f ((l + r) / 2 + 1) r) →
        run lt t ≤ k ∧ (∀ i, i < run lt t → lt (gt' p i) (gt' p k) = true) ∧ (∀ i, run lt t ≤ i → i < k → lt (gt' p k) (gt' p i) = true) := by
        intro t ht
        by_cases hc : lt (gt' p k) (gt' p ((l + r) / 2)) = true
        · rw [if_pos hc] at ht; subst ht
          refine run_place g hk ha f l ((l + r) / 2) hmid' (by omega) (by omega) h1 fun i hi hik => ?_
          by_cases he : i = (l + r) / 2
          · subst he; exact hc
          · exact T.tr _ _ _ (g.lt hk) (g.lt (i := (l + r) / 2) (by omega)) (g.lt (by omega)) hc (Asc.lt' T g ha (by omega) (by omega) hik)
        · rw [if_neg hc] at ht; subst ht
          have h3 : lt (gt' p ((l + r) / 2)) (gt' p k) = true := T.tot _ _ (g.lt hk) (g.lt (by omega)) (fun q => by have := g.inj (by omega) (by omega) q; omega) (by simpa using hc)
          refine run_place g hk ha f ((l + r) / 2 + 1) r (by omega) hrk (by omega) (fun i hi => ?_) h2
          by_cases he : i = (l + r) / 2
          · subst he; exact h3
          · exact T.tr _ _ _ (g.lt (by omega)) (g.lt (i := (l + r) / 2) (by omega)) (g.lt hk) (Asc.lt' T g ha (by omega) (by omega) (by omega)) h3
      exact key _ rfl
omit T in
theorem gt_bubble {p : Array Nat} (g : Good n p) {k l : Nat} (hk : k < n) (hl : l ≤ k) (i : Nat) : gt' (bubble p k (k - l)) i = if i = l then gt' p k else if l < i ∧ i ≤ k then gt' p (i - 1) else gt' p i := by
  have e := getElem?_bubble (xs := p) (src := k) (by rw [g.size]; exact hk) (k - l) (by omega) i
  rw [show k - (k - l) = l by omega] at e
  unfold gt'
  rw [Array.getD_eq_getD_getElem?, e]
  split
  · rw [Array.getD_eq_getD_getElem?]
  · split <;> rw [Array.getD_eq_getD_getElem?]
theorem run_bin : ∀ f k (p : Array Nat), Good n p → k + f = n → Asc lt p k → Good n (run lt (kas_bin f p k)) ∧ Asc lt (run lt (kas_bin f p k)) n
  | 0, k, p, g, hk, ha => by have : k = n := by omega
                             subst this; exact ⟨g, ha⟩
  | f + 1, k, p, g, hk, ha => by
    unfold kas_bin
    rw [run_bind]
    obtain ⟨a, b, c⟩ := run_place T g (k := k) (by omega) ha k 0 k (Nat.zero_le _) (Nat.le_refl _) (by omega) (fun i hi => absurd hi (by omega)) (fun i hi hi' => absurd hi' (by omega))
    generalize run lt (kas_place p k k 0 k) = l at a b c
    refine run_bin f (k + 1) _ ⟨(bubble_size ..).trans g.size, (Array.perm_iff_toList_perm.mp (bubble_perm ..)).trans g.perm⟩ (by omega) fun i hi => ?_
    rw [gt_bubble g (by omega) a, gt_bubble g (by omega) a]
    by_cases h1 : i = l
    · subst h1
      rw [if_pos rfl, if_neg (by omega)]
      rw [if_pos ⟨by omega, by omega⟩]
      exact c i (Nat.le_refl _) (by omega)
    · rw [if_neg h1]
      by_cases h2 : i + 1 = l
      · rw [if_pos h2, if_neg (by omega)]; exact b i (by omega)
      · rw [if_neg h2]
        by_cases h3 : l < i
        · rw [if_pos ⟨h3, by omega⟩, if_pos ⟨by omega, by omega⟩]
          have := ha (i - 1) (by omega)
          rwa [show i + 1 - 1 = i - 1 + 1 by omega]
        · rw [if_neg (by omega), if_neg (by omega)]; exact ha i (by omega)
theorem run_sort (hn : 1 ≤ n) : Good n (run lt (kas_sort n)) ∧ ∀ i j, i < j → j < n → lt (gt' (run lt (kas_sort n)) i) (gt' (run lt (kas_sort n)) j) = true := by
  have g0 : Good n (List.toArray (List.range n)) := ⟨by simp, by simp⟩
  obtain ⟨k, p, e, h1, h2, g, ha⟩ := run_count T g0 hn
  have key : Good n (run lt (kas_sort n)) ∧ Asc lt (run lt (kas_sort n)) n := by
    unfold kas_sort
    rw [run_bind, e]
    dsimp only
    by_cases hk : k < n
    · rw [if_pos hk, show max k 1 = k by omega]
      exact run_bin T _ k p g (by omega) ha
    · rw [if_neg hk]
      have : k = n := by omega
      subst this; exact ⟨g, ha⟩
  exact ⟨key.1, fun i j hij hj => Asc.lt' T key.1 key.2 (Nat.le_refl _) hij hj⟩
end
end Mine

end

section
open PySem PySem.W PyProof.Rows PySem.SeqAt
open AutoSeq1 (wpAny_loadPart')
open MeetsSeq MeetsSeq2 MeetsSeq3 SeqRoads2
set_option Elab.async false
set_option linter.unusedVariables false
namespace Mine

def lexLt : List Int → List Int → Bool
  | [], [] => false
  | [], _ :: _ => true
  | _ :: _, [] => false
  | a :: r, b :: q => if a = b then lexLt r q else decide (a < b)
theorem lex_irr : ∀ a, lexLt a a = false
  | [] => rfl
  | a :: r => by simp [lexLt, lex_irr r]
theorem lex_tr : ∀ a b c, lexLt a b = true → lexLt b c = true → lexLt a c = true
  | [], [], _, h, _ => by simp [lexLt] at h
  | [], _ :: _, [], _, h => by simp [lexLt] at h
  | [], _ :: _, _ :: _, _, _ => rfl
  | _ :: _, [], _, h, _ => by simp [lexLt] at h
  | _ :: _, _ :: _, [], _, h => by simp [lexLt] at h
  | a :: r, b :: q, c :: t, h, h' => by
    simp only [lexLt] at h h' ⊢
    by_cases e : a = b
    · subst e
      rw [if_pos rfl] at h
      by_cases e' : a = c
      · subst e'; rw [if_pos rfl] at h' ⊢; exact lex_tr r q t h h'
      · rw [if_neg e'] at h' ⊢; exact h'
    · rw [if_neg e] at h
      by_cases e' : b = c
      · subst e'; rw [if_neg e]; exact h
      · rw [if_neg e'] at h'
        have h1 := of_decide_eq_true h; have h2 := of_decide_eq_true h'
        rw [if_neg (by omega)]; exact decide_eq_true (by omega)
theorem lex_tot : ∀ a b, a ≠ b → lexLt a b = false → lexLt b a = true
  | [], [], h, _ => absurd rfl h
  | [], _ :: _, _, h => by simp [lexLt] at h
  | _ :: _, [], _, _ => rfl
  | a :: r, b :: q, h, h' => by
    simp only [lexLt] at h' ⊢
    by_cases e : a = b
    · subst e
      rw [if_pos rfl] at h' ⊢
      exact lex_tot r q (fun z => h (by rw [z])) h'
    · rw [if_neg e] at h'
      rw [if_neg (Ne.symm e)]
      have := of_decide_eq_false h'
      exact decide_eq_true (by omega)

theorem lt_loop (l b : Addr) (vs ws : List Value) (ns ms : List Int) (n n2 : Nat) (f : F2 (fun v i => ∃ t, v = .int i t) vs ns) (g : F2 (fun v i => ∃ t, v = .int i t) ws ms) (k : Nat) :
    ∀ i : Nat, vs.length - i = k → i ≤ vs.length → i ≤ ws.length → Meets (Builtin.«list.__eq__.loop» ⟨[.ref l, .ref b, rawInt i, rawInt 0], []⟩)
      (fun A R s => s.heap.get? l = some { cls := .type "list", data := .seq vs.toArray n } ∧ s.heap.get? b = some { cls := .type "list", data := .seq ws.toArray n2 } ∧
        R (.ok (.ret (.bool (lexLt (ns.drop i) (ms.drop i))))) s) := by
  have l1 := f.length; have l2 := g.length
  induction k with
  | zero =>
    intro i hk hi hj prog w A R s h
    obtain ⟨hp, gg, d, tk, os⟩ := s; obtain ⟨hl, hb, h⟩ := h
    wp_walk using wpAny_loadPart' hl, wpAny_loadPart' hb
    have hi1 : vs.toArray[((i : Nat) : Int).toNat]? = none := by simp; omega
    rw [hi1]
    wp_walk using wpAny_loadPart' hl, wpAny_loadPart' hb
    show R (.ok (.ret (.bool (decide (vs.toArray.size < ws.toArray.size))))) _
    have e : ns.drop i = [] := by simp; omega
    rw [e] at h
    cases hm : ms.drop i with
    | nil => rw [hm] at h; have : ms.length ≤ i := by simpa using hm
             have e2 : decide (vs.toArray.size < ws.toArray.size) = false := by simp; omega
             rw [e2]; exact h
    | cons x r => rw [hm] at h
                  have : i < ms.length := by
                    rcases Nat.lt_or_ge i ms.length with q | q
                    · exact q
                    · have := List.drop_eq_nil_of_le q; rw [hm] at this; cases this
                  have e2 : decide (vs.toArray.size < ws.toArray.size) = true := by simp; omega
                  rw [e2]; exact h
  | succ k ih =>
    intro i hk hi hj prog w A R s h
    obtain ⟨hp, gg, d, tk, os⟩ := s; obtain ⟨hl, hb, h⟩ := h
    wp_walk using wpAny_loadPart' hl, wpAny_loadPart' hb
    have hlt : i < vs.length := by omega
    by_cases hlt2 : i < ws.length
    · obtain ⟨x, ex, t, rx⟩ := f.get (i := i) (a := vs[i]) (by simp [hlt])
      obtain ⟨y, ey, u, ry⟩ := g.get (i := i) (a := ws[i]) (by simp [hlt2])
      have hi1 : vs.toArray[((i : Nat) : Int).toNat]? = some (.int x t) := by simp [hlt, rx]
      have hi2 : ws.toArray[((i : Nat) : Int).toNat]? = some (.int y u) := by simp [hlt2, ry]
      have d1 : ns.drop i = x :: ns.drop (i + 1) := by
        rw [List.drop_eq_getElem_cons (by omega)]; congr 1; rw [List.getElem?_eq_getElem (by omega)] at ex; exact Option.some.inj ex
      have d2 : ms.drop i = y :: ms.drop (i + 1) := by
        rw [List.drop_eq_getElem_cons (by omega)]; congr 1; rw [List.getElem?_eq_getElem (by omega)] at ey; exact Option.some.inj ey
      have hc : ((i : Int) + 1) = ((i + 1 : Nat) : Int) := by push_cast; rfl
      rw [d1, d2] at h
      simp only [lexLt] at h
      rw [hi1, hi2]
      refine wpAny_bind (wpAny_eqBool_int ?_)
      by_cases e : x = y
      · rw [if_pos e] at h
        have e' : (x == y) = true := by simp [e]
        rw [e']
        wp_walk
        rw [hc]
        exact ⟨plainId_quiet plain_eq_loop _, codeAny_builtin entry_eq_loop (by
          rw [Around.under_plainId plain_eq_loop _]
          exact ih (i + 1) (by omega) (by omega) (by omega) prog w A R _ ⟨hl, hb, h⟩)⟩
      · rw [if_neg e] at h
        have e' : (x == y) = false := by simp [e]
        rw [e']
        wp_walk using wpAny_loadPart' hl, wpAny_loadPart' hb
        rw [hi1, hi2]
        refine wpAny_bind (wpAny_lt_int (wpAny_pure ?_))
        exact h
    · have hi2 : ws.toArray[((i : Nat) : Int).toNat]? = none := by simp; omega
      have hi1 : vs.toArray[((i : Nat) : Int).toNat]? = some vs[i] := by simp [hlt]
      rw [hi1, hi2]
      wp_walk using wpAny_loadPart' hl, wpAny_loadPart' hb
      show R (.ok (.ret (.bool (decide (vs.toArray.size < ws.toArray.size))))) _
      have e : ms.drop i = [] := by simp; omega
      have e2 : decide (vs.toArray.size < ws.toArray.size) = false := by simp; omega
      rw [e2]
      have d1 : ns.drop i = ns[i]'(by omega) :: ns.drop (i + 1) := List.drop_eq_getElem_cons (by omega)
      rw [e, d1] at h
      exact h
end Mine

end

section
open PySem PySem.W PyProof.Rows
set_option Elab.async false
set_option linter.unusedVariables false
namespace Mine

def Safe {α : Type} (n : Nat) (P : α → Prop) : KasT α → Prop
  | .ret a => P a
  | .ask i j k => i < n ∧ j < n ∧ ∀ b, Safe n P (k b)
theorem Safe.bind {α β : Type} {n : Nat} {P : α → Prop} {R : β → Prop} {f : α → KasT β} (hf : ∀ a, P a → Safe n R (f a)) : ∀ t : KasT α, Safe n P t → Safe n R (t.bind f)
  | .ret a, h => hf a h
  | .ask i j k, h => ⟨h.1, h.2.1, fun b => Safe.bind hf (k b) (h.2.2 b)⟩
def El (n : Nat) (p : Array Nat) : Prop := ∀ x ∈ p.toList, x < n
variable {n : Nat} (h0 : 0 < n)
include h0
theorem El.at {p : Array Nat} (h : El n p) (k : Nat) : p.getD k 0 < n := by
  by_cases hk : k < p.size
  · have e : p.getD k 0 = p[k] := by simp [hk]
    rw [e]; exact h _ (by simp)
  · have e : p.getD k 0 = 0 := by simp [Array.getD, hk]
    rw [e]; exact h0
omit h0 in
theorem El.rev {p : Array Nat} (h : El n p) (i j : Nat) : El n (kas_rev p i j) := fun x hx => h x ((Array.perm_iff_toList_perm.mp (mirror_perm p i j ((j - i) / 2))).mem_iff.mp hx)
omit h0 in
theorem El.bub {p : Array Nat} (h : El n p) (i j : Nat) : El n (bubble p i j) := fun x hx => h x ((Array.perm_iff_toList_perm.mp (bubble_perm p i j)).mem_iff.mp hx)
theorem safe_asc {p : Array Nat} (h : El n p) : ∀ f m, Safe n (fun _ => True) (kas_asc p f m)
  | 0, m => trivial
  | f + 1, m => ⟨h.at h0 _, h.at h0 _, fun b => by
    show Safe n _ (if b = true then KasT.ret m else kas_asc p f (m + 1))
    split
    · trivial
    · exact safe_asc h f (m + 1)⟩
theorem safe_desc : ∀ f (p : Array Nat) m q, El n p → Safe n (fun r => El n r.1) (kas_desc f p m q)
  | 0, p, m, q, h => h
  | f + 1, p, m, q, h => ⟨h.at h0 _, h.at h0 _, fun b => by
    show Safe n _ (if b = true then (if q > 0 then kas_desc f (kas_rev p (m - (q + 1)) m) (m + 1) 0 else kas_desc f p (m + 1) 0)
      else .ask (p.getD (m - 1) 0) (p.getD m 0) fun d => if d = true then .ret (p, m, q) else kas_desc f p (m + 1) (q + 1))
    split
    · split
      · exact safe_desc f _ _ _ (h.rev _ _)
      · exact safe_desc f _ _ _ h
    · refine ⟨h.at h0 _, h.at h0 _, fun d => ?_⟩
      dsimp only
      split
      · exact h
      · exact safe_desc f _ _ _ h⟩
theorem safe_tail3 {p : Array Nat} (h : El n p) (m nrem : Nat) : Safe n (fun r => El n r.2) (kas_tail3 m nrem p) := by
  unfold kas_tail3
  refine Safe.bind (P := fun _ => True) (fun a _ => ?_) _ (safe_asc h0 (h.rev 0 m) _ _)
  exact h.rev 0 m
theorem safe_descPart {p : Array Nat} (h : El n p) (m nrem : Nat) : Safe n (fun r => El n r.2) (kas_descPart m nrem p) := by
  unfold kas_descPart
  refine Safe.bind (fun a ha => ?_) _ (safe_desc h0 _ _ _ _ h)
  split
  · exact safe_tail3 h0 (El.rev ha _ _) _ _
  · exact safe_tail3 h0 ha _ _
theorem safe_count {p : Array Nat} (h : El n p) (nrem : Nat) : Safe n (fun r => El n r.2) (kas_count nrem p) := by
  unfold kas_count
  refine Safe.bind (fun a ha => ?_) _ (safe_asc h0 h _ _)
  split
  · exact h
  · split
    · refine ⟨h.at h0 _, h.at h0 _, fun b => ?_⟩
      dsimp only
      split
      · exact h
      · exact safe_descPart h0 (h.rev _ _) _ _
    · exact safe_descPart h0 h _ _
theorem safe_place {p : Array Nat} (h : El n p) (k : Nat) : ∀ f l r, Safe n (fun _ => True) (kas_place p k f l r)
  | 0, l, r => trivial
  | f + 1, l, r => by
    unfold kas_place
    split
    · trivial
    · refine ⟨h.at h0 _, h.at h0 _, fun b => ?_⟩
      dsimp only
      split
      · exact safe_place h k f _ _
      · exact safe_place h k f _ _
theorem safe_bin : ∀ f (p : Array Nat) k, El n p → Safe n (fun _ => True) (kas_bin f p k)
  | 0, p, k, h => trivial
  | f + 1, p, k, h => by
    unfold kas_bin
    exact Safe.bind (fun a _ => safe_bin f _ _ (h.bub _ _)) _ (safe_place h0 h _ _ _ _)
theorem safe_sort : Safe n (fun _ => True) (kas_sort n) := by
  unfold kas_sort
  refine Safe.bind (fun a ha => ?_) _ (safe_count h0 (p := List.toArray (List.range n)) (fun x hx => by simpa using hx) n)
  split
  · exact safe_bin h0 _ _ _ ha
  · trivial
omit h0 in
theorem kasWp_run {α : Type} {lt : Nat → Nat → Bool} {cmp : Nat → Nat → (Bool → Shared → Prop) → Shared → Prop} {P : α → Prop} {Gd : α → Shared → Prop} {s : Shared}
    (hc : ∀ i j C, i < n → j < n → C (lt i j) s → cmp i j C s) : ∀ t : KasT α, Safe n P t → Gd (run lt t) s → t.kasWp cmp Gd s
  | .ret a, _, h => h
  | .ask i j k, hs, h => hc i j _ hs.1 hs.2.1 (kasWp_run hc (k (lt i j)) (hs.2.2 _) h)
end Mine

end

section
open PySem PySem.W PyProof.Rows PySem.SeqAt
open AutoSeq1 (wpAny_loadPart')
open MeetsSeq MeetsSeq2 MeetsSeq3 SeqRoads2
set_option Elab.async false
set_option linter.unusedVariables false
namespace Mine

theorem list_lt_meets (l b : Addr) (vs ws : List Value) (ns ms : List Int) (n n2 : Nat) (f : F2 (fun v i => ∃ t, v = .int i t) vs ns) (g : F2 (fun v i => ∃ t, v = .int i t) ws ms) :
    Meets (Builtin.«list.__lt__» ⟨[.ref l, .ref b], []⟩)
      (fun A R s => s.heap.get? l = some { cls := .type "list", data := .seq vs.toArray n } ∧ s.heap.get? b = some { cls := .type "list", data := .seq ws.toArray n2 } ∧
        R (.ok (.ret (.bool (lexLt ns ms)))) s) := by
  intro prog w A R s h
  obtain ⟨hp, gg, d, tk, os⟩ := s; obtain ⟨hl, hb, h⟩ := h
  have f3 := AutoSeq1.sub_list_list
  wp_walk using wpAny_loadPart' hl, wpAny_loadPart' hb
  exact ⟨plainId_quiet plain_eq_loop _, codeAny_builtin entry_eq_loop (by
    rw [Around.under_plainId plain_eq_loop _]
    exact lt_loop l b vs ws ns ms n n2 f g _ 0 rfl (Nat.zero_le _) (Nat.zero_le _) prog w A R _ ⟨hl, hb, h⟩)⟩

section
variable {prog : Program} {w : World} {A : Around} {E : Value → Shared → Prop} {s₀ s : Shared} {B : Heap} {X Y pre post : Led} {env : Env} {K : Frag} {mg mb : Str → Option Value}

theorem oneLt_list {l b : Addr} {vs ws : List Value} {ns ms : List Int} {ol ob : Obj} {Q : Bool → Shared → Prop} (hl : s.heap.get? l = some ol) (pl : LsP vs ol) (hb : s.heap.get? b = some ob) (pb : LsP ws ob)
    (f : F2 (fun v i => ∃ t, v = .int i t) vs ns) (g : F2 (fun v i => ∃ t, v = .int i t) ws ms) (hu : A.units < cLine) (h : Q (lexLt ns ms) s) : wpAny (model prog w) A (oneLt' true (.ref l) (.ref b)) Q E s := by
  obtain ⟨n, rfl⟩ := pl
  obtain ⟨n2, rfl⟩ := pb
  rw [oneLt'_eq]
  simp only [if_true]
  refine wpAny_bind (wpAny_cRoomFor hu ?_)
  have hT : s.TypeIs (.ref l) "list" := ⟨_, hl, rfl⟩
  refine wpAny_bind (wpAny_callSpecialIfBound?_slot hT F.slot_list_lt (call_meets F.slot_list_lt hT F.entry_list_lt (F.args_list_lt_2 _ _) (list_lt_meets l b vs ws ns ms n n2 f g) ⟨hl, hb, ?_⟩))
  exact wpAny_truthy_bool h
end
end Mine

namespace Mine
def emptyH : Heap := {}
theorem emptyH_get (a : Addr) : emptyH.get? a = none := by
  cases e : emptyH.get? a with
  | none => rfl
  | some o => exact absurd (Heap.lt_size e) (Nat.not_lt.mpr (Nat.zero_le _))
def others (h : Heap) (L : Addr) : List (Addr × Obj) := (List.range h.objs.size).filterMap fun a => if a = L then none else (h.get? a).map fun o => (a, o)
theorem mem_others {h : Heap} {L a : Addr} {o : Obj} : (a, o) ∈ others h L ↔ a ≠ L ∧ h.get? a = some o := by
  unfold others
  rw [List.mem_filterMap]
  constructor
  · rintro ⟨b, hb, e⟩
    split at e
    · cases e
    · rename_i hne
      cases hg : h.get? b with
      | none => rw [hg] at e; cases e
      | some o' => rw [hg] at e; cases e; exact ⟨hne, hg⟩
  · rintro ⟨hne, hg⟩
    exact ⟨a, List.mem_range.mpr (Heap.lt_size hg), by rw [if_neg hne, hg]; rfl⟩
theorem fr_of {B h : Heap} {X : Led} {L : Addr} {m : Str → Option Value} (H : St B X h) (hL : (L, NsP m) ∈ X) : Fr emptyH L h m := ⟨ns_at H hL, (fun b o e => by rw [emptyH_get] at e; cases e), Nat.zero_le _⟩
theorem news_of (h : Heap) (L : Addr) : News emptyH L h (others h L) := fun p hp => ⟨(mem_others.mp hp).2, (mem_others.mp hp).1, emptyH_get _⟩
theorem St.same {B h : Heap} {X : Led} {p q : Addr × As} (H : St B X h) (hp : p ∈ X) (hq : q ∈ X) (e : p.1 = q.1) : p = q := by
  have nd := H.nd
  clear H
  induction X with
  | nil => cases hp
  | cons x r ih =>
    simp only [List.map_cons, List.nodup_cons] at nd
    rcases List.mem_cons.mp hp with e1 | hp1 <;> rcases List.mem_cons.mp hq with e2 | hq1
    · rw [e1, e2]
    · exact absurd (show x.1 ∈ r.map (·.1) from by rw [← e1, e]; exact List.mem_map_of_mem hq1) nd.1
    · exact absurd (show x.1 ∈ r.map (·.1) from by rw [← e2, ← e]; exact List.mem_map_of_mem hp1) nd.1
    · exact ih hp1 hq1 nd.2
theorem St.fromOthers {B h h' : Heap} {X : Led} {L : Addr} {m : Str → Option Value} (H : St B X h) (hL : (L, NsP m) ∈ X) (hn : h'.Ns L m) (hk : ∀ a o, a ≠ L → h.get? a = some o → h'.get? a = some o) : St B X h' := by
  refine ⟨fun b o e => hk b o (fun q => ?_) (H.sub b o e), fun q hq => ?_, H.nd⟩
  · have := (H.xs _ hL).2; subst q; rw [e] at this; cases this
  · by_cases hqL : q.1 = L
    · have e := H.same hq hL hqL
      subst e
      exact ⟨nsP_of hn, (H.xs _ hq).2⟩
    · obtain ⟨⟨o, e, p⟩, n⟩ := H.xs q hq
      exact ⟨⟨o, hk _ o hqL e, p⟩, n⟩

section
variable {prog : Program} {w : World} {A : Around} {E : Value → Shared → Prop} {s₀ s : Shared} {B : Heap} {X Y pre post : Led} {env : Env} {K : Frag} {mg mb : Str → Option Value}
theorem looks_list {h : Heap} {a : Addr} {vs : List Value} {o : Obj} (e : h.get? a = some o) (p : LsP vs o) : Looks (model prog w) h (typeOf (.ref a)) (.type "list") := fun A Q E s k q => by
  obtain ⟨n, rfl⟩ := p
  refine wpAny_typeOf_ref (k _ _ e) ?_
  exact q

/-- sorted(xs) of int lists, no two alike -/
theorem sorted_lists {L a : Addr} {m : Str → Option Value} {vs : List Value} {xs : List (List Int)} {Q : Value → Shared → Prop} (hW : W s₀ B X s) (hL : (L, NsP m) ∈ X) (hl : LAt B X a vs) (f : F2 (RList RInt B) vs xs)
    (h2 : 2 ≤ xs.length) (h64 : xs.length < 64) (hnd : xs.Nodup) (hu : A.units + 2 < cLine)
    (h : ∀ D us ys s', W s₀ B ((D, LsP us) :: X) s' → F2 (RList RInt B) us ys → ys.Perm xs → ys.Pairwise (fun x y => lexLt x y = true) → Q (.ref D) s') :
    wpAny (model prog w) A (call (.builtin "sorted") [.ref a]) Q E s := by
  have hlen := f.length
  have F := fr_of hW.st hL
  have N := news_of s.heap L
  have atv : ∀ i, i < vs.length → ∃ b us ns, vs.getD i Value.none = .ref b ∧ (∃ o, B.get? b = some o ∧ LsP us o) ∧ F2 (RInt B) us ns ∧ xs[i]? = some ns := fun i hi => by
    obtain ⟨ns, e, b, us, eb, ho, ff⟩ := f.get (i := i) (a := vs[i]) (by simp [hi])
    exact ⟨b, us, ns, by simp [hi, eb], ho, ff, e⟩
  have bl : ∀ b o, B.get? b = some o → b ≠ L := fun b o e q => by have := (hW.st.xs _ hL).2; subst q; rw [e] at this; cases this
  have inB : ∀ h' : Heap, News emptyH L h' (others s.heap L) → Sub B h' := fun h' N' b o e => (N' (b, o) (mem_others.mpr ⟨bl b o e, hW.st.sub b o e⟩)).1
  refine kas_sorted (T := .type "list") F N (hl.isList hW.st) (by omega) (by omega) (fun h' F' N' v hv => ?_) (by decide) (fun D e1 h' F' N' hD => ?_)
  · obtain ⟨i, hi⟩ := List.getElem?_of_mem hv
    have hlt : i < vs.length := by
      rcases Nat.lt_or_ge i vs.length with q | q
      · exact q
      · rw [List.getElem?_eq_none q] at hi; cases hi
    obtain ⟨b, us, ns, eb, ⟨o, ho, p⟩, _, _⟩ := atv i hlt
    have : v = .ref b := by rw [← eb]; simp [hi]
    subst this
    exact looks_list (inB h' N' _ _ ho) p
  · have N1 : News emptyH L h' (others s.heap L) := fun p hp => N' p (.tail _ hp)
    have Bh : Sub B h' := inB h' N1
    let lt : Nat → Nat → Bool := fun i j => lexLt (xs.getD i []) (xs.getD j [])
    have T : Tot lt vs.length := by
      refine ⟨fun i _ => lex_irr _, fun i j k _ _ _ => lex_tr _ _ _, fun i j hi hj hij => lex_tot _ _ fun e => hij ?_⟩
      have e' : xs[i]'(by omega) = xs[j]'(by omega) := by simpa [show i < xs.length by omega, show j < xs.length by omega] using e
      exact (List.getElem_inj hnd).mp e'
    obtain ⟨g, hs⟩ := run_sort T (by omega)
    refine kasWp_run (lt := lt) (n := vs.length) (fun i j C hi hj hC => ?_) _ (safe_sort (by omega)) ?_
    · obtain ⟨b, us, ns, eb, ⟨o, ho, p⟩, ff, ex⟩ := atv i hi
      obtain ⟨b', us', ns', eb', ⟨o', ho', p'⟩, ff', ex'⟩ := atv j hj
      show wpAny _ _ (keyLt' oneType' (vs.getD i Value.none) (vs.getD j Value.none)) _ _ _
      rw [eb, eb', keyLt'_oneType]
      refine oneLt_list (s := { s with heap := h' }) (Bh _ _ ho) p (Bh _ _ ho') p' ff ff' (by show A.units + 1 + 1 < cLine; omega) ?_
      have : lt i j = lexLt ns ns' := by simp [lt, ex, ex']
      rw [← this]; exact hC
    · refine KasFin.intro (s := { s with heap := h' }) F' N' (.head fun q hq => Nat.ne_of_lt (hD q hq)) fun h'' c F'' N'' => ?_
      generalize hp : run lt (kas_sort vs.length) = p at g hs N''
      have HX : St B X h'' := hW.st.fromOthers hL F''.ns fun a o hne e => (N'' (a, o) (.tail _ (mem_others.mpr ⟨hne, e⟩))).1
      have hDn : s.heap.get? D = none := by
        cases eD : s.heap.get? D with
        | none => rfl
        | some o =>
          have hDL : D ≠ L := (N' (D, _) (.head _)).2.1
          exact absurd (hD (D, o) (mem_others.mpr ⟨hDL, eD⟩)) (Nat.lt_irrefl _)
      have HD : St B ((D, LsP (p.toList.map fun i => vs.getD i Value.none)) :: X) h'' := by
        refine ⟨HX.sub, fun q hq => ?_, ?_⟩
        · rcases List.mem_cons.mp hq with rfl | hq
          · refine ⟨⟨_, (N'' _ (.head _)).1, c, rfl⟩, ?_⟩
            show B.get? D = none
            cases eb : B.get? D with
            | none => rfl
            | some o => rw [hW.st.sub _ _ eb] at hDn; cases hDn
          · exact HX.xs q hq
        · rw [List.map_cons, List.nodup_cons]
          refine ⟨fun hm => ?_, HX.nd⟩
          obtain ⟨q, hq, e⟩ := List.mem_map.mp hm
          obtain ⟨⟨o, eo, _⟩, _⟩ := hW.st.xs q hq
          have e' : q.1 = D := e
          rw [e', hDn] at eo; cases eo
      have pl : p.toList.length = xs.length := by rw [g.perm.length_eq, List.length_range, hlen]
      have hFF : ∀ l : List Nat, (∀ i ∈ l, i < vs.length) → F2 (RList RInt B) (l.map fun i => vs.getD i Value.none) (l.map fun i => xs.getD i []) := by
        intro l hl'
        induction l with
        | nil => exact .nil
        | cons i r ih =>
          refine .cons ?_ (ih fun j hj => hl' j (.tail _ hj))
          obtain ⟨b, us, ns, eb, ho, ff, ex⟩ := atv i (hl' i (.head _))
          show RList RInt B (vs.getD i Value.none) (xs.getD i [])
          rw [eb, show xs.getD i [] = ns by simp [ex]]
          exact ⟨b, us, rfl, ho, ff⟩
      have hmem : ∀ i ∈ p.toList, i < vs.length := fun i hi => List.mem_range.mp (g.perm.mem_iff.mp hi)
      refine h D _ (p.toList.map fun i => xs.getD i []) _ (hW.to (tk := s.toks) HD) (hFF _ hmem) ?_ ?_
      · have := g.perm.map (fun i => xs.getD i [])
        refine this.trans ?_
        have e : (List.range vs.length).map (fun i => xs.getD i []) = xs := by
          apply List.ext_getElem
          · simp [hlen]
          · intro i h1 h2; simp [h2]
        rw [e]
      · rw [List.pairwise_iff_getElem]
        intro i j hi hj hij
        simp only [List.length_map] at hi hj
        have hp' : p.toList.length = vs.length := by rw [pl, hlen]
        have := hs i j hij (by omega)
        have e1 : gt' p i = p.toList[i] := by simp [gt', show i < p.size by simpa using hi]
        have e2 : gt' p j = p.toList[j] := by simp [gt', show j < p.size by simpa using hj]
        rw [e1, e2] at this
        rw [List.getElem_map, List.getElem_map]
        exact this
end
end Mine

end

section
open PySem PySem.W PyProof.Rows PySem.SeqAt
set_option Elab.async false
set_option linter.unusedVariables false
namespace Mine

theorem ints_of {B : Heap} {vs : List Value} {ns : List Int} (x : F2 (RInt B) vs ns) : IntsAre vs ns := by
  induction x with
  | nil => exact .nil
  | cons h _ ih => obtain ⟨t, rfl⟩ := h; exact .cons _ t ih
theorem of_ints {B : Heap} {vs : List Value} {ns : List Int} (x : IntsAre vs ns) : F2 (RInt B) vs ns := by
  induction x with
  | nil => exact .nil
  | cons n t _ ih => exact .cons ⟨t, rfl⟩ ih

theorem St.addAt {B h h' : Heap} {X : Led} {a : Addr} {P : As} (H : St B X h) (hk : Sub h h') (hn : h.objs.size ≤ a) (ho : ∃ o, h'.get? a = some o ∧ P o) : St B ((a, P) :: X) h' := by
  refine H.add hk ?_ ho fun hm => ?_
  · cases e : h.get? a with
    | none => rfl
    | some o => exact absurd (Heap.lt_size e) (Nat.not_lt.mpr hn)
  · obtain ⟨p, hp, e⟩ := List.mem_map.mp hm
    have := H.lt (a := p.1) (P := p.2) hp
    have e' : p.1 = a := e
    rw [e'] at this
    exact absurd this (Nat.not_lt.mpr hn)

section
variable {prog : Program} {w : World} {A : Around} {E : Value → Shared → Prop} {s₀ s : Shared} {B : Heap} {X Y pre post : Led} {env : Env} {K : Frag} {mg mb : Str → Option Value}

/-- sorted(xs) of ints -/
theorem sorted_intsW {a : Addr} {vs : List Value} {ns : List Int} {Q : Value → Shared → Prop} (hW : W s₀ B X s) (hl : LAt B X a vs) (f : F2 (RInt B) vs ns) (h64 : ns.length < 64)
    (h : ∀ D us ms s', W s₀ B ((D, LsP us) :: X) s' → F2 (RInt B) us ms → ms.Perm ns → ms.Pairwise (· ≤ ·) → Q (.ref D) s') :
    wpAny (model prog w) A (call (.builtin "sorted") [.ref a]) Q E s := by
  refine sorted_ints (hl.isList hW.st) (ints_of f) (by rw [f.length]; exact h64) fun out ms a1 a2 a3 => ?_
  obtain ⟨e, he⟩ := sortedAll_at s.heap vs out
  refine h _ out.toList ms _ (hW.to (tk := s.toks) (hW.st.addAt (fun _ _ => sortedAll_old) (Nat.le_succ _) ⟨_, he, e, ?_⟩)) (of_ints a1) a2 a3
  simp

theorem toPairs {B : Heap} : ∀ {vs : List Value} {ns : List Int}, F2 (RInt B) vs ns → ∃ xs : List (Int × Tok), vs.toArray = intItems xs.toArray ∧ xs.map (·.1) = ns
  | _, _, .nil => ⟨[], by simp [intItems], rfl⟩
  | _, _, .cons (b := n) (m := ns) ⟨t, e⟩ r => by
    obtain ⟨xs, h1, h2⟩ := toPairs r
    refine ⟨(n, t) :: xs, ?_, by simp [h2]⟩
    subst e
    have h1' := congrArg Array.toList h1
    simp [intItems] at h1' ⊢
    exact h1'

/-- min(xs) of ints -/
theorem min_listW {a : Addr} {vs : List Value} {ns : List Int} {Q : Value → Shared → Prop} (hh : A.handled = none) (hW : W s₀ B X s) (hl : LAt B X a vs) (f : F2 (RInt B) vs ns) (hne : 0 < ns.length)
    (h : ∀ M t s', W s₀ B X s' → M ∈ ns → (∀ a ∈ ns, M ≤ a) → Q (.int M t) s') : wpAny (model prog w) A (call (.builtin "min") [.ref a]) Q E s := by
  obtain ⟨xs, h1, h2⟩ := toPairs f
  have hli := hl.isList hW.st
  rw [h1] at hli
  have hz : 0 < xs.toArray.size := by rw [← h2] at hne; simpa using hne
  refine min_intList hh hli hz fun v h' tk hv hk => ?_
  obtain ⟨t, rfl⟩ := intItems_at hv
  obtain ⟨b1, b2⟩ := argBest_lt (numAt xs.toArray) (xs.toArray.size - 1)
  refine h _ t _ (hW.to (hW.st.grow hk)) ?_ fun a ha => ?_
  · rw [numAt_eq]
    have hb : argBest (fun i j => decide (numAt xs.toArray i < numAt xs.toArray j)) (xs.toArray.size - 1) < ns.length := by rw [← h2]; simp at b1 hz ⊢; omega
    rw [show (xs.toArray.toList.map (·.1)) = ns from by simpa using h2]
    rw [List.getD_eq_getElem?_getD, List.getElem?_eq_getElem hb]
    exact List.getElem_mem hb
  · rw [← h2] at ha
    obtain ⟨j, hj, e⟩ := List.getElem_of_mem ha
    have := b2 j (by simp at hj ⊢; omega)
    rw [numAt_eq xs.toArray j] at this
    have e2 : (xs.toArray.toList.map (·.1)).getD j 0 = a := by rw [← e]; simp at hj ⊢; simp [hj]
    rw [e2] at this; exact this
theorem max_listW {a : Addr} {vs : List Value} {ns : List Int} {Q : Value → Shared → Prop} (hh : A.handled = none) (hW : W s₀ B X s) (hl : LAt B X a vs) (f : F2 (RInt B) vs ns) (hne : 0 < ns.length)
    (h : ∀ M t s', W s₀ B X s' → M ∈ ns → (∀ a ∈ ns, a ≤ M) → Q (.int M t) s') : wpAny (model prog w) A (call (.builtin "max") [.ref a]) Q E s := by
  obtain ⟨xs, h1, h2⟩ := toPairs f
  have hli := hl.isList hW.st
  rw [h1] at hli
  have hz : 0 < xs.toArray.size := by rw [← h2] at hne; simpa using hne
  refine max_intList hh hli hz fun v h' tk hv hk => ?_
  obtain ⟨t, rfl⟩ := intItems_at hv
  obtain ⟨b1, b2⟩ := argBest_gt (numAt xs.toArray) (xs.toArray.size - 1)
  refine h _ t _ (hW.to (hW.st.grow hk)) ?_ fun a ha => ?_
  · rw [numAt_eq]
    have hb : argBest (fun i j => decide (numAt xs.toArray i > numAt xs.toArray j)) (xs.toArray.size - 1) < ns.length := by rw [← h2]; simp at b1 hz ⊢; omega
    rw [show (xs.toArray.toList.map (·.1)) = ns from by simpa using h2]
    rw [List.getD_eq_getElem?_getD, List.getElem?_eq_getElem hb]
    exact List.getElem_mem hb
  · rw [← h2] at ha
    obtain ⟨j, hj, e⟩ := List.getElem_of_mem ha
    have := b2 j (by simp at hj ⊢; omega)
    rw [numAt_eq xs.toArray j] at this
    have e2 : (xs.toArray.toList.map (·.1)).getD j 0 = a := by rw [← e]; simp at hj ⊢; simp [hj]
    rw [e2] at this; exact this

/-- xs + ys -/
theorem add_listW {a b : Addr} {vs ws : List Value} {Q : Value → Shared → Prop} (hW : W s₀ B X s) (ha : LAt B X a vs) (hb : LAt B X b ws) (hz : vs.length + ws.length ≤ 1000)
    (h : ∀ D s', W s₀ B ((D, LsP (vs ++ ws)) :: X) s' → Q (.ref D) s') : wpAny (model prog w) A (binaryOp .Add (.ref a) (.ref b)) Q E s := by
  have hl := ha.isList hW.st
  have hb' := hb.isList hW.st
  obtain ⟨⟨cls, dd, data, sl⟩, ho, hc, n, hd⟩ := id hl
  obtain ⟨⟨cls2, dd2, data2, sl2⟩, ho2, hc2, n2, hd2⟩ := id hb'
  simp only at hc hd hc2 hd2
  subst hc hd hc2 hd2
  refine concat_meets ⟨_, ho, rfl⟩ ⟨_, ho2, rfl⟩ noFill_list_add seq_list_add PySem.F.slot_list_add PySem.F.entry_list_add (PySem.F.args_list_add_2 _ _)
    (list_addW a b vs.toArray ws.toArray n n2 dd dd2 sl sl2 (by rw [sizeLine_eq]; simp; omega)) ⟨ho, ho2, ?_⟩
  have e : vs.toArray ++ ws.toArray = (vs ++ ws).toArray := by simp
  rw [e]
  exact h _ _ (hW.to (hW.st.new rfl ⟨_, rfl⟩))

/-- [] -/
theorem ev_nil {pos : Pos} {Q : Value → Shared → Prop} (hW : W s₀ B X s) (h : ∀ D s', W s₀ B ((D, LsP []) :: X) s' → Q (.ref D) s') : wpAny (model prog w) A (eval (.List [] pos) env) Q E s :=
  wpAny_List (Calls.spliced_nil ⟨Nat.zero_le _, h _ _ (hW.to (tk := s.toks) (hW.st.new rfl ⟨_, rfl⟩))⟩)
/-- [e] -/
theorem ev_one {e : Expr} {pos : Pos} {Q : Value → Shared → Prop} (h : wpAny (model prog w) A (eval e env) (fun v s₁ => ∃ B' X', W s₀ B' X' s₁ ∧ (∀ D s', W s₀ B' ((D, LsP [v]) :: X') s' → Q (.ref D) s')) E s)
    (hns : starEach [e] env = [(false, eval e env)] := by rfl) : wpAny (model prog w) A (eval (.List [e] pos) env) Q E s := by
  refine wpAny_List ?_
  rw [hns]
  refine Calls.spliced_cons (wpAny_mono h (fun v s₁ h₁ => ?_) fun _ _ x => x)
  obtain ⟨B', X', hW, k⟩ := h₁
  exact Calls.spliced_nil ⟨by rw [sizeLine_eq]; simp, k _ _ (hW.to (tk := s₁.toks) (hW.st.new rfl ⟨_, rfl⟩))⟩

/-- xs.append(e) -/
theorem append_stmt {o e : Expr} {apos pos p' : Pos} {D : Addr} {us : List Value} {Q : Flow → Shared → Prop} (pre : Led) (hW : W s₀ B (pre ++ (D, LsP us) :: post) s)
    (ho : Ev ⟨prog, w, A, env, s₀, B, pre ++ (D, LsP us) :: post⟩ o (· = .ref D)) (hz : us.length ≤ 1000)
    (h : ∀ s₁, W s₀ B (pre ++ (D, LsP us) :: post) s₁ → wpAny (model prog w) A (eval e env) (fun v s₂ => ∃ B' pre' post', W s₀ B' (pre' ++ (D, LsP us) :: post') s₂ ∧
      (∀ s', W s₀ B' (pre' ++ (D, LsP (us ++ [v])) :: post') s' → Q .next s')) E s₁)
    (hbase : attributeBase o "append" env (eval o env) = eval o env := by rfl)
    (hns : starEach [e] env = [(false, eval e env)] := by rfl)
    (hline : (apos.endLine == pos.line) = true := by rfl)
    (hi : interactive env = false := by rfl) (hs : swapsWith (.Call (.Attribute o "append" apos) [e] [] pos) none p'.line env = pure false := by rfl) :
    wpAny (model prog w) A (exec (.Expr (.Call (.Attribute o "append" apos) [e] [] pos) p') env) Q E s := by
  refine wpAny_Expr ?_ hi hs
  refine wpAny_Call_append hbase (by rw [hns]; rfl) hline (by rw [hns]; rfl) (ho s _ _ hW fun s₁ v ev W1 => ?_)
  subst ev
  obtain ⟨oD, hoD, n, pD⟩ := W1.st.at (a := D) (P := LsP us) (by simp)
  refine ⟨D, us.toArray, rfl, ⟨oD, n, hoD, by rw [pD], by rw [pD], by rw [pD]⟩, wpAny_mono (h s₁ W1) (fun v s₂ h₂ => ?_) fun _ _ x => x⟩
  obtain ⟨B', pre', post', W2, k⟩ := h₂
  obtain ⟨oD2, hoD2, pD2⟩ := W2.st.at (a := D) (P := LsP us) (by simp)
  refine wpAny_list_append_plain (items := us.toArray) (pD2.plain hoD2) (fun h' hl' hs' => ?_) (by rw [sizeLine_eq]; simp; omega)
  exact k _ (W2.to (tk := s₂.toks) (W2.st.upd pre' hs' (LsP.of (by simpa using hl'))))

/-- a built-in function of one argument -/
theorem call_b1 {x : Str} {id : String} {e : Expr} {p pos : Pos} {Q : Value → Shared → Prop} (hG : G K mg mb B) (hW : W s₀ B X s) (hv : bootBuiltins x = some (.builtin id))
    (h : wpAny (model prog w) A (eval e env) (fun v s₁ => wpAny (model prog w) A (call (.builtin id) [v]) Q E s₁) E s)
    (hns : starEach [e] env = [(false, eval e env)] := by rfl) (e0 : nsIn K mainGlobals x = some none := by with_unfolding_all rfl) (hn : x ≠ "__name__" := by decide)
    (hg : env.globals = mainGlobals := by rfl) (hb : env.builtins = builtinsNs := by rfl) (hk : env.scope.kind = .function := by rfl) (hx : env.kindOf x = some .globalImplicit := by rfl) (hd : (x == ("__debug__" : Str)) = false := by decide) :
    wpAny (model prog w) A (eval (.Call (.Name x p) [e] [] pos) env) Q E s := by
  refine wpAny_Call_NameR (ev_builtin hG hW hv ?_ e0 hn hg hb hk hx hd)
  rw [hns]
  exact Calls.callWith_builtin rfl (Calls.evalArgs_plain (Calls.spliced_cons (wpAny_mono h (fun v s₁ h₁ => Calls.spliced_nil h₁) fun _ _ x => x)))
/-- a def of the text called with plain arguments -/
theorem call_g {x : Str} {f : Addr} {args : List Expr} {p pos : Pos} {oc : Value} {od : Option Addr} {fd : FuncData} {osl : Array (Option Value)} {y : Sem Value} {rest : List (Bool × Sem Value)} {Q : Value → Shared → Prop} (hG : G K mg mb B) (hW : W s₀ B X s)
    (ho : K.lookup f = some ⟨oc, od, .func fd, osl⟩) (hns : backTo pos (starEach args env) = (false, y) :: rest)
    (h : wpAny (model prog w) A (spliced ((false, y) :: rest)) (fun vs s₁ => (∃ B' X', Sub B B' ∧ W s₀ B' X' s₁) ∧ wpAny (model prog w) A (call (.ref f) vs) Q E s₁) E s)
    (e0 : nsIn K mainGlobals x = some (some (.ref f)) := by with_unfolding_all rfl)
    (hg : env.globals = mainGlobals := by rfl) (hk : env.scope.kind = .function := by rfl) (hx : env.kindOf x = some .globalImplicit := by rfl) (hd : (x == ("__debug__" : Str)) = false := by decide) :
    wpAny (model prog w) A (eval (.Call (.Name x p) args [] pos) env) Q E s := by
  refine wpAny_Call_NameR (ev_global hG hW ?_ e0 hg hk hx hd)
  rw [hns]
  refine Calls.callWith_function (fd := fd) (o := ⟨oc, od, .func fd, osl⟩) (Calls.evalArgs_plain (wpAny_mono h (fun vs s₁ h₁ => ?_) fun _ _ x => x))
  obtain ⟨⟨B', X', hs, W1⟩, k⟩ := h₁
  exact ⟨⟨W1.st.sub _ _ (hs _ _ (hG.kin _ _ ho)), rfl⟩, k⟩
end
end Mine

end

section
open PySem PySem.W PyProof.Rows PySem.SeqAt
set_option Elab.async false
set_option linter.unusedVariables false
namespace Mine
section
variable {prog : Program} {w : World} {A : Around} {s₀ s' : Shared} {B' : Heap} {Y : Led} {cenv : Env} {mc : Str → Option Value} {α β : Type} {RB : Rel β} {p : α → Bool} {f : α → β} {v : Value} {a : α} {elt t : Expr}

theorem cturn_t {target : Expr} {Q : Prop} (h : wpAny (model prog w) A (assign target cenv v) (fun _ s₂ => ∃ mc', W s₀ B' ((cenv.locals, NsP mc') :: Y) s₂ ∧
      EvTA ⟨prog, w, A, cenv, s₀, B', (cenv.locals, NsP mc') :: Y⟩ t (p a) ∧
      (∀ B1, Sub B' B1 → p a = true → EvA ⟨prog, w, A, cenv, s₀, B1, (cenv.locals, NsP mc') :: Y⟩ elt (fun B2 u => RB B2 u (f a)))) NoE s') :
    CTurn prog w A s₀ cenv target elt [t] Y RB p f B' v a s' := by
  refine wpAny_mono h (fun _ s₂ h₂ => ?_) fun _ _ e => e
  obtain ⟨mc', hW, ht, he⟩ := h₂
  refine wpAny_tests_one (ht s₂ _ _ hW fun s₃ B1 hs W3 => ⟨rfl, ?_⟩)
  cases hp : p a with
  | false => rw [if_neg Bool.false_ne_true]; exact ⟨B1, mc', hs, W3⟩
  | true => rw [if_pos rfl]; exact he B1 hs hp s₃ _ _ W3 fun s₄ B2 u hs' hr W4 => ⟨B2, mc', hs.trans hs', hr, W4⟩
theorem cturn_n {target : Expr} (hp : p a = true) (h : wpAny (model prog w) A (assign target cenv v) (fun _ s₂ => ∃ mc', W s₀ B' ((cenv.locals, NsP mc') :: Y) s₂ ∧
      EvA ⟨prog, w, A, cenv, s₀, B', (cenv.locals, NsP mc') :: Y⟩ elt (fun B2 u => RB B2 u (f a))) NoE s') :
    CTurn prog w A s₀ cenv target elt [] Y RB p f B' v a s' := by
  refine wpAny_mono h (fun _ s₂ h₂ => ?_) fun _ _ e => e
  obtain ⟨mc', hW, he⟩ := h₂
  refine wpAny_tests_nil ⟨hp.symm, ?_⟩
  rw [if_pos rfl]
  exact he s₂ _ _ hW fun s₄ B2 u hs' hr W4 => ⟨B2, mc', hs', hr, W4⟩

theorem cturn_name {x : Str} {px : Pos} (hW : W s₀ B' ((cenv.locals, NsP mc) :: Y) s')
    (ht : EvTA ⟨prog, w, A, cenv, s₀, B', (cenv.locals, NsP (up mc x v)) :: Y⟩ t (p a))
    (he : ∀ B1, Sub B' B1 → p a = true → EvA ⟨prog, w, A, cenv, s₀, B1, (cenv.locals, NsP (up mc x v)) :: Y⟩ elt (fun B2 u => RB B2 u (f a)))
    (hx : cenv.kindOf x = some .local := by rfl) (hk : cenv.scope.kind = .function := by rfl) :
    CTurn prog w A s₀ cenv (.Name x px) elt [t] Y RB p f B' v a s' :=
  cturn_t (Q := True) (as_name [] hW (fun s2 W2 => ⟨_, W2, ht, he⟩) hx hk)
theorem cturn_pair {x y : Str} {p1 p2 pt : Pos} {k : Nat} {T : Addr} {v1 v2 : Value} (hh : A.handled = none) (hW : W s₀ B' ((cenv.locals, NsP mc) :: Y) s') (hT : B'.IsTuple T #[v1, v2])
    (ht : EvTA ⟨prog, w, A, cenv, s₀, B', (cenv.locals, NsP (up (up mc x v1) y v2)) :: Y⟩ t (p a))
    (he : ∀ B1, Sub B' B1 → p a = true → EvA ⟨prog, w, A, cenv, s₀, B1, (cenv.locals, NsP (up (up mc x v1) y v2)) :: Y⟩ elt (fun B2 u => RB B2 u (f a)))
    (hx : cenv.kindOf x = some .local := by rfl) (hy : cenv.kindOf y = some .local := by rfl) (hk : cenv.scope.kind = .function := by rfl) :
    CTurn prog w A s₀ cenv (.Tuple [.Name x p1, .Name y p2] k pt) elt [t] Y RB p f B' (.ref T) a s' :=
  cturn_t (Q := True) (as_pair hh [] hW hT (fun s2 W2 => ⟨_, W2, ht, he⟩) hx hy hk)
theorem cturn_name0 {x : Str} {px : Pos} (hp : p a = true) (hW : W s₀ B' ((cenv.locals, NsP mc) :: Y) s')
    (he : EvA ⟨prog, w, A, cenv, s₀, B', (cenv.locals, NsP (up mc x v)) :: Y⟩ elt (fun B2 u => RB B2 u (f a)))
    (hx : cenv.kindOf x = some .local := by rfl) (hk : cenv.scope.kind = .function := by rfl) :
    CTurn prog w A s₀ cenv (.Name x px) elt [] Y RB p f B' v a s' :=
  cturn_n hp (as_name [] hW (fun s2 W2 => ⟨_, W2, he⟩) hx hk)
end

theorem Ev.aR {c : Cx} {e : Expr} {P : Heap → Value → Prop} (h : Ev c e (P c.B)) : EvA c e P := fun s Q E hW k => h s Q E hW fun s' v p w => k s' c.B v (Sub.refl _) p w
/-- e == [] where e makes a list -/
theorem EvTA.eqNil {c : Cx} {α : Type} [DecidableEq α] {R : Rel α} {d : Nat} (hR : EqOK R d) (mR : Mono R) {l : Expr} {p1 pos : Pos} {xs : List α} (hl : EvA c l (fun B' v => RList R B' v xs)) (hu : c.A.units + (d + 1) < cLine) :
    EvTA c (.Compare l [.Eq] [.List [] p1] pos) (decide (xs = [])) := fun s Q E hW k => by
  refine wpAny_isTrue_Compare1 (hl s _ _ hW fun s1 B1 v hs ⟨a, vs, e, ho, f⟩ W1 => ?_) (by with_unfolding_all rfl)
  subst e
  refine ev_nil W1 fun D s2 W2 => ?_
  refine eqq_list hR W2 (.inl ho) (.inr (.head _)) f .nil hu ?_
  exact wpAny_truthy_bool (k s2 B1 hs (W2.re W2.st.drop))
/-- a made list, frozen -/
theorem EvA.froze {c : Cx} {e : Expr} {α : Type} {R : Rel α} {xs : List α} (mR : Mono R)
    (h : ∀ (s : Shared) (Q E : Value → Shared → Prop), W c.s₀ c.B c.X s → (∀ D us B' s', Sub c.B B' → F2 (R B') us xs → W c.s₀ B' ((D, LsP us) :: c.X) s' → Q (.ref D) s') → wpAny (model c.prog c.w) c.A (eval e c.env) Q E s) :
    EvA c e (fun B' v => RList R B' v xs) := fun s Q E hW k => h s Q E hW fun D us B' s' hs f W' => by
  obtain ⟨B'', o, hs', ho, p, H⟩ := W'.st.freeze
  exact k s' B'' (.ref D) (hs.trans hs') ⟨D, us, rfl, ⟨o, ho, p⟩, f.mono mR hs'⟩ (W'.re H)
end Mine

end

section
open PySem PySem.W PyProof.Rows PySem.SeqAt PySem.Spec
set_option Elab.async false
set_option linter.unusedVariables false
namespace Mine
def gl (l : List Int) : PyData := .list (l.map .int)
def gll (xs : List (List Int)) : PyData := .list (xs.map gl)
def g2 (p : List Int × List Int) : PyData := .tuple [gl p.1, gl p.2]
theorem rd_ints {B h : Heap} {vs : List Value} {ns : List Int} (x : F2 (RInt B) vs ns) : ReadsAll h vs (ns.map .int) [] := by
  induction x with
  | nil => exact .nil
  | cons e _ ih => obtain ⟨t, rfl⟩ := e; exact readsAll_cons_val (.int _ _) ih
theorem rd_l {B h : Heap} {v : Value} {l : List Int} (hs : Sub B h) (x : RList RInt B v l) : ∃ as, Reads h v (gl l) as := by
  obtain ⟨a, vs, rfl, ⟨o, ho, n, e⟩, f⟩ := x
  subst e
  exact ⟨_, reads_list_at (hs _ _ ho) rfl rfl (rd_ints f)⟩
theorem rd_lls {B h : Heap} (hs : Sub B h) {vs : List Value} {xs : List (List Int)} (x : F2 (RList RInt B) vs xs) : ∃ as, ReadsAll h vs (xs.map gl) as := by
  induction x with
  | nil => exact ⟨_, .nil⟩
  | cons a _ ih =>
    obtain ⟨as, p⟩ := rd_l hs a
    obtain ⟨bs, q⟩ := ih
    exact ⟨_, .cons p q⟩
theorem rd_ll {B h : Heap} {v : Value} {xs : List (List Int)} (hs : Sub B h) (x : RList (RList RInt) B v xs) : ∃ as, Reads h v (gll xs) as := by
  obtain ⟨a, vs, rfl, ⟨o, ho, n, e⟩, f⟩ := x
  subst e
  obtain ⟨as, r⟩ := rd_lls hs f
  exact ⟨_, reads_list_at (hs _ _ ho) rfl rfl (by simpa using r)⟩
theorem rd_2 {B h : Heap} {v : Value} {p : List Int × List Int} (hs : Sub B h) (x : RPair (RList RInt) (RList RInt) B v p) : ∃ as, Reads h v (g2 p) as := by
  obtain ⟨a, v1, v2, rfl, ⟨o, ho, hc, n, hd⟩, r1, r2⟩ := x
  obtain ⟨as, q1⟩ := rd_l hs r1
  obtain ⟨bs, q2⟩ := rd_l hs r2
  exact ⟨_, reads_tuple_at (hs _ _ ho) hc hd (.cons q1 (.cons q2 .nil))⟩
theorem same_l (a b : List Int) : same (gl a) (gl b) = decide (a = b) := ke_same a b
theorem same_lls : ∀ xs ys : List (List Int), sameAll (xs.map gl) (ys.map gl) = decide (xs = ys)
  | [], [] => by simp [Spec.sameAll]
  | [], _ :: _ => by simp [Spec.sameAll]
  | _ :: _, [] => by simp [Spec.sameAll]
  | x :: xs, y :: ys => by
    rw [List.map_cons, List.map_cons, Spec.sameAll, same_l, same_lls xs ys]
    by_cases h1 : x = y <;> by_cases h2 : xs = ys <;> simp [h1, h2]
theorem same_ll (xs ys : List (List Int)) : same (gll xs) (gll ys) = decide (xs = ys) := by unfold gll; rw [Spec.same]; exact same_lls xs ys
theorem same_2 (p q : List Int × List Int) : same (g2 p) (g2 q) = decide (p = q) := by
  unfold g2
  rw [Spec.same, Spec.sameAll, Spec.sameAll, Spec.sameAll, same_l, same_l]
  obtain ⟨a, b⟩ := p; obtain ⟨c, d⟩ := q
  by_cases h1 : a = c <;> by_cases h2 : b = d <;> simp [h1, h2]
theorem lay_l (l : List Int) : (gl l).canLay0 = true ∧ (gl l).depth ≤ 1 := by
  have h1 := ke_canLayAll0 l; have h2 := ke_depthAll l
  unfold gl
  constructor
  · simpa [PyData.canLay0] using h1
  · simp [PyData.depth, h2]
theorem lay_lls : ∀ xs : List (List Int), PyData.canLayAll0 (xs.map gl) = true ∧ PyData.depthAll (xs.map gl) ≤ 1
  | [] => by simp [PyData.canLayAll0, PyData.depthAll]
  | x :: xs => by
    obtain ⟨a, b⟩ := lay_l x; obtain ⟨c, d⟩ := lay_lls xs
    constructor
    · simp [PyData.canLayAll0, a, c]
    · simp only [List.map_cons, PyData.depthAll]; omega
theorem shaped_ll (xs : List (List Int)) : SeqAt.shaped (gll xs) = true := by
  obtain ⟨c, d⟩ := lay_lls xs
  unfold SeqAt.shaped gll
  simp only [Bool.and_eq_true, decide_eq_true_eq]
  constructor
  · simpa [PyData.canLay0] using c
  · simp only [PyData.depth]; omega
theorem shaped_2 (p : List Int × List Int) : SeqAt.shaped (g2 p) = true := by
  obtain ⟨c, d⟩ := lay_lls [p.1, p.2]
  unfold SeqAt.shaped g2
  simp only [Bool.and_eq_true, decide_eq_true_eq]
  simp only [List.map_cons, List.map_nil] at c d
  constructor
  · simpa [PyData.canLay0] using c
  · simp only [PyData.depth]; omega
theorem mix_ll (xs ys : List (List Int)) : SeqAt.noMix (gll xs) (gll ys) = true :=
  SeqAt.noMix_of_shape (.list (.list .int)) rfl _ _ (list_map_has fun _ => list_map_has fun _ => rfl) (list_map_has fun _ => list_map_has fun _ => rfl)
theorem mix_2 (p q : List Int × List Int) : SeqAt.noMix (g2 p) (g2 q) = true :=
  SeqAt.noMix_of_shape (.tuple [.list .int, .list .int]) (by rfl) _ _ (by simp [g2, Shape.has, Shape.hasAll, gl]) (by simp [g2, Shape.has, Shape.hasAll, gl])
section
variable {prog : Program} {w : World} {A : Around} {E : Value → Shared → Prop} {s₀ s : Shared} {B : Heap} {X : Led} {Q : Value → Shared → Prop}
theorem ne_ll {v v' : Value} {xs ys : List (List Int)} (hW : W s₀ B X s) (a : RList (RList RInt) B v xs) (b : RList (RList RInt) B v' ys) (hu : A.units + 64 < cLine) (h : Q (.bool (!decide (xs = ys))) s) : wpAny (model prog w) A (compareOp .NotEq v v') Q E s := by
  obtain ⟨as, ra⟩ := rd_ll hW.st.sub a
  obtain ⟨bs, rb⟩ := rd_ll hW.st.sub b
  exact ne_dataH_same ra rb (shaped_ll _) (shaped_ll _) hu (mix_ll _ _) (by rw [same_ll]; exact h)
theorem ne_2 {v v' : Value} {p q : List Int × List Int} (hW : W s₀ B X s) (a : RPair (RList RInt) (RList RInt) B v p) (b : RPair (RList RInt) (RList RInt) B v' q) (hu : A.units + 64 < cLine) (h : Q (.bool (!decide (p = q))) s) : wpAny (model prog w) A (compareOp .NotEq v v') Q E s := by
  obtain ⟨as, ra⟩ := rd_2 hW.st.sub a
  obtain ⟨bs, rb⟩ := rd_2 hW.st.sub b
  exact ne_dataH_same ra rb (shaped_2 _) (shaped_2 _) hu (mix_2 _ _) (by rw [same_2]; exact h)
/-- e != [] for ints -/
theorem EvT.neNil {c : Cx} {l : Expr} {p1 pos : Pos} {a : Addr} {vs : List Value} {ns : List Int} (hl : Ev c l (· = .ref a)) (ha : LAt c.B c.X a vs) (f : F2 (RInt c.B) vs ns) (hu : c.A.units + 64 < cLine) : EvT c (.Compare l [.NotEq] [.List [] p1] pos) (!decide (ns = [])) := fun s Q E hW k => by
  refine wpAny_isTrue_Compare1 (hl s _ _ hW fun s1 v e W1 => ?_) (by with_unfolding_all rfl)
  subst e
  refine ev_nil W1 fun D s2 W2 => ?_
  have W3 := W2.re W2.st.drop
  obtain ⟨oD, hoD, pD⟩ := W2.st.at (List.Mem.head _)
  exact ke_ne_ints (ha.isList W3.st) (pD.isList hoD) (ints_of f) .nil hu (wpAny_truthy_bool (k s2 W3))
end
end Mine

end

section
open PySem PySem.W PyProof.Rows PySem.SeqAt
set_option Elab.async false
namespace Mine
noncomputable abbrev KF (w : World) : Frag := hd.heap_39 w.params
abbrev RArcs : Rel (List (Int × Int)) := RList (RPair RInt RInt)
abbrev RSets : Rel (List (List Int)) := RList (RList RInt)
/-- room for calls -/
structure Rm (A : Around) (d u : Nat) : Prop where
  h : A.handled = none
  d : A.depth + d < recursionLimit
  u : A.units + u < cLine
theorem Rm.deeper {A : Around} {d u : Nat} (x : Rm A (d + 1) (u + 3)) (env : Env) : Rm (A.deeper env) d u := by
  obtain ⟨h1, h2, h3⟩ := x
  refine ⟨h1, ?_, ?_⟩
  · show A.depth + 1 + d < _; omega
  · show A.units + 3 + u < _; omega
def FrOk (l : List Env) (X : Led) : Prop := ∀ env ∈ l, env.scope.kind ≠ .module ∧ ∃ L m, env.frame = some L ∧ (L, NsP m) ∈ X
theorem FrOk.sub {l : List Env} {X Y : Led} (h : FrOk l X) (hs : ∀ p ∈ X, p ∈ Y) : FrOk l Y := fun env he => let ⟨a, L, m, b, c⟩ := h env he; ⟨a, L, m, b, hs _ c⟩
/-- the stack: each frame is one of the ledger -/
def FS (A : Around) (X : Led) : Prop := ∃ l, A.frames = some l ∧ FrOk l X
theorem FS.sub {A : Around} {X Y : Led} (h : FS A X) (hs : ∀ p ∈ X, p ∈ Y) : FS A Y := let ⟨l, a, b⟩ := h; ⟨l, a, b.sub hs⟩
theorem FS.deeper {A : Around} {X Y : Led} {env : Env} {L : Addr} {m : Str → Option Value} (h : FS A X) (hs : ∀ p ∈ X, p ∈ Y) (hm : (L, NsP m) ∈ Y) (hk : env.scope.kind = .function) (hf : env.frame = some L) : FS (A.deeper env) Y := by
  obtain ⟨l, a, b⟩ := h
  refine ⟨env :: l, by show A.frames.map (env :: ·) = _; rw [a]; rfl, fun e he => ?_⟩
  rcases List.mem_cons.mp he with rfl | he
  · exact ⟨by rw [hk]; decide, L, m, hf, hm⟩
  · exact b.sub hs e he
theorem Rm.le {A : Around} {d u d' u' : Nat} (x : Rm A d u) (hd : d' ≤ d) (hu : u' ≤ u) : Rm A d' u' := ⟨x.h, by have := x.d; omega, by have := x.u; omega⟩
end Mine

end

section
open PySem PySem.W PyProof.Rows PySem.SeqAt
set_option Elab.async false
set_option linter.unusedVariables false
set_option maxRecDepth 100000
set_option maxHeartbeats 4000000
namespace Mine

def bitsL (n : Nat) (number : Int) : List Int := (upTo' n).filter fun k => decide ((number.fdiv (2 ^ k.toNat)).fmod 2 = 1)
def badIn (things : List Int) (arcs : List (Int × Int)) : List Int := (arcs.filter fun a => decide (a.2 ∈ things) && !decide (a.1 ∈ things)).map (·.1)
def closedRaw (arcs : List (Int × Int)) (n : Nat) : List (List Int) := ((upTo' n).map (bitsL 4)).filter fun t => decide (badIn t arcs = [])
theorem upTo'_succ (n : Nat) : upTo' (n + 1) = upTo' n ++ [(n : Int)] := by simp [upTo', List.range_succ]
theorem closedRaw_succ (arcs : List (Int × Int)) (n : Nat) : closedRaw arcs (n + 1) = closedRaw arcs n ++ (if badIn (bitsL 4 n) arcs = [] then [bitsL 4 n] else []) := by
  unfold closedRaw
  rw [upTo'_succ, List.map_append, List.filter_append]
  congr 1
  by_cases h : badIn (bitsL 4 n) arcs = [] <;> simp [h]

theorem closedRaw_len (arcs : List (Int × Int)) (n : Nat) : (closedRaw arcs n).length ≤ n := by
  unfold closedRaw
  refine Nat.le_trans (List.length_filter_le _ _) ?_
  simp [upTo']
theorem pow_small {i k : Nat} (hi : i < 64) (hk : (k : Int) < ((8 : Nat) : Int)) : (i : Int).natAbs < 2 ^ 30 ∧ (2 ^ k : Int).natAbs < 2 ^ 30 := by
  have h1 : k < 8 := by omega
  refine ⟨by omega, ?_⟩
  have : k ∈ List.range 8 := List.mem_range.mpr h1
  revert this; clear hi hk h1; revert k; decide

inductive ClJ (L D aA : Addr) (X : Led) (arcs : List (Int × Int)) (i : Nat) (B' : Heap) (X' : Led) : Prop
  | mk (c1 c2 : Option Value) (m : Str → Option Value) (us : List Value) (hX : X' = (D, LsP us) :: (L, NsP m) :: (L + 1 + 1, CellP c1) :: (L + 1, CellP c2) :: X) (h1 : m (Str.ofString "arcs") = some (.ref aA)) (h2 : m (Str.ofString "sets") = some (.ref D)) (h3 : F2 (RList RInt B') us (closedRaw arcs i)) : ClJ L D aA X arcs i B' X'
theorem closed_call {prog : Program} {w : World} {A : Around} {E : Value → Shared → Prop} {s₀ s : Shared} {B : Heap} {X : Led} {mg mb : Str → Option Value} {v : Value} {arcs : List (Int × Int)} {Q : Value → Shared → Prop}
    (hG : G (KF w) mg mb B) (hW : W s₀ B X s) (hR : Rm A 3 40) (ha : RArcs B v arcs) (hlen : arcs.length ≤ 5)
    (h2 : 2 ≤ (closedRaw arcs 16).length) (hnd : (closedRaw arcs 16).Nodup)
    (h : ∀ B' r ys s', Sub B B' → W s₀ B' X s' → RSets B' r ys → ys.Perm (closedRaw arcs 16) → ys.Pairwise (fun x y => lexLt x y = true) → Q r s') :
    wpAny (model prog w) A (call (.ref 170) [v]) Q E s := by
  obtain ⟨aA, aV, rfl, aO, aF⟩ := ha
  refine call_fnC (binds := [(Str.ofString "arcs", .ref aA)]) hG hW (by with_unfolding_all rfl) (by with_unfolding_all rfl) (by with_unfolding_all rfl) (by have := hR.d; omega) (by with_unfolding_all rfl) (by with_unfolding_all rfl) ?_ ?_ (by with_unfolding_all rfl) (by with_unfolding_all rfl) (by with_unfolding_all rfl) ?_
  · intro L x hx
    rcases List.mem_singleton.mp hx with rfl
    exact .inl (by with_unfolding_all rfl)
  · intro L p hp
    have hp' : p ∈ [(Str.ofString "things", L + 1 + 1), (Str.ofString "number", L + 1)] := hp
    rcases List.mem_cons.mp hp' with rfl | hp'
    · with_unfolding_all rfl
    · rcases List.mem_singleton.mp hp' with rfl
      with_unfolding_all rfl
  · intro L s1 W1
    obtain ⟨m, hm, W2⟩ : Ex2 (fun m : Str → Option Value => m (Str.ofString "arcs") = some (.ref aA)) (fun m : Str → Option Value => W s₀ B ((L, NsP m) :: (L + 1 + 1, CellP none) :: (L + 1, CellP none) :: X) s1) := ⟨_, by with_unfolding_all rfl, W1⟩
    clear W1
    have R1 := hR.deeper (d := 2) (u := 37)
    refine wpAny_execs_cons (wpAny_Assign_Name (ev_nil W2 fun D s2 W3 => st_local [(D, LsP [])] W3 fun s3 W4 => ?_))
    refine wpAny_execs_cons (for_range (n := 16) (R1 _).h hG W4 Ev.int (by decide)
      (ClJ L D aA X arcs)
      ⟨none, none, _, [], rfl, by simp only [up]; exact hm, up_self _ _ _, .nil⟩ ?_ ?_)
    · intro i nv I As B' X' s' hi hv hsub hJ hW'
      refine abs_turn fun Qt hQt => ?_
      obtain ⟨c1, c2, m, us, rfl, hma, hms, fus⟩ := hJ
      obtain ⟨tn, rfl⟩ := hv
      have hG' := hG.mono hsub
      refine as_nameC (c := L + 1) [(I, As), (D, LsP us), (L, NsP m), (L + 1 + 1, CellP c1)] hW' fun s4 W4 => ?_
      -- things = [k for k in range(4) if ..]
      refine wpAny_execs_cons (wpAny_Assign_Name (ev_comp_range (RB := RInt) (fun k => decide (((i : Int).fdiv (2 ^ k.toNat)).fmod 2 = 1)) (fun k => k) (R1 _).h hG' W4 Ev.int mono_int (by rw [sizeLine_eq]; decide) (by decide) ?_ ?_))
      · intro x kv B1 mc Cn Z s5 hx hs1 ⟨tk, ek⟩ W5
        subst ek
        have hx' := mem_upTo'.mp hx
        obtain ⟨k, rfl⟩ := Int.eq_ofNat_of_zero_le hx'.1
        have hk4 : k < 4 := Int.ofNat_lt.mp hx'.2
        refine cturn_name W5 (EvT.a ?_) (fun B2 hs2 _ => Ev.a ?_)
        · refine Ev.eqI (Ev.mod (Ev.fdiv (a := i) (b := 2 ^ k) (Ev.imp (Ev.cell (a := L + 1) (v := .int i tn) (by simp)) fun v e => ⟨tn, e⟩) (Ev.pow2 (k := k) Ev.int (Ev.imp (Ev.local (List.Mem.head _) (up_self _ _ _)) fun v e => ⟨tk, e⟩) (by omega)) ?_ ?_) Ev.int (by decide)) Ev.int
          · exact Int.ne_of_gt (Int.pow_pos (by decide))
          · exact pow_small (by omega) (by omega)
        · exact Ev.imp (Ev.local (List.Mem.head _) (up_self _ _ _)) fun v e => ⟨tk, e⟩
      · intro T us' B1 s5 hs1 fT W5
        have fT' : F2 (RInt B1) us' (bitsL 4 i) := by simpa [bitsL] using fT
        refine st_cell (c := L + 1 + 1) [(T, LsP us'), (I, As), (D, LsP us), (L, NsP m)] W5 fun s6 W6 => ?_
        obtain ⟨B2, oT, hs2, hoT, pT, H6⟩ := W6.st.freeze
        have W7 := W6.re H6
        have s02 := hs1.trans hs2
        have hB2 := hsub.trans s02
        refine wpAny_execs_cons (wpAny_If (EvTA.eqNil (c := ⟨prog, w, _, _, s₀, B2, _⟩) (R := RInt) eq_int mono_int (xs := badIn (bitsL 4 i) arcs) (EvA.froze mono_int fun s Q E hW k => ?_) (by have := (R1 default).u; exact Nat.lt_of_le_of_lt (by show A.units + 3 + _ ≤ A.units + 3 + 37; omega) this) s6 _ _ W7 fun s7 B3 hs3 W8 => ?_))
        · refine ev_comp_list (RA := RPair RInt RInt) (RB := RInt) (fun a => decide (a.2 ∈ bitsL 4 i) && !decide (a.1 ∈ bitsL 4 i)) (·.1) (R1 _).h (fun Q' hq => ev_local hW (m := m) (by k_mem) hma hq) hW (.inl (let ⟨o, ho, p⟩ := aO; ⟨o, hB2 _ _ ho, p⟩)) (aF.mono (mono_pair mono_int mono_int) hB2) (mono_pair mono_int mono_int) mono_int (by rw [sizeLine_eq]; omega) ?_ k
          intro x pv B4 mc Cn Z s8 hx hs4 ⟨pa, v1, v2, e, hT, ⟨t1, e1⟩, ⟨t2, e2⟩⟩ W9
          subst e e1 e2
          have hoT4 := hs4 _ _ hoT
          have fT4 : F2 (RInt B4) us' (bitsL 4 i) := (fT'.mono mono_int hs2).mono mono_int hs4
          refine cturn_pair (R1 _).h W9 hT (EvT.a (EvT.and (Ev.inL eq_int fun_int (x := x.2) (Ev.imp (Ev.local (List.Mem.head _) (up_self _ _ _)) fun v e => ⟨t2, e⟩) (Ev.cell (a := L + 1 + 1) (v := .ref T) (by simp)) (.inl ⟨oT, hoT4, pT⟩) fT4 ?_)
            fun _ => Ev.notInL eq_int fun_int (x := x.1) (Ev.imp (Ev.local (List.Mem.head _) ((up_ne (by decide)).trans (up_self _ _ _))) fun v e => ⟨t1, e⟩) (Ev.cell (a := L + 1 + 1) (v := .ref T) (by simp)) (.inl ⟨oT, hoT4, pT⟩) fT4 ?_)) (fun B5 hs5 _ => Ev.a (Ev.imp (Ev.local (List.Mem.head _) ((up_ne (by decide)).trans (up_self _ _ _))) fun v e => ⟨t1, e⟩))
          · have := (R1 default).u; exact Nat.lt_of_le_of_lt (by show A.units + 3 + _ ≤ A.units + 3 + 37; omega) this
          · have := (R1 default).u; exact Nat.lt_of_le_of_lt (by show A.units + 3 + _ ≤ A.units + 3 + 37; omega) this
        · have hs13 := s02.trans hs3
          by_cases hb : badIn (bitsL 4 i) arcs = []
          · rw [if_pos (decide_eq_true hb)]
            refine wpAny_execs_cons (append_stmt (D := D) (us := us) [(I, As)] W8 (Ev.local (m := m) (by k_mem) hms) (by have := fus.length; have := closedRaw_len arcs i; omega) fun s8 W9 => ?_)
            refine ev_cell (c := L + 1 + 1) W9 (by k_mem) ⟨B3, [(I, As)], _, W9, fun s9 W10 => wpAny_execs_nil (wpAny_execs_nil (hQt .next _ ⟨B3, _, hs13, ⟨_, _, _, _, rfl, hma, hms, ?_⟩, W10⟩))⟩
            rw [closedRaw_succ, if_pos hb]
            exact (fus.mono (mono_list mono_int) hs13).append (.cons ⟨T, us', rfl, ⟨oT, hs3 _ _ hoT, pT⟩, (fT'.mono mono_int hs2).mono mono_int hs3⟩ .nil)
          · rw [if_neg (by simpa using hb)]
            refine wpAny_execs_nil (wpAny_execs_nil (hQt .next _ ⟨B3, _, hs13, ⟨_, _, _, _, rfl, hma, hms, ?_⟩, W8⟩))
            rw [closedRaw_succ, if_neg hb, List.append_nil]
            exact fus.mono (mono_list mono_int) hs13
    · intro B' X' s' hsub hJ hW'
      obtain ⟨c1, c2, m, us, rfl, hma, hms, fus⟩ := hJ
      have hG' := hG.mono hsub
      refine wpAny_execs_cons (wpAny_Return_some (call_b1 hG' hW' boot_sorted ?_))
      refine ev_local hW' (m := m) (by k_mem) hms ?_
      refine sorted_lists hW' (L := L) (m := m) (by k_mem) (.inr (List.Mem.head _)) fus h2 ?_ hnd ?_ fun D' us' ys s5 W5 fy hp hs => ?_
      · have := closedRaw_len arcs 16; omega
      · have := (R1 default).u; exact Nat.lt_of_le_of_lt (by show A.units + 3 + _ ≤ A.units + 3 + 37; omega) this
      · obtain ⟨B2, o, hs2, ho, p, H⟩ := W5.st.freeze
        exact h B2 _ ys s5 (hsub.trans hs2) (W5.re H.drop.drop.drop.drop) ⟨D', us', rfl, ⟨o, ho, p⟩, fy.mono (mono_list mono_int) hs2⟩ hp hs
end Mine

end

section
open PySem PySem.W PyProof.Rows PySem.SeqAt
set_option Elab.async false
set_option linter.unusedVariables false
set_option maxRecDepth 100000
set_option maxHeartbeats 4000000
namespace Mine

def cutOf (arcs : List (Int × Int)) (things : List Int) : List Int := (upTo' arcs.length).filter fun k => decide ((arcs.getD k.toNat (0, 0)).1 ∈ things) && !decide ((arcs.getD k.toNat (0, 0)).2 ∈ things)
def addCut (arcs : List (Int × Int)) (cuts : List (List Int)) (things : List Int) : List (List Int) := if cutOf arcs things = [] ∨ cutOf arcs things ∈ cuts then cuts else cuts ++ [cutOf arcs things]
def cutsOf (arcs : List (Int × Int)) (sets : List (List Int)) : List (List Int) := sets.foldl (addCut arcs) []
theorem cutsOf_len (arcs : List (Int × Int)) : ∀ (sets cuts : List (List Int)), (sets.foldl (addCut arcs) cuts).length ≤ cuts.length + sets.length
  | [], cuts => by simp
  | t :: r, cuts => by
    have h := cutsOf_len arcs r (addCut arcs cuts t)
    have : (addCut arcs cuts t).length ≤ cuts.length + 1 := by unfold addCut; split <;> simp
    simp only [List.foldl_cons, List.length_cons]; omega

inductive CuJ (L D aA sA : Addr) (X : Led) (B : Heap) (arcs : List (Int × Int)) (sets : List (List Int)) (pre : List Value) (B' : Heap) (X' : Led) : Prop
  | mk (c1 : Option Value) (m : Str → Option Value) (us : List Value) (ds : List (List Int)) (hX : X' = (D, LsP us) :: (L, NsP m) :: (L + 1 + 1, CellP c1) :: (L + 1, CellP (some (.ref aA))) :: X) (h1 : Sub B B') (h2 : m (Str.ofString "sets") = some (.ref sA)) (h3 : m (Str.ofString "cuts") = some (.ref D)) (h4 : ds = sets.take pre.length) (h5 : F2 (RList RInt B') us (cutsOf arcs ds)) : CuJ L D aA sA X B arcs sets pre B' X'
theorem cuts_call {prog : Program} {w : World} {A : Around} {E : Value → Shared → Prop} {s₀ s : Shared} {B : Heap} {X : Led} {mg mb : Str → Option Value} {v u : Value} {arcs : List (Int × Int)} {sets : List (List Int)} {Q : Value → Shared → Prop}
    (hG : G (KF w) mg mb B) (hW : W s₀ B X s) (hR : Rm A 3 80) (ha : RArcs B v arcs) (hu : RSets B u sets) (hlen : arcs.length ≤ 5) (hlen2 : sets.length ≤ 64)
    (h : ∀ B' r s', Sub B B' → W s₀ B' X s' → RSets B' r (cutsOf arcs sets) → Q r s') :
    wpAny (model prog w) A (call (.ref 175) [v, u]) Q E s := by
  obtain ⟨aA, aV, rfl, aO, aF⟩ := ha
  obtain ⟨sA, sV, rfl, sO, sF⟩ := hu
  refine call_fnC (binds := [(Str.ofString "arcs", .ref aA), (Str.ofString "sets", .ref sA)]) hG hW (by with_unfolding_all rfl) (by with_unfolding_all rfl) (by with_unfolding_all rfl) (by have := hR.d; omega) (by with_unfolding_all rfl) (by with_unfolding_all rfl) ?_ ?_ (by with_unfolding_all rfl) (by with_unfolding_all rfl) (by with_unfolding_all rfl) ?_
  · intro L x hx
    rcases List.mem_cons.mp hx with rfl | hx
    · exact .inr ⟨by with_unfolding_all rfl, by with_unfolding_all rfl⟩
    · rcases List.mem_singleton.mp hx with rfl
      exact .inl (by with_unfolding_all rfl)
  · intro L p hp
    have hp' : p ∈ [(Str.ofString "things", L + 1 + 1), (Str.ofString "arcs", L + 1)] := hp
    rcases List.mem_cons.mp hp' with rfl | hp'
    · with_unfolding_all rfl
    · rcases List.mem_singleton.mp hp' with rfl
      with_unfolding_all rfl
  · intro L s1 W1
    obtain ⟨m, hm, W2⟩ : Ex2 (fun m : Str → Option Value => m (Str.ofString "sets") = some (.ref sA)) (fun m : Str → Option Value => W s₀ B ((L, NsP m) :: (L + 1 + 1, CellP none) :: (L + 1, CellP (some (.ref aA))) :: X) s1) := ⟨_, by with_unfolding_all rfl, W1⟩
    clear W1
    have R1 := hR.deeper (d := 2) (u := 77)
    have un : ∀ k, k ≤ 77 → A.units + 3 + k < cLine := fun k hk => by have := (R1 default).u; exact Nat.lt_of_le_of_lt (by show A.units + 3 + _ ≤ A.units + 3 + 77; omega) this
    refine wpAny_execs_cons (wpAny_Assign_Name (ev_nil W2 fun D s2 W3 => st_local [(D, LsP [])] W3 fun s3 W4 => ?_))
    refine wpAny_execs_cons (for_list (a := sA) (vs := sV) (R1 _).h
      (CuJ L D aA sA X B arcs sets)
      (ev_local W4 (List.Mem.tail _ (List.Mem.head _)) ((up_ne (by decide)).trans hm) ⟨B, _, rfl, W4, ⟨none, _, [], [], rfl, Sub.refl _, (up_ne (by decide)).trans hm, up_self _ _ _, rfl, .nil⟩, ?_, ?_⟩) ?_)
    · intro pre tv post I As B' X' s' hvs hsub hJ hW'
      refine abs_turn fun Qt hQt => ?_
      obtain ⟨c1, m, us, ds, rfl, hsb, hms, hmc, hds, fus⟩ := hJ
      have hG' := hG.mono hsb
      have hget : sV[pre.length]? = some tv := by rw [hvs]; simp
      obtain ⟨things, et, tA, tV, rfl, tO, tF⟩ := sF.get hget
      have tO' : ∃ o, B'.get? tA = some o ∧ LsP tV o := let ⟨o, ho, p⟩ := tO; ⟨o, hsb _ _ ho, p⟩
      have tF' := tF.mono mono_int hsb
      have aF' := aF.mono (mono_pair mono_int mono_int) hsb
      have aO' : ∃ o, B'.get? aA = some o ∧ LsP aV o := let ⟨o, ho, p⟩ := aO; ⟨o, hsb _ _ ho, p⟩
      have alen := aF.length
      refine as_nameC (c := L + 1 + 1) [(I, As), (D, LsP us), (L, NsP m)] hW' fun s4 W4 => ?_
      refine wpAny_execs_cons (as_comp_range (RB := RInt) (n := arcs.length) (fun k => decide ((arcs.getD k.toNat (0, 0)).1 ∈ things) && !decide ((arcs.getD k.toNat (0, 0)).2 ∈ things)) (fun k => k) (R1 _).h [(I, As), (D, LsP us)] hG' W4
        (alen ▸ Ev.len hG' (Ev.cell (a := L + 1) (v := .ref aA) (by simp)) (.inl aO') (by omega)) mono_int (by rw [sizeLine_eq]; omega) (by omega) ?_ ?_)
      · intro x kv B1 mc Cn Z s5 hx hs1 ⟨tk, ek⟩ W5
        subst ek
        have hx' := mem_upTo'.mp hx
        obtain ⟨k, rfl⟩ := Int.eq_ofNat_of_zero_le hx'.1
        have hkl : k < arcs.length := Int.ofNat_lt.mp hx'.2
        have hav : aV[k]? = some (aV[k]'(by omega)) := List.getElem?_eq_getElem (by omega)
        obtain ⟨arc, ea, pa, v1, v2, epa, hT, ⟨t1, e1⟩, ⟨t2, e2⟩⟩ := aF'.get hav
        have hav' : aV[k]? = some (.ref pa) := by rw [hav, epa]
        have hT1 : B1.IsTuple pa #[v1, v2] := let ⟨o, ho, p⟩ := hT; ⟨o, hs1 _ _ ho, p⟩
        have hga : arcs.getD k (0, 0) = arc := by simp [ea]
        have tO1 : ∃ o, B1.get? tA = some o ∧ LsP tV o := let ⟨o, ho, p⟩ := tO'; ⟨o, hs1 _ _ ho, p⟩
        have aO1 : ∃ o, B1.get? aA = some o ∧ LsP aV o := let ⟨o, ho, p⟩ := aO'; ⟨o, hs1 _ _ ho, p⟩
        refine cturn_name W5 (EvT.a (EvT.and (Ev.inL eq_int fun_int (x := ((arcs.getD (k : Int).toNat (0, 0)).1)) (Ev.imp (Ev.fst (Ev.item (k := k) (Ev.cell (a := L + 1) (v := .ref aA) (by simp)) (Ev.imp (Ev.local (List.Mem.head _) (up_self _ _ _)) fun v e => ⟨tk, e⟩) (.inl aO1) hav' (by omega)) Ev.int hT1) fun v e => ?_) (Ev.cell (a := L + 1 + 1) (v := .ref tA) (by simp)) (.inl tO1) (tF'.mono mono_int hs1) (un _ (by omega)))
          fun _ => Ev.notInL eq_int fun_int (x := ((arcs.getD (k : Int).toNat (0, 0)).2)) (Ev.imp (Ev.snd (Ev.item (k := k) (Ev.cell (a := L + 1) (v := .ref aA) (by simp)) (Ev.imp (Ev.local (List.Mem.head _) (up_self _ _ _)) fun v e => ⟨tk, e⟩) (.inl aO1) hav' (by omega)) Ev.int hT1) fun v e => ?_) (Ev.cell (a := L + 1 + 1) (v := .ref tA) (by simp)) (.inl tO1) (tF'.mono mono_int hs1) (un _ (by omega))))
          (fun B2 hs2 _ => Ev.a (Ev.imp (Ev.local (List.Mem.head _) (up_self _ _ _)) fun v e => ⟨tk, e⟩))
        · rw [Int.toNat_natCast, hga]; exact ⟨t1, by rw [e, e1]⟩
        · rw [Int.toNat_natCast, hga]; exact ⟨t2, by rw [e, e2]⟩
      · intro T us' B1 s5 hs1 fT W5
        have fT' : F2 (RInt B1) us' (cutOf arcs things) := by simpa [cutOf] using fT
        obtain ⟨B2, oT, hs2, hoT, pT, H6⟩ := W5.st.freeze
        have W7 := W5.re H6
        have s02 := hs1.trans hs2
        have fT2 := fT'.mono mono_int hs2
        have fus2 := fus.mono (mono_list mono_int) s02
        have hRT : RList RInt B2 (.ref T) (cutOf arcs things) := ⟨T, us', rfl, ⟨oT, hoT, pT⟩, fT2⟩
        have hdn : cutsOf arcs (sets.take (pre ++ [Value.ref tA]).length) = addCut arcs (cutsOf arcs ds) things := by
          have : sets.take (pre ++ [Value.ref tA]).length = ds ++ [things] := by
            rw [List.length_append, List.length_singleton, List.take_add_one, et, hds]; rfl
          rw [this]; unfold cutsOf; rw [List.foldl_append]; rfl
        refine wpAny_execs_cons (wpAny_If (EvT.and (c := ⟨prog, w, _, _, s₀, B2, _⟩) (EvT.neNil (Ev.local (List.Mem.tail _ (List.Mem.tail _ (List.Mem.head _))) (up_self _ _ _)) (.inl ⟨oT, hoT, pT⟩) fT2 (un _ (by omega)))
          (fun _ => Ev.notInL (eq_list eq_int fun_int) (fun_list fun_int) (x := cutOf arcs things) (Ev.imp (Ev.local (List.Mem.tail _ (List.Mem.tail _ (List.Mem.head _))) (up_self _ _ _)) fun v e => by rw [e]; exact hRT) (Ev.local (List.Mem.tail _ (List.Mem.tail _ (List.Mem.head _))) ((up_ne (by decide)).trans hmc)) (.inr (List.Mem.tail _ (List.Mem.head _))) fus2 (un _ (by omega))) s5 _ _ W7 fun s6 W8 => ?_))
        have hms' : up m (Str.ofString "cut") (Value.ref T) (Str.ofString "sets") = some (.ref sA) := (up_ne (by decide)).trans hms
        have hmc' : up m (Str.ofString "cut") (Value.ref T) (Str.ofString "cuts") = some (.ref D) := (up_ne (by decide)).trans hmc
        have hus : us.length ≤ 1000 := by
          have h1 := fus.length
          have h2 := cutsOf_len arcs ds []
          have h3 : ds.length ≤ 64 := by rw [hds, List.length_take]; omega
          unfold cutsOf at h1
          simp only [List.length_nil] at h2
          omega
        by_cases hb : cutOf arcs things = [] ∨ cutOf arcs things ∈ cutsOf arcs ds
        · rw [if_neg (by rcases hb with hb | hb <;> simp [hb])]
          refine wpAny_execs_nil (wpAny_execs_nil (hQt .next _ ⟨B2, _, s02, ⟨_, _, us, _, rfl, hsb.trans s02, hms', hmc', rfl, ?_⟩, W8⟩))
          rw [hdn]; unfold addCut; rw [if_pos hb]; exact fus2
        · rw [if_pos (by simp only [not_or] at hb; simp [hb.1, hb.2])]
          refine wpAny_execs_cons (append_stmt (D := D) (us := us) [(I, As)] W8 (Ev.local (by k_mem) hmc') hus fun s8 W9 => ?_)
          refine ev_local W9 (by k_mem) (up_self _ _ _) ⟨B2, [(I, As)], _, W9, fun s9 W10 => wpAny_execs_nil (wpAny_execs_nil (hQt .next _ ⟨B2, _, s02, ⟨_, _, _, _, rfl, hsb.trans s02, hms', hmc', rfl, ?_⟩, W10⟩))⟩
          rw [hdn]; unfold addCut; rw [if_neg hb]
          exact fus2.append (.cons hRT .nil)
    · intro B' X' s' hsub hJ hW'
      obtain ⟨c1, m, us, ds, rfl, hsb, hms, hmc, hds, fus⟩ := hJ
      have hl := sF.length
      rw [hl, List.take_length] at hds
      subst hds
      refine wpAny_execs_cons (wpAny_Return_some (ev_local hW' (by k_mem) hmc ?_))
      obtain ⟨B2, o, hs2, ho, p, H⟩ := hW'.st.freeze
      exact h B2 _ _ (hsb.trans hs2) (hW'.re H.drop.drop.drop) ⟨D, us, rfl, ⟨o, ho, p⟩, fus.mono (mono_list mono_int) hs2⟩
    · intro pre B' X' hJ
      obtain ⟨c1, m, us, ds, rfl, hsb, hms, hmc, hds, fus⟩ := hJ
      exact .inl (let ⟨o, ho, p⟩ := sO; ⟨o, hsb _ _ ho, p⟩)
end Mine

end

section
open PySem PySem.W PyProof.Rows PySem.SeqAt
set_option Elab.async false
set_option linter.unusedVariables false
set_option maxRecDepth 100000
set_option maxHeartbeats 4000000
namespace Mine

def missed (cuts : List (List Int)) (some : List Int) : List (List Int) := cuts.filter fun cut => decide ((cut.filter fun k => decide (k ∈ some)) = [])
def sizesOf (n : Nat) (cuts : List (List Int)) (k : Nat) : List Int := ((upTo' k).filter fun num => decide (missed cuts (bitsL n num) = [])).map fun num => ((bitsL n num).length : Int)
theorem sizesOf_succ (n : Nat) (cuts : List (List Int)) (k : Nat) : sizesOf n cuts (k + 1) = sizesOf n cuts k ++ (if missed cuts (bitsL n k) = [] then [((bitsL n k).length : Int)] else []) := by
  unfold sizesOf
  rw [upTo'_succ, List.filter_append, List.map_append]
  congr 1
  by_cases h : missed cuts (bitsL n k) = [] <;> simp [h]
theorem sizesOf_len (n : Nat) (cuts : List (List Int)) (k : Nat) : (sizesOf n cuts k).length ≤ k := by
  unfold sizesOf
  rw [List.length_map]
  refine Nat.le_trans (List.length_filter_le _ _) ?_
  simp [upTo']
theorem pow_le32 {n : Nat} (h : n ≤ 5) : 2 ^ n ≤ 32 := by
  have : n ∈ List.range 6 := List.mem_range.mpr (by omega)
  revert this; clear h; revert n; decide

inductive FwJ (L D aA sA : Addr) (X : Led) (arcs : List (Int × Int)) (cuts : List (List Int)) (i : Nat) (B' : Heap) (X' : Led) : Prop
  | mk (c1 c2 : Option Value) (m : Str → Option Value) (us : List Value) (hX : X' = (D, LsP us) :: (L, NsP m) :: (L + 1 + 1, CellP c1) :: (L + 1, CellP c2) :: X) (h1 : m (Str.ofString "arcs") = some (.ref aA)) (h2 : m (Str.ofString "cuts") = some (.ref sA)) (h3 : m (Str.ofString "sizes") = some (.ref D)) (h4 : F2 (RInt B') us (sizesOf arcs.length cuts i)) : FwJ L D aA sA X arcs cuts i B' X'
theorem fewest_call {prog : Program} {w : World} {A : Around} {E : Value → Shared → Prop} {s₀ s : Shared} {B : Heap} {X : Led} {mg mb : Str → Option Value} {v u : Value} {arcs : List (Int × Int)} {cuts : List (List Int)} {Q : Value → Shared → Prop}
    (hG : G (KF w) mg mb B) (hW : W s₀ B X s) (hR : Rm A 3 80) (ha : RArcs B v arcs) (hu : RSets B u cuts) (hlen : arcs.length ≤ 5) (hlen2 : cuts.length ≤ 64) (hlen3 : ∀ c ∈ cuts, c.length ≤ 64)
    (hne : 0 < (sizesOf arcs.length cuts (2 ^ arcs.length)).length)
    (h : ∀ M t s' B', Sub B B' → W s₀ B' X s' → M ∈ sizesOf arcs.length cuts (2 ^ arcs.length) → (∀ a ∈ sizesOf arcs.length cuts (2 ^ arcs.length), M ≤ a) → Q (.int M t) s') :
    wpAny (model prog w) A (call (.ref 180) [v, u]) Q E s := by
  obtain ⟨aA, aV, rfl, aO, aF⟩ := ha
  obtain ⟨sA, sV, rfl, sO, sF⟩ := hu
  refine call_fnC (binds := [(Str.ofString "arcs", .ref aA), (Str.ofString "cuts", .ref sA)]) hG hW (by with_unfolding_all rfl) (by with_unfolding_all rfl) (by with_unfolding_all rfl) (by have := hR.d; omega) (by with_unfolding_all rfl) (by with_unfolding_all rfl) ?_ ?_ (by with_unfolding_all rfl) (by with_unfolding_all rfl) (by with_unfolding_all rfl) ?_
  · intro L x hx
    rcases List.mem_cons.mp hx with rfl | hx
    · exact .inl (by with_unfolding_all rfl)
    · rcases List.mem_singleton.mp hx with rfl
      exact .inl (by with_unfolding_all rfl)
  · intro L p hp
    have hp' : p ∈ [(Str.ofString "some", L + 1 + 1), (Str.ofString "number", L + 1)] := hp
    rcases List.mem_cons.mp hp' with rfl | hp'
    · with_unfolding_all rfl
    · rcases List.mem_singleton.mp hp' with rfl
      with_unfolding_all rfl
  · intro L s1 W1
    obtain ⟨m, hma, hmc, W2⟩ : Ex3 (fun m : Str → Option Value => m (Str.ofString "arcs") = some (.ref aA)) (fun m : Str → Option Value => m (Str.ofString "cuts") = some (.ref sA)) (fun m : Str → Option Value => W s₀ B ((L, NsP m) :: (L + 1 + 1, CellP none) :: (L + 1, CellP none) :: X) s1) := ⟨_, by with_unfolding_all rfl, by with_unfolding_all rfl, W1⟩
    clear W1
    have R1 := hR.deeper (d := 2) (u := 77)
    have un : ∀ k, k ≤ 77 → A.units + 3 + k < cLine := fun k hk => by have := (R1 default).u; exact Nat.lt_of_le_of_lt (by show A.units + 3 + _ ≤ A.units + 3 + 77; omega) this
    have alen := aF.length
    have hp32 := pow_le32 hlen
    refine wpAny_execs_cons (wpAny_Assign_Name (ev_nil W2 fun D s2 W3 => st_local [(D, LsP [])] W3 fun s3 W4 => ?_))
    have aOB : LAt B ((D, LsP []) :: (L, NsP (up m (Str.ofString "sizes") (.ref D))) :: (L + 1 + 1, CellP none) :: (L + 1, CellP none) :: X) aA aV := .inl aO
    refine wpAny_execs_cons (for_range (n := 2 ^ arcs.length) (R1 _).h hG W4
      (Ev.imp (Ev.pow2 (k := arcs.length) Ev.int (alen ▸ Ev.len hG (Ev.local (by k_mem) ((up_ne (by decide)).trans hma)) aOB (by omega)) (by omega)) fun v ⟨t, e⟩ => ⟨t, by rw [e]; simp⟩) (by omega)
      (FwJ L D aA sA X arcs cuts)
      ⟨none, none, _, [], rfl, (up_ne (by decide)).trans hma, (up_ne (by decide)).trans hmc, up_self _ _ _, .nil⟩ ?_ ?_)
    · intro i nv I As B' X' s' hi hv hsub hJ hW'
      refine abs_turn fun Qt hQt => ?_
      obtain ⟨c1, c2, m, us, rfl, hma, hmc, hms, fus⟩ := hJ
      obtain ⟨tn, rfl⟩ := hv
      have hG' := hG.mono hsub
      have aO' : ∃ o, B'.get? aA = some o ∧ LsP aV o := let ⟨o, ho, p⟩ := aO; ⟨o, hsub _ _ ho, p⟩
      refine as_nameC (c := L + 1) [(I, As), (D, LsP us), (L, NsP m), (L + 1 + 1, CellP c1)] hW' fun s4 W4 => ?_
      refine wpAny_execs_cons (wpAny_Assign_Name (ev_comp_range (RB := RInt) (n := arcs.length) (fun k => decide (((i : Int).fdiv (2 ^ k.toNat)).fmod 2 = 1)) (fun k => k) (R1 _).h hG' W4
        (alen ▸ Ev.len hG' (Ev.local (by k_mem) hma) (.inl aO') (by omega)) mono_int (by rw [sizeLine_eq]; omega) (by omega) ?_ ?_))
      · intro x kv B1 mc Cn Z s5 hx hs1 ⟨tk, ek⟩ W5
        subst ek
        have hx' := mem_upTo'.mp hx
        obtain ⟨k, rfl⟩ := Int.eq_ofNat_of_zero_le hx'.1
        have hk5 : k < arcs.length := Int.ofNat_lt.mp hx'.2
        refine cturn_name W5 (EvT.a ?_) (fun B2 hs2 _ => Ev.a ?_)
        · refine Ev.eqI (Ev.mod (Ev.fdiv (a := i) (b := 2 ^ k) (Ev.imp (Ev.cell (a := L + 1) (v := .int i tn) (by simp)) fun v e => ⟨tn, e⟩) (Ev.pow2 (k := k) Ev.int (Ev.imp (Ev.local (List.Mem.head _) (up_self _ _ _)) fun v e => ⟨tk, e⟩) (by omega)) ?_ ?_) Ev.int (by decide)) Ev.int
          · exact Int.ne_of_gt (Int.pow_pos (by decide))
          · exact pow_small (by omega) (by omega)
        · exact Ev.imp (Ev.local (List.Mem.head _) (up_self _ _ _)) fun v e => ⟨tk, e⟩
      · intro T us' B1 s5 hs1 fT W5
        have fT' : F2 (RInt B1) us' (bitsL arcs.length i) := by simpa [bitsL] using fT
        have bl : (bitsL arcs.length i).length ≤ arcs.length := by unfold bitsL; refine Nat.le_trans (List.length_filter_le _ _) ?_; simp [upTo']
        refine st_cell (c := L + 1 + 1) [(T, LsP us'), (I, As), (D, LsP us), (L, NsP m)] W5 fun s6 W6 => ?_
        obtain ⟨B2, oT, hs2, hoT, pT, H6⟩ := W6.st.freeze
        have W7 := W6.re H6
        have s02 := hs1.trans hs2
        have hB2 := hsub.trans s02
        have fT2 := fT'.mono mono_int hs2
        have sO2 : ∃ o, B2.get? sA = some o ∧ LsP sV o := let ⟨o, ho, p⟩ := sO; ⟨o, hB2 _ _ ho, p⟩
        have sF2 := sF.mono (mono_list mono_int) hB2
        refine wpAny_execs_cons (wpAny_If (EvTA.eqNil (c := ⟨prog, w, _, _, s₀, B2, _⟩) (R := RList RInt) (eq_list eq_int fun_int) (mono_list mono_int) (xs := missed cuts (bitsL arcs.length i)) (EvA.froze (mono_list mono_int) fun s Q E hW k => ?_) (un _ (by omega)) s6 _ _ W7 fun s7 B3 hs3 W8 => ?_))
        · refine ev_comp_list (RA := RList RInt) (RB := RList RInt) (fun cut => decide ((cut.filter fun k => decide (k ∈ bitsL arcs.length i)) = [])) (fun c => c) (R1 _).h (fun Q' hq => ev_local hW (m := m) (by k_mem) hmc hq) hW (.inl sO2) sF2 (mono_list mono_int) (mono_list mono_int) (by rw [sizeLine_eq]; omega) ?_ (by simpa [missed] using k)
          intro cut cv B4 mc Cn Z s8 hx hs4 hc W9
          obtain ⟨cA, cV, rfl, cO, cF⟩ := id hc
          have hoT4 := hs4 _ _ hoT
          have fT4 : F2 (RInt B4) us' (bitsL arcs.length i) := fT2.mono mono_int hs4
          have cl3 := hlen3 cut hx
          refine cturn_name W9 (EvTA.eqNil (R := RInt) eq_int mono_int (xs := cut.filter fun k => decide (k ∈ bitsL arcs.length i)) (EvA.froze mono_int fun s Q E hW k => ?_) (un _ (by omega))) (fun B5 hs5 _ => Ev.aR (Ev.imp (Ev.local (List.Mem.head _) (up_self _ _ _)) fun v e => by rw [e]; exact mono_list mono_int _ _ _ _ hs5 hc))
          refine ev_comp_list (RA := RInt) (RB := RInt) (fun k => decide (k ∈ bitsL arcs.length i)) (fun k => k) (R1 _).h (fun Q' hq => ev_local hW (List.Mem.head _) (up_self _ _ _) hq) hW (.inl cO) cF mono_int mono_int (by rw [sizeLine_eq]; omega) ?_ (by simpa using k)
          intro x xv B6 mc' Cn' Z' s10 hx' hs6 ⟨tx, ex⟩ W11
          subst ex
          exact cturn_name W11 (EvT.a (Ev.inL eq_int fun_int (x := x) (Ev.imp (Ev.local (List.Mem.head _) (up_self _ _ _)) fun v e => ⟨tx, e⟩) (Ev.cell (a := L + 1 + 1) (v := .ref T) (by simp)) (.inl ⟨oT, hs6 _ _ hoT4, pT⟩) (fT4.mono mono_int hs6) (un _ (by omega)))) (fun B7 hs7 _ => Ev.a (Ev.imp (Ev.local (List.Mem.head _) (up_self _ _ _)) fun v e => ⟨tx, e⟩))
        · have hs13 := s02.trans hs3
          by_cases hb : missed cuts (bitsL arcs.length i) = []
          · rw [if_pos (decide_eq_true hb)]
            refine wpAny_execs_cons (append_stmt (D := D) (us := us) [(I, As)] W8 (Ev.local (m := m) (by k_mem) hms) (by have := fus.length; have := sizesOf_len arcs.length cuts i; omega) fun s8 W9 => ?_)
            have hl : us'.length = (bitsL arcs.length i).length := fT'.length
            refine (Ev.len (c := ⟨prog, w, _, _, s₀, B3, _⟩) (hG'.mono hs13) (Ev.cell (a := L + 1 + 1) (v := .ref T) (by k_mem)) (.inl ⟨oT, hs3 _ _ hoT, pT⟩) (by omega)) s8 _ _ W9 fun s9 v9 ⟨t9, e9⟩ W10 => ?_
            subst e9
            refine ⟨B3, [(I, As)], _, W10, fun s11 W11 => wpAny_execs_nil (wpAny_execs_nil (hQt .next _ ⟨B3, _, hs13, ⟨_, _, _, _, rfl, hma, hmc, hms, ?_⟩, W11⟩))⟩
            rw [sizesOf_succ, if_pos hb]
            exact (fus.mono mono_int hs13).append (.cons ⟨t9, by rw [hl]⟩ .nil)
          · rw [if_neg (by simpa using hb)]
            refine wpAny_execs_nil (wpAny_execs_nil (hQt .next _ ⟨B3, _, hs13, ⟨_, _, _, _, rfl, hma, hmc, hms, ?_⟩, W8⟩))
            rw [sizesOf_succ, if_neg hb, List.append_nil]
            exact fus.mono mono_int hs13
    · intro B' X' s' hsub hJ hW'
      obtain ⟨c1, c2, m, us, rfl, hma, hmc, hms, fus⟩ := hJ
      have hG' := hG.mono hsub
      refine wpAny_execs_cons (wpAny_Return_some (call_b1 hG' hW' boot_min ?_))
      refine ev_local hW' (m := m) (by k_mem) hms ?_
      refine min_listW (R1 _).h hW' (.inr (List.Mem.head _)) fus hne fun M t s5 W5 hM hle => ?_
      exact h M t s5 B' hsub (W5.re W5.st.drop.drop.drop.drop) hM hle
end Mine

end

section
open PySem PySem.W PyProof.Rows PySem.SeqAt
set_option Elab.async false
set_option linter.unusedVariables false
set_option maxRecDepth 100000
set_option maxHeartbeats 4000000
namespace Mine

theorem LAt.lsP {B h : Heap} {X : Led} {a : Addr} {vs : List Value} (x : LAt B X a vs) (H : St B X h) : ∃ n, h.get? a = some { cls := .type "list", data := .seq vs.toArray n } := by
  rcases x with ⟨o, ho, n, e⟩ | hm
  · subst e; exact ⟨n, H.sub _ _ ho⟩
  · obtain ⟨o, ho, n, e⟩ := H.at hm; subst e; exact ⟨n, ho⟩

section
variable {prog : Program} {w : World} {A : Around} {E : Value → Shared → Prop} {s₀ s : Shared} {B : Heap} {X Y pre post : Led} {env : Env} {K : Frag} {mg mb : Str → Option Value}
/-- xs.extend(e), e a list -/
theorem extend_stmt {o e : Expr} {apos pos p' : Pos} {D : Addr} {us : List Value} {Q : Flow → Shared → Prop} (pre : Led) (hW : W s₀ B (pre ++ (D, LsP us) :: post) s)
    (ho : Ev ⟨prog, w, A, env, s₀, B, pre ++ (D, LsP us) :: post⟩ o (· = .ref D))
    (h : ∀ s₁, W s₀ B (pre ++ (D, LsP us) :: post) s₁ → wpAny (model prog w) A (eval e env) (fun v s₂ => ∃ B' pre' post' T ws, v = .ref T ∧ W s₀ B' (pre' ++ (D, LsP us) :: post') s₂ ∧ LAt B' (pre' ++ (D, LsP us) :: post') T ws ∧ us.length + ws.length ≤ 2 ^ 20 ∧
      (∀ s', W s₀ B' (pre' ++ (D, LsP (us ++ ws)) :: post') s' → Q .next s')) E s₁)
    (hbase : attributeBase o "extend" env (eval o env) = eval o env := by rfl)
    (hns : starEach [e] env = [(false, eval e env)] := by rfl)
    (hline : (apos.endLine == pos.line) = true := by rfl)
    (hi : interactive env = false := by rfl) (hs : swapsWith (.Call (.Attribute o "extend" apos) [e] [] pos) none p'.line env = pure false := by rfl) :
    wpAny (model prog w) A (exec (.Expr (.Call (.Attribute o "extend" apos) [e] [] pos) p') env) Q E s := by
  refine wpAny_Expr ?_ hi hs
  refine wpAny_Call_method hbase (by rw [hns]; rfl) hline F.plainAttrs_list F.slot_list_extend F.type_list_extend (ho s _ _ hW fun s₁ v ev W1 => ?_)
  subst ev
  obtain ⟨n, hD⟩ := LAt.lsP (a := D) (vs := us) (.inr (by simp)) W1.st
  refine ⟨⟨_, hD, rfl⟩, (fun a ea => by cases ea; exact ⟨_, hD, rfl⟩), ?_⟩
  rw [hns]
  refine PySem.P.extend_list (wpAny_mono (h s₁ W1) (fun v s₂ h₂ => ?_) fun _ _ x => x)
  obtain ⟨B', pre', post', T, ws, rfl, W2, hT, hz, k⟩ := h₂
  obtain ⟨n1, hD1⟩ := LAt.lsP (a := D) (vs := us) (.inr (by simp)) W2.st
  obtain ⟨n2, hT2⟩ := hT.lsP W2.st
  have hpw : (2 : Nat) ^ 20 ≤ sizeLine := by rw [sizeLine_eq]; decide
  refine ⟨T, us.toArray, ws.toArray, n1, n2, by simp; omega, by simp; omega, ?_, rfl, hD1, hT2, ?_⟩
  · simp [Builtin.List.listTooLong]; omega
  · refine k _ (W2.to (tk := s₂.toks) (W2.st.upd pre' (Heap.SameBut.update ..) (LsP.of ?_)))
    have e' := PySem.IsL.update hD1 (fun xs => xs ++ ws.toArray)
    have e2 : us.toArray ++ ws.toArray = (us ++ ws).toArray := by simp
    rw [e2] at e'
    exact ⟨_, e'⟩
end

def SldSpec (w : World) : Prop := ∀ (prog : Program) (A : Around) (E : Value → Shared → Prop) (s₀ s : Shared) (B : Heap) (X : Led) (mg mb : Str → Option Value) (v u : Value) (xs ys : List Int) (Q : Value → Shared → Prop),
  G (KF w) mg mb B → W s₀ B X s → Rm A 2 60 → FS A X → RList RInt B v xs → RList RInt B u ys → xs.Pairwise (· < ·) → ys.Pairwise (· < ·) → xs.length ≤ 64 → ys.length ≤ 64 →
  (∀ B' r p s', Sub B B' → W s₀ B' X s' → RPair (RList RInt) (RList RInt) B' r p → (p = (xs, ys) ↔ ∀ x ∈ xs, x ∉ ys) → Q r s') → wpAny (model prog w) A (call (.ref 148) [v, u]) Q E s

def disj (a b : List Int) : Bool := decide (∀ x ∈ a, x ∉ b)
def clash (cut : List Int) (fam : List (List Int)) : List (List Int) := fam.filter fun one => !disj one cut
def addFam (fams : List (List (List Int))) (cut : List Int) : List (List (List Int)) := fams ++ (fams.filter fun fam => decide (clash cut fam = [])).map fun fam => fam ++ [cut]
def famsOf (cuts : List (List Int)) : List (List (List Int)) := cuts.foldl addFam [[]]
theorem addFam_len (fams : List (List (List Int))) (cut : List Int) : (addFam fams cut).length ≤ 2 * fams.length := by
  unfold addFam
  rw [List.length_append, List.length_map]
  have := List.length_filter_le (fun fam => decide (clash cut fam = [])) fams
  omega
theorem fams_len : ∀ (cuts : List (List Int)) (fams : List (List (List Int))), (cuts.foldl addFam fams).length ≤ 2 ^ cuts.length * fams.length
  | [], fams => by simp
  | c :: r, fams => by
    have h1 := fams_len r (addFam fams c)
    have h2 := addFam_len fams c
    rw [List.foldl_cons, List.length_cons, Nat.pow_succ]
    calc _ ≤ 2 ^ r.length * (addFam fams c).length := h1
      _ ≤ 2 ^ r.length * (2 * fams.length) := Nat.mul_le_mul_left _ h2
      _ = _ := by rw [Nat.mul_assoc]
theorem fams_mem : ∀ (cuts : List (List Int)) (fams : List (List (List Int))) (k : Nat), (∀ f ∈ fams, f.length ≤ k) → ∀ f ∈ cuts.foldl addFam fams, f.length ≤ k + cuts.length
  | [], fams, k, h, f, hf => h f hf
  | c :: r, fams, k, h, f, hf => by
    have := fams_mem r (addFam fams c) (k + 1) (fun g hg => by
      rcases List.mem_append.mp hg with hg | hg
      · have := h g hg; omega
      · obtain ⟨g', hg', rfl⟩ := List.mem_map.mp hg
        have := h g' (List.mem_filter.mp hg').1
        simp; omega) f hf
    simp only [List.length_cons]; omega
theorem fams_el : ∀ (cuts : List (List Int)) (fams : List (List (List Int))) (P : List Int → Prop), (∀ f ∈ fams, ∀ c ∈ f, P c) → (∀ c ∈ cuts, P c) → ∀ f ∈ cuts.foldl addFam fams, ∀ c ∈ f, P c
  | [], fams, P, h, _, f, hf => h f hf
  | c :: r, fams, P, h, hc, f, hf => fams_el r (addFam fams c) P (fun g hg => by
      rcases List.mem_append.mp hg with hg | hg
      · exact h g hg
      · obtain ⟨g', hg', rfl⟩ := List.mem_map.mp hg
        intro x hx
        rcases List.mem_append.mp hx with hx | hx
        · exact h g' (List.mem_filter.mp hg').1 x hx
        · rw [List.mem_singleton.mp hx]; exact hc c (.head _)) (fun x hx => hc x (.tail _ hx)) f hf

abbrev RFam : Rel (List (List Int)) := RList (RList RInt)

inductive MoJ (L D sA : Addr) (X : Led) (B : Heap) (cuts : List (List Int)) (pre : List Value) (B' : Heap) (X' : Led) : Prop
  | mk (c1 : Option Value) (m : Str → Option Value) (us : List Value) (ds : List (List Int)) (hX : X' = (D, LsP us) :: (L, NsP m) :: (L + 1, CellP c1) :: X) (h1 : Sub B B') (h2 : m (Str.ofString "cuts") = some (.ref sA)) (h3 : m (Str.ofString "families") = some (.ref D)) (h4 : ds = cuts.take pre.length) (h5 : F2 (RFam B') us (famsOf ds)) : MoJ L D sA X B cuts pre B' X'
theorem most_call {prog : Program} {w : World} {A : Around} {E : Value → Shared → Prop} {s₀ s : Shared} {B : Heap} {X : Led} {mg mb : Str → Option Value} {u : Value} {cuts : List (List Int)} {Q : Value → Shared → Prop}
    (hsld : SldSpec w) (hG : G (KF w) mg mb B) (hW : W s₀ B X s) (hR : Rm A 4 100) (hF : FS A X) (hu : RSets B u cuts) (hlen : cuts.length ≤ 16) (hinc : ∀ c ∈ cuts, c.Pairwise (· < ·)) (hlen3 : ∀ c ∈ cuts, c.length ≤ 64)
    (h : ∀ M t s' B', Sub B B' → W s₀ B' X s' → M ∈ (famsOf cuts).map (fun f => (f.length : Int)) → (∀ a ∈ (famsOf cuts).map (fun f => (f.length : Int)), a ≤ M) → Q (.int M t) s') :
    wpAny (model prog w) A (call (.ref 185) [u]) Q E s := by
  obtain ⟨sA, sV, rfl, sO, sF⟩ := hu
  refine call_fnC (binds := [(Str.ofString "cuts", .ref sA)]) hG hW (by with_unfolding_all rfl) (by with_unfolding_all rfl) (by with_unfolding_all rfl) (by have := hR.d; omega) (by with_unfolding_all rfl) (by with_unfolding_all rfl) ?_ ?_ (by with_unfolding_all rfl) (by with_unfolding_all rfl) (by with_unfolding_all rfl) ?_
  · intro L x hx
    rcases List.mem_singleton.mp hx with rfl
    exact .inl (by with_unfolding_all rfl)
  · intro L p hp
    have hp' : p ∈ [(Str.ofString "cut", L + 1)] := hp
    rcases List.mem_singleton.mp hp' with rfl
    with_unfolding_all rfl
  · intro L s1 W1
    obtain ⟨m, hmc, W2⟩ : Ex2 (fun m : Str → Option Value => m (Str.ofString "cuts") = some (.ref sA)) (fun m : Str → Option Value => W s₀ B ((L, NsP m) :: (L + 1, CellP none) :: X) s1) := ⟨_, by with_unfolding_all rfl, W1⟩
    clear W1
    have R1 := hR.deeper (d := 3) (u := 97)
    have un : ∀ k, k ≤ 97 → A.units + 3 + k < cLine := fun k hk => by have := (R1 default).u; exact Nat.lt_of_le_of_lt (by show A.units + 3 + _ ≤ A.units + 3 + 97; omega) this
    have hpow : 2 ^ cuts.length ≤ 2 ^ 16 := Nat.pow_le_pow_right (by decide) hlen
    -- families = [[]]
    refine wpAny_execs_cons (wpAny_Assign_Name (ev_one (s₀ := s₀) (ev_nil W2 fun N s2 W3 => ⟨B, _, W3, fun D s3 W4 => ?_⟩)))
    obtain ⟨B0, oN, hs0, hoN, pN, H0⟩ := W4.st.freezeAt [(D, LsP [.ref N])]
    have W5 := W4.re H0
    refine st_local [(D, LsP [.ref N])] W5 fun s4 W6 => ?_
    have sO0 : ∃ o, B0.get? sA = some o ∧ LsP sV o := let ⟨o, ho, p⟩ := sO; ⟨o, hs0 _ _ ho, p⟩
    refine wpAny_execs_cons (for_list (a := sA) (vs := sV) (R1 _).h
      (MoJ L D sA X B cuts)
      (ev_local W6 (List.Mem.tail _ (List.Mem.head _)) ((up_ne (by decide)).trans hmc) ⟨B0, _, rfl, W6, ⟨none, _, _, [], rfl, hs0, (up_ne (by decide)).trans hmc, up_self _ _ _, rfl, .cons ⟨N, [], rfl, ⟨oN, hoN, pN⟩, .nil⟩ .nil⟩, ?_, ?_⟩) ?_)
    · intro pre tv post I As B' X' s' hvs hsub hJ hW'
      refine abs_turn fun Qt hQt => ?_
      obtain ⟨c1, m, us, ds, rfl, hsb, hms, hmf, hds, fus⟩ := hJ
      have hG' := hG.mono hsb
      have hget : sV[pre.length]? = some tv := by rw [hvs]; simp
      obtain ⟨cut, et, hcut⟩ := sF.get hget
      have hcm : cut ∈ cuts := List.mem_of_getElem? et
      have hcut' := mono_list mono_int _ _ _ _ hsb hcut
      have dsl : ds.length ≤ cuts.length := by rw [hds, List.length_take]; omega
      have fl1 : (famsOf ds).length ≤ 2 ^ 16 := by
        have h1 := fams_len ds [[]]
        have h2 : 2 ^ ds.length ≤ 2 ^ 16 := Nat.pow_le_pow_right (by decide) (by omega)
        unfold famsOf; simp at h1; omega
      have fl2 : ∀ f ∈ famsOf ds, f.length ≤ 16 := fun f hf => by
        have := fams_mem ds [[]] 0 (fun f hf => by simp at hf; subst hf; simp) f hf
        omega
      have dsm : ∀ c ∈ ds, c ∈ cuts := fun c hc => by rw [hds] at hc; exact List.mem_of_mem_take hc
      have fl3 : ∀ f ∈ famsOf ds, ∀ c ∈ f, c ∈ cuts := fams_el ds [[]] (· ∈ cuts) (fun f hf c hc => by simp at hf; subst hf; cases hc) dsm
      refine as_nameC (c := L + 1) [(I, As), (D, LsP us), (L, NsP m)] hW' fun s4 W4 => ?_
      refine wpAny_execs_cons (extend_stmt (D := D) (us := us) [(I, As)] W4 (Ev.local (by k_mem) hmf) fun s5 W5 => ?_)
      refine ev_comp_list (RA := RFam) (RB := RFam) (fun fam => decide (clash cut fam = [])) (fun fam => fam ++ [cut]) (R1 _).h (fun Q' hq => ev_local W5 (m := m) (by k_mem) hmf hq) W5 (.inr (List.Mem.tail _ (List.Mem.head _))) fus (mono_list (mono_list mono_int)) (mono_list (mono_list mono_int)) (by rw [sizeLine_eq]; omega) ?_ ?_
      · intro fam fv B1 mc Cn Z s6 hfam hs1 hf W7
        obtain ⟨fA, fV, rfl, fO, fF⟩ := id hf
        have hcut1 := mono_list mono_int _ _ _ _ hs1 hcut'
        have fl := fl2 fam hfam
        refine cturn_name W7 (EvTA.eqNil (R := RList RInt) (eq_list eq_int fun_int) (mono_list mono_int) (xs := clash cut fam) (EvA.froze (mono_list mono_int) fun s Q E hW k => ?_) (un _ (by omega))) (fun B2 hs2 _ => ?_)
        · refine ev_comp_list (RA := RList RInt) (RB := RList RInt) (fun one => !disj one cut) (fun one => one) (R1 _).h (fun Q' hq => ev_local hW (List.Mem.head _) (up_self _ _ _) hq) hW (.inl fO) fF (mono_list mono_int) (mono_list mono_int) (by rw [sizeLine_eq]; omega) ?_ (by simpa [clash] using k)
          intro one ov B3 mc' Cn' Z' s8 hone hs3 ho W9
          have honec := fl3 fam hfam one hone
          have hcut3 := mono_list mono_int _ _ _ _ hs3 hcut1
          refine cturn_name W9 (fun s9 Q9 E9 W10 k9 => ?_) (fun B5 hs5 _ => Ev.aR (Ev.imp (Ev.local (List.Mem.head _) (up_self _ _ _)) fun v e => by rw [e]; exact mono_list mono_int _ _ _ _ hs5 ho))
          refine wpAny_isTrue_Compare1 (call_g (K := KF w) (f := 148) (B := B3) ((hG'.mono hs1).mono hs3) W10 (by with_unfolding_all rfl) (by with_unfolding_all rfl) ?_) (by with_unfolding_all rfl)
          refine Calls.spliced_cons (ev_local W10 (List.Mem.head _) (up_self _ _ _) ?_)
          refine Calls.spliced_cons (ev_cell (c := L + 1) (v := tv) W10 (by simp) ?_)
          refine Calls.spliced_nil ⟨⟨B3, _, Sub.refl _, W10⟩, ?_⟩
          refine hsld prog _ _ s₀ s9 B3 _ mg mb _ _ one cut _ ((hG'.mono hs1).mono hs3) W10 ((R1 _).le (by decide) (by decide)) (hF.deeper (L := L) (m := m) (fun p hp => by simp [hp]) (by simp) rfl rfl) ho hcut3 (hinc _ honec) (hinc _ hcm) (hlen3 _ honec) (hlen3 _ hcm) fun B4 r p s10 hs4 W11 hr hp => ?_
          refine wpAny_Tuple (Calls.spliced_cons (ev_local W11 (List.Mem.head _) (up_self _ _ _) (Calls.spliced_cons (ev_cell (c := L + 1) (v := tv) W11 (by simp) (Calls.spliced_nil ⟨by rw [sizeLine_eq]; simp, ?_⟩)))))
          have W12 := W11.to (tk := s10.toks) (W11.st.new (o := { cls := .type "tuple", data := .seq [ov, tv].toArray }) rfl (P := fun o => o = { cls := .type "tuple", data := .seq [ov, tv].toArray }) rfl)
          obtain ⟨B5, oT, hs5, hoT, eT, H5⟩ := W12.st.freeze
          have W13 := W12.re H5
          subst eT
          refine ne_2 W13 (mono_pair (mono_list mono_int) (mono_list mono_int) _ _ _ _ hs5 hr) (q := (one, cut)) ⟨_, ov, tv, rfl, ⟨_, hoT, rfl, _, rfl⟩, mono_list mono_int _ _ _ _ (hs4.trans hs5) ho, mono_list mono_int _ _ _ _ (hs4.trans hs5) hcut3⟩ (un _ (by omega)) ?_
          refine wpAny_truthy_bool ?_
          have e : (!decide (p = (one, cut))) = !disj one cut := by unfold disj; congr 1; exact decide_eq_decide.mpr hp
          rw [e]
          exact k9 _ B5 (hs4.trans hs5) W13
        · intro s9 Q9 E9 W9 k9
          have hf2 := mono_list (mono_list mono_int) _ _ _ _ hs2 hf
          have hcut2 := mono_list mono_int _ _ _ _ hs2 hcut1
          refine wpAny_BinOp (ev_local W9 (List.Mem.head _) (up_self _ _ _) ?_)
          refine ev_one (s₀ := s₀) (ev_cell (c := L + 1) (v := tv) W9 (by simp) ⟨B2, _, W9, fun D1 s10 W10 => ?_⟩)
          have fO2 : ∃ o, B2.get? fA = some o ∧ LsP fV o := let ⟨o, ho, p⟩ := fO; ⟨o, hs2 _ _ ho, p⟩
          have fl' := fF.length
          refine add_listW W10 (.inl fO2) (.inr (List.Mem.head _)) (by simp; omega) fun D2 s11 W11 => ?_
          obtain ⟨B5, oT, hs5, hoT, pT, H5⟩ := W11.st.freeze
          refine k9 s11 B5 _ hs5 ⟨D2, _, rfl, ⟨oT, hoT, pT⟩, ?_⟩ (W11.re H5.drop)
          exact ((fF.mono (mono_list mono_int) hs2).append (.cons hcut2 .nil)).mono (mono_list mono_int) hs5
      · intro T ws B1 s6 hs1 fT W7
        have hw := fT.length
        have hul := fus.length
        refine ⟨B1, [(T, LsP ws), (I, As)], _, T, ws, rfl, W7, .inr (List.Mem.head _), ?_, fun s7 W8 => wpAny_execs_nil (hQt .next _ ⟨B1, _, hs1, ⟨_, _, _, _, rfl, hsb.trans hs1, hms, hmf, rfl, ?_⟩, W8.re W8.st.drop⟩)⟩
        · rw [List.length_map] at hw
          have := List.length_filter_le (fun fam => decide (clash cut fam = [])) (famsOf ds)
          omega
        · have : cuts.take (pre ++ [tv]).length = ds ++ [cut] := by
            rw [List.length_append, List.length_singleton, List.take_add_one, et, hds]; rfl
          rw [this]; unfold famsOf; rw [List.foldl_append]
          exact (fus.mono (mono_list (mono_list mono_int)) hs1).append fT
    · intro B' X' s' hsub hJ hW'
      obtain ⟨c1, m, us, ds, rfl, hsb, hms, hmf, hds, fus⟩ := hJ
      have hl := sF.length
      rw [hl, List.take_length] at hds
      subst hds
      have hG' := hG.mono hsb
      have fl1 : (famsOf ds).length ≤ 2 ^ 16 := by
        have h1 := fams_len ds [[]]
        unfold famsOf; simp at h1; omega
      have fl2 : ∀ f ∈ famsOf ds, f.length ≤ 16 := fun f hf => by
        have := fams_mem ds [[]] 0 (fun f hf => by simp at hf; subst hf; simp) f hf
        omega
      refine wpAny_execs_cons (wpAny_Return_some (call_b1 hG' hW' boot_max ?_))
      refine ev_comp_list (RA := RFam) (RB := RInt) (fun _ => true) (fun f => (f.length : Int)) (R1 _).h (fun Q' hq => ev_local hW' (m := m) (by k_mem) hmf hq) hW' (.inr (List.Mem.head _)) fus (mono_list (mono_list mono_int)) mono_int (by rw [sizeLine_eq]; omega) ?_ ?_
      · intro fam fv B1 mc Cn Z s6 hfam hs1 hf W7
        obtain ⟨fA, fV, rfl, fO, fF⟩ := id hf
        have fl := fl2 fam hfam
        have fl' := fF.length
        exact cturn_name0 rfl W7 (Ev.a (Ev.imp (Ev.len (hG'.mono hs1) (Ev.local (List.Mem.head _) (up_self _ _ _)) (.inl fO) (by omega)) fun v ⟨t, e⟩ => ⟨t, by rw [e, fl']⟩))
      · intro T ws B1 s6 hs1 fT W7
        have hfilt : (famsOf ds).filter (fun _ => true) = famsOf ds := List.filter_eq_self.mpr fun _ _ => rfl
        rw [hfilt] at fT
        refine max_listW (R1 _).h W7 (.inr (List.Mem.head _)) fT ?_ fun M t s5 W5 hM hle => ?_
        · rw [List.length_map]
          have : [] ∈ famsOf ds := by
            unfold famsOf
            have key : ∀ (cuts : List (List Int)) (fams : List (List (List Int))), [] ∈ fams → [] ∈ cuts.foldl addFam fams := by
              intro cuts
              induction cuts with
              | nil => intro fams h; exact h
              | cons c r ih => intro fams h; exact ih _ (List.mem_append_left _ h)
            exact key ds [[]] (.head _)
          exact List.length_pos_of_mem this
        · exact h M t s5 B1 (hsb.trans hs1) (W5.re W5.st.drop.drop.drop.drop) hM hle
    · intro pre B' X' hJ
      obtain ⟨c1, m, us, ds, rfl, hsb, hms, hmc, hds, fus⟩ := hJ
      exact .inl (let ⟨o, ho, p⟩ := sO; ⟨o, hsb _ _ ho, p⟩)
end Mine

end

section
open PySem PySem.W PyProof.Rows
set_option Elab.async false
set_option linter.unusedVariables false
namespace Mine

theorem eq_of_pairwise {α : Type} {r : α → α → Prop} (irr : ∀ x, ¬ r x x) (tr : ∀ x y z, r x y → r y z → r x z) : ∀ {xs ys : List α}, xs.Pairwise r → ys.Pairwise r → (∀ x, x ∈ xs ↔ x ∈ ys) → xs = ys
  | [], [], _, _, _ => rfl
  | [], y :: ys, _, _, h => by have := (h y).mpr (.head _); cases this
  | x :: xs, [], _, _, h => by have := (h x).mp (.head _); cases this
  | x :: xs, y :: ys, hx, hy, h => by
    have hx' := List.pairwise_cons.mp hx
    have hy' := List.pairwise_cons.mp hy
    have e : x = y := by
      rcases List.mem_cons.mp ((h x).mp (.head _)) with e | h1
      · exact e
      · rcases List.mem_cons.mp ((h y).mpr (.head _)) with e | h2
        · exact e.symm
        · exact absurd (tr _ _ _ (hx'.1 y h2) (hy'.1 x h1)) (irr x)
    subst e
    congr 1
    refine eq_of_pairwise irr tr hx'.2 hy'.2 fun z => ⟨fun hz => ?_, fun hz => ?_⟩
    · rcases List.mem_cons.mp ((h z).mp (.tail _ hz)) with e | h1
      · subst e; exact absurd (hx'.1 z hz) (irr z)
      · exact h1
    · rcases List.mem_cons.mp ((h z).mpr (.tail _ hz)) with e | h1
      · subst e; exact absurd (hy'.1 z hz) (irr z)
      · exact h1
theorem nodup_len {α : Type} [DecidableEq α] : ∀ {xs ys : List α}, xs.Nodup → (∀ x ∈ xs, x ∈ ys) → xs.length ≤ ys.length
  | [], ys, _, _ => Nat.zero_le _
  | x :: xs, ys, hn, h => by
    have hn' := List.nodup_cons.mp hn
    have hx := h x (.head _)
    have := nodup_len (xs := xs) (ys := ys.erase x) hn'.2 fun z hz => (List.mem_erase_of_ne (fun (e : z = x) => hn'.1 (e ▸ hz))).mpr (h z (.tail _ hz))
    rw [List.length_erase_of_mem hx] at this
    have hp := List.length_pos_of_mem hx
    simp only [List.length_cons]; omega

def setOf (xs : List Int) : List Int := (upTo' 4).filter fun k => decide (k ∈ xs)
theorem mem_setOf {xs : List Int} {x : Int} : x ∈ setOf xs ↔ (0 ≤ x ∧ x < 4) ∧ x ∈ xs := by
  unfold setOf; rw [List.mem_filter, mem_upTo']; simp
theorem inc_upTo' (n : Nat) : (upTo' n).Pairwise (· < ·) := by
  unfold upTo'
  rw [List.pairwise_map]
  exact List.Pairwise.imp (fun h => Int.ofNat_lt.mpr h) List.pairwise_lt_range
theorem inc_setOf (xs : List Int) : (setOf xs).Pairwise (· < ·) := (inc_upTo' 4).filter _
theorem inc_eq {xs ys : List Int} (hx : xs.Pairwise (· < ·)) (hy : ys.Pairwise (· < ·)) (h : ∀ x, x ∈ xs ↔ x ∈ ys) : xs = ys :=
  eq_of_pairwise (fun _ => Int.lt_irrefl _) (fun _ _ _ => Int.lt_trans) hx hy h
theorem sorted_setOf {ms ns : List Int} (hp : ms.Perm ns) (hs : ms.Pairwise (· ≤ ·)) (hn : ns.Nodup) (hr : ∀ x ∈ ns, 0 ≤ x ∧ x < 4) : ms = setOf ns := by
  have hn' : ms.Nodup := hp.nodup_iff.mpr hn
  refine inc_eq ?_ (inc_setOf _) fun x => ?_
  · have : ms.Pairwise (fun a b => a ≤ b ∧ a ≠ b) := List.pairwise_and_iff.mpr ⟨hs, hn'⟩
    exact this.imp fun ⟨a, b⟩ => by omega
  · rw [mem_setOf, hp.mem_iff]; exact ⟨fun h => ⟨hr x h, h⟩, fun h => h.2⟩
theorem setOf_congr {xs ys : List Int} (h : ∀ x, 0 ≤ x → x < 4 → (x ∈ xs ↔ x ∈ ys)) : setOf xs = setOf ys :=
  inc_eq (inc_setOf _) (inc_setOf _) fun x => by rw [mem_setOf, mem_setOf]; exact ⟨fun ⟨a, b⟩ => ⟨a, (h x a.1 a.2).mp b⟩, fun ⟨a, b⟩ => ⟨a, (h x a.1 a.2).mpr b⟩⟩
theorem setOf_setOf (xs : List Int) : setOf (setOf xs) = setOf xs := setOf_congr fun x h0 h4 => by rw [mem_setOf]; exact ⟨fun h => h.2, fun h => ⟨⟨h0, h4⟩, h⟩⟩

def allSets : List (List Int) := (upTo' 16).map (bitsL 4)
theorem setOf_all (xs : List Int) : setOf xs ∈ allSets := by
  have key : ∀ a b c d : Bool, (([0, 1, 2, 3] : List Int).filter fun k => if k = 0 then a else if k = 1 then b else if k = 2 then c else d) ∈ allSets := by decide +kernel
  have e : setOf xs = (([0, 1, 2, 3] : List Int).filter fun k => if k = 0 then decide ((0 : Int) ∈ xs) else if k = 1 then decide ((1 : Int) ∈ xs) else if k = 2 then decide ((2 : Int) ∈ xs) else decide ((3 : Int) ∈ xs)) := by
    have : upTo' 4 = [0, 1, 2, 3] := by decide
    unfold setOf
    rw [this]
    simp [List.filter_cons]
  rw [e]; exact key _ _ _ _
theorem all_setOf : ∀ S ∈ allSets, setOf S = S := by decide +kernel
theorem nodup_all : allSets.Nodup := by decide +kernel

theorem four_of {x : Int} (h : 0 ≤ x ∧ x < 4) : x = 0 ∨ x = 1 ∨ x = 2 ∨ x = 3 := by omega
def Valid (arcs : List (Int × Int)) : Prop := ∀ a ∈ arcs, 0 ≤ a.1 ∧ a.1 < a.2 ∧ a.2 < 4
def ClosedP (arcs : List (Int × Int)) (xs : List Int) : Prop := ∀ a ∈ arcs, a.2 ∈ xs → a.1 ∈ xs
theorem badIn_nil {arcs : List (Int × Int)} {xs : List Int} : badIn xs arcs = [] ↔ ClosedP arcs xs := by
  unfold badIn ClosedP
  rw [List.map_eq_nil_iff, List.filter_eq_nil_iff]
  constructor
  · intro h a ha h2
    have := h a ha
    simpa [h2] using this
  · intro h a ha hc
    simp only [Bool.and_eq_true, decide_eq_true_eq, Bool.not_eq_true', decide_eq_false_iff_not] at hc
    exact hc.2 (h a ha hc.1)
theorem mem_closedRaw {arcs : List (Int × Int)} {S : List Int} : S ∈ closedRaw arcs 16 ↔ S ∈ allSets ∧ ClosedP arcs S := by
  unfold closedRaw
  rw [List.mem_filter, decide_eq_true_eq, badIn_nil]; rfl
theorem nodup_closedRaw (arcs : List (Int × Int)) : (closedRaw arcs 16).Nodup := nodup_all.filter _
theorem two_closedRaw {arcs : List (Int × Int)} (hv : Valid arcs) : 2 ≤ (closedRaw arcs 16).length := by
  have h1 : ([] : List Int) ∈ closedRaw arcs 16 := mem_closedRaw.mpr ⟨by decide +kernel, fun a _ h => by cases h⟩
  have h2 : ([0, 1, 2, 3] : List Int) ∈ closedRaw arcs 16 := mem_closedRaw.mpr ⟨by decide +kernel, fun a ha _ => by
    have := hv a ha
    have : a.1 = 0 ∨ a.1 = 1 ∨ a.1 = 2 ∨ a.1 = 3 := by omega
    rcases this with h | h | h | h <;> rw [h] <;> decide⟩
  exact nodup_len (xs := [[], [0, 1, 2, 3]]) (ys := closedRaw arcs 16) (by decide) fun x hx => by
    rcases List.mem_cons.mp hx with rfl | hx
    · exact h1
    · rw [List.mem_singleton.mp hx]; exact h2

structure OrdOK (arcs : List (Int × Int)) (o : List Int) : Prop where
  nd : o.Nodup
  rng : ∀ x ∈ o, 0 ≤ x ∧ x < 4
  pre : ∀ p x q, o = p ++ x :: q → ∀ a ∈ arcs, a.2 = x → a.1 ∈ p
def Wt (arcs : List (Int × Int)) (o : List Int) (t : Int) : Prop := (0 ≤ t ∧ t < 4) ∧ t ∉ o ∧ ∀ a ∈ arcs, a.2 = t → a.1 ∈ o
theorem OrdOK.nil (arcs : List (Int × Int)) : OrdOK arcs [] := ⟨List.nodup_nil, (fun _ h => by cases h), fun p x q h => by simp at h⟩
theorem OrdOK.snoc {arcs : List (Int × Int)} {o : List Int} {t : Int} (h : OrdOK arcs o) (hw : Wt arcs o t) : OrdOK arcs (o ++ [t]) := by
  refine ⟨List.nodup_append.mpr ⟨h.nd, by simp, fun a ha b hb => ?_⟩, fun x hx => ?_, fun p x q e a ha hx => ?_⟩
  · rw [List.mem_singleton.mp hb]; exact fun q => hw.2.1 (q ▸ ha)
  · rcases List.mem_append.mp hx with hx | hx
    · exact h.rng x hx
    · rw [List.mem_singleton.mp hx]; exact hw.1
  · rcases List.eq_nil_or_concat q with rfl | ⟨q', z, rfl⟩
    · have := List.append_inj_right' (show o ++ [t] = p ++ [x] from e) rfl
      have h2 := List.append_inj_left' (show o ++ [t] = p ++ [x] from e) rfl
      simp at this
      subst h2; subst this
      exact hw.2.2 a ha hx
    · have e' : o ++ [t] = (p ++ x :: q') ++ [z] := by rw [e]; simp
      have h2 := List.append_inj_left' e' rfl
      exact h.pre p x q' h2 a ha hx
theorem OrdOK.closed {arcs : List (Int × Int)} (hv : Valid arcs) {o : List Int} (h : OrdOK arcs o) : ClosedP arcs (setOf o) := fun a ha h2 => by
  have h3 := mem_setOf.mp h2
  obtain ⟨p, q, e⟩ := List.append_of_mem h3.2
  have := h.pre p a.2 q e a ha rfl
  have hva := hv a ha
  exact mem_setOf.mpr ⟨by omega, by rw [e]; exact List.mem_append_left _ this⟩

structure SInv (arcs : List (Int × Int)) (os ss : List (List Int)) : Prop where
  eq : ss = os.map setOf
  nd : ss.Nodup
  ok : ∀ o ∈ os, OrdOK arcs o
  hd : [] ∈ os
def Clo (arcs : List (Int × Int)) (os ss : List (List Int)) (k : Nat) : Prop := ∀ i o, i < k → os[i]? = some o → ∀ t, Wt arcs o t → setOf (o ++ [t]) ∈ ss
theorem SInv.len {arcs : List (Int × Int)} {os ss : List (List Int)} (h : SInv arcs os ss) : os.length ≤ 16 := by
  have h1 : ss.length ≤ allSets.length := nodup_len h.nd fun x hx => by
    rw [h.eq] at hx; obtain ⟨o, _, rfl⟩ := List.mem_map.mp hx; exact setOf_all o
  have h2 : allSets.length = 16 := by decide +kernel
  rw [h.eq, List.length_map] at h1; omega
theorem SInv.add {arcs : List (Int × Int)} {os ss : List (List Int)} (h : SInv arcs os ss) {o : List Int} {t : Int} (ho : o ∈ os) (hw : Wt arcs o t) (hn : setOf (o ++ [t]) ∉ ss) : SInv arcs (os ++ [o ++ [t]]) (ss ++ [setOf (o ++ [t])]) := by
  refine ⟨by rw [h.eq, List.map_append]; rfl, List.nodup_append.mpr ⟨h.nd, by simp, fun a ha b hb => ?_⟩, fun x hx => ?_, List.mem_append_left _ h.hd⟩
  · rw [List.mem_singleton.mp hb]; exact fun q => hn (q ▸ ha)
  · rcases List.mem_append.mp hx with hx | hx
    · exact h.ok x hx
    · rw [List.mem_singleton.mp hx]; exact (h.ok o ho).snoc hw
theorem Clo.add {arcs : List (Int × Int)} {os ss : List (List Int)} {k : Nat} (h : Clo arcs os ss k) (hk : k ≤ os.length) (x y : List Int) : Clo arcs (os ++ [x]) (ss ++ [y]) k := fun i o hi ho t hw => by
  rw [List.getElem?_append_left (by omega)] at ho
  exact List.mem_append_left _ (h i o hi ho t hw)

theorem erase_max (S : List Int) (hne : S ≠ []) : ∃ t ∈ S, ∀ x ∈ S, x ≤ t := by
  induction S with
  | nil => exact absurd rfl hne
  | cons a r ih =>
    by_cases hr : r = []
    · subst hr; exact ⟨a, .head _, fun x hx => by rw [List.mem_singleton.mp hx]; omega⟩
    · obtain ⟨t, ht, hm⟩ := ih hr
      by_cases h : t ≤ a
      · exact ⟨a, .head _, fun x hx => by rcases List.mem_cons.mp hx with rfl | hx; omega; have := hm x hx; omega⟩
      · exact ⟨t, .tail _ ht, fun x hx => by rcases List.mem_cons.mp hx with rfl | hx; omega; exact hm x hx⟩

theorem reach_all {arcs : List (Int × Int)} (hv : Valid arcs) {os ss : List (List Int)} (h : SInv arcs os ss) (hc : Clo arcs os ss os.length) : ∀ S, S ∈ ss ↔ S ∈ closedRaw arcs 16 := by
  have back : ∀ n S, S.length ≤ n → S ∈ allSets → ClosedP arcs S → S ∈ ss := by
    intro n
    induction n with
    | zero =>
      intro S hl hS _
      have : S = [] := List.length_eq_zero_iff.mp (by omega)
      subst this
      rw [h.eq]; exact List.mem_map.mpr ⟨[], h.hd, by decide⟩
    | succ n ih =>
      intro S hl hS hcl
      by_cases hne : S = []
      · subst hne; rw [h.eq]; exact List.mem_map.mpr ⟨[], h.hd, by decide⟩
      · obtain ⟨t, ht, hm⟩ := erase_max S hne
        have hSS := all_setOf S hS
        have inS : ∀ x, x ∈ S ↔ (0 ≤ x ∧ x < 4) ∧ x ∈ S := fun x => by
          constructor
          · intro hx; rw [← hSS] at hx; exact mem_setOf.mp hx |>.imp id fun _ => by rwa [← hSS]
          · exact fun h => h.2
        have hin : S.Pairwise (· < ·) := by rw [← hSS]; exact inc_setOf _
        have hnd : S.Nodup := hin.imp fun h => Int.ne_of_lt h
        have hS' : setOf (S.erase t) ∈ allSets := setOf_all _
        have mem' : ∀ x, x ∈ setOf (S.erase t) ↔ x ∈ S ∧ x ≠ t := fun x => by
          rw [mem_setOf, hnd.mem_erase_iff]
          constructor
          · rintro ⟨_, a, b⟩; exact ⟨b, a⟩
          · rintro ⟨a, b⟩; exact ⟨((inS x).mp a).1, b, a⟩
        have hlen' : (setOf (S.erase t)).length ≤ n := by
          have : (setOf (S.erase t)).length ≤ (S.erase t).length := nodup_len ((inc_setOf _).imp fun h => Int.ne_of_lt h) fun x hx => (mem_setOf.mp hx).2
          rw [List.length_erase_of_mem ht] at this
          have := List.length_pos_of_mem ht
          omega
        have hcl' : ClosedP arcs (setOf (S.erase t)) := fun a ha h2 => by
          have h3 := (mem' _).mp h2
          have hva := hv a ha
          have h4 := hm _ h3.1
          exact (mem' _).mpr ⟨hcl a ha h3.1, by omega⟩
        have hmem := ih _ hlen' hS' hcl'
        rw [h.eq] at hmem
        obtain ⟨o, ho, eo⟩ := List.mem_map.mp hmem
        obtain ⟨i, hi⟩ := List.getElem?_of_mem ho
        have hil : i < os.length := by
          rcases Nat.lt_or_ge i os.length with q | q
          · exact q
          · rw [List.getElem?_eq_none q] at hi; cases hi
        have ino : ∀ x, x ∈ o ↔ x ∈ S ∧ x ≠ t := fun x => by
          rw [← mem', ← eo, mem_setOf]
          exact ⟨fun hx => ⟨(h.ok o ho).rng x hx, hx⟩, fun hx => hx.2⟩
        have hw : Wt arcs o t := ⟨((inS t).mp ht).1, fun q => ((ino t).mp q).2 rfl, fun a ha e => by
          have hva := hv a ha
          exact (ino _).mpr ⟨hcl a ha (e ▸ ht), by omega⟩⟩
        have := hc i o hil hi t hw
        have e : setOf (o ++ [t]) = S := by
          rw [← hSS]
          refine setOf_congr fun x _ _ => ?_
          rw [List.mem_append, List.mem_singleton, ino]
          constructor
          · rintro (⟨a, _⟩ | rfl)
            · exact a
            · exact ht
          · intro hx
            by_cases q : x = t
            · exact .inr q
            · exact .inl ⟨hx, q⟩
        rwa [e] at this
  intro S
  rw [mem_closedRaw]
  constructor
  · intro hS
    rw [h.eq] at hS
    obtain ⟨o, ho, rfl⟩ := List.mem_map.mp hS
    exact ⟨setOf_all o, (h.ok o ho).closed hv⟩
  · rintro ⟨a, b⟩
    exact back S.length S (Nat.le_refl _) a b
end Mine

end

section
open PySem PySem.W PyProof.Rows PySem.SeqAt
set_option Elab.async false
set_option linter.unusedVariables false
set_option maxRecDepth 100000
set_option maxHeartbeats 4000000
namespace Mine

section
variable {prog : Program} {w : World} {A : Around} {E : Value → Shared → Prop} {s₀ s : Shared} {B : Heap} {X Y pre post : Led} {env : Env} {K : Frag} {mg mb : Str → Option Value}
theorem for_listE {target iter : Expr} {body : List Stmt} {pos : Pos} {Q : Flow → Shared → Prop} (hh : A.handled = none)
    (hit : wpAny (model prog w) A (eval iter env) (fun xv s₁ => ∃ a vs, ∃ J : List Value → Heap → Led → Prop, ∃ B₁ X₁, xv = .ref a ∧ W s₀ B₁ X₁ s₁ ∧ J [] B₁ X₁ ∧ (∀ pre B' X', J pre B' X' → LAt B' X' a vs) ∧
      (∀ pre v post I As B' X' s', vs = pre ++ v :: post → Sub B₁ B' → J pre B' X' → W s₀ B' ((I, As) :: X') s' →
        wpAny (model prog w) A (assign target env v) (fun _ s₂ => wpAny (model prog w) A (execs body env) (fun f s₃ => match f with
          | .next | .cont => ∃ B'' X'', Sub B' B'' ∧ J (pre ++ [v]) B'' X'' ∧ W s₀ B'' ((I, As) :: X'') s₃
          | .brk => Q .next s₃
          | .ret v => Q (.ret v) s₃) NoE s₂) NoE s') ∧
      (∀ B' X' s', Sub B₁ B' → J vs B' X' → W s₀ B' X' s' → Q .next s')) E s)
    (hs : ∀ x, foldedSetIterable iter env x = pure x := by intro _; rfl) :
    wpAny (model prog w) A (exec (.For target iter body [] pos) env) Q E s := by
  refine wpAny_For (wpAny_mono hit (fun xv s₁ h₁ => ?_) fun _ _ e => e) hs
  obtain ⟨a, vs, J, B₁, X₁, rfl, hW, h0, hl, turn, fin⟩ := h₁
  have hlist := (hl _ _ _ h0).isList hW.st
  refine wpAny_pyIter_list hlist ?_
  refine for_it (s₀ := s₀) (B := B₁) (X := X₁) (it_list hh s₁.heap.objs.size a vs) (fun i B' X' => J (vs.take i) B' X') (fun i B' X' h _ hJ H => (hl _ _ _ hJ).isList H) ?_ (by simpa using h0) ?_ ?_
  · exact hW.to (tk := s₁.toks) (hW.st.new rfl ⟨rfl, rfl⟩)
  · intro i v B' X' s' hi hP hsub hJ hW'
    have e : vs = vs.take i ++ v :: vs.drop (i + 1) := by
      have := List.take_append_drop i vs
      rw [List.drop_eq_getElem_cons hi] at this
      have hv : vs[i] = v := by rw [List.getElem?_eq_getElem hi] at hP; exact Option.some.inj hP
      rw [hv] at this
      exact this.symm
    refine wpAny_mono (turn _ v _ _ _ B' X' s' e hsub hJ hW') (fun _ s₂ h₂ => wpAny_mono h₂ (fun f s₃ h₃ => ?_) fun _ _ f => f) fun _ _ f => f
    have et : vs.take (i + 1) = vs.take i ++ [v] := by rw [List.take_add_one, hP]; rfl
    cases f with
    | next => rw [et]; exact h₃
    | cont => rw [et]; exact h₃
    | brk => exact h₃
    | ret v => exact h₃
  · intro B' X' s' hsub hJ hW'
    exact fin B' X' s' hsub (by simpa using hJ) hW'

theorem while_it {test : Expr} {body : List Stmt} {pos : Pos} {Q : Flow → Shared → Prop} (Inv : Nat → Heap → Led → Prop) (n₀ : Nat) (hW : W s₀ B X s) (h0 : Inv n₀ B X)
    (turn : ∀ n B' X', Sub B B' → Inv n B' X' → ∃ b, EvT ⟨prog, w, A, env, s₀, B', X'⟩ test b ∧
      (b = true → ∀ s₂, W s₀ B' X' s₂ → wpAny (model prog w) A (execs body env) (fun f s₃ => match f with
        | .next | .cont => ∃ n' B'' X'', n' < n ∧ Sub B' B'' ∧ Inv n' B'' X'' ∧ W s₀ B'' X'' s₃
        | .brk => Q .next s₃
        | .ret v => Q (.ret v) s₃) NoE s₂) ∧
      (b = false → ∀ s₂, W s₀ B' X' s₂ → Q .next s₂)) :
    wpAny (model prog w) A (exec (.While test body [] pos) env) Q E s := by
  refine wpAny_While (codeAny_whileLoop (fun n s' => ∃ B' X', Sub B B' ∧ Inv n B' X' ∧ W s₀ B' X' s') ?_ n₀ ⟨B, X, Sub.refl _, h0, hW⟩)
  rintro n s' ⟨B', X', hs, hI, hW'⟩
  obtain ⟨b, ht, h1, h2⟩ := turn n B' X' hs hI
  refine ht s' _ _ hW' fun s₂ W2 => ?_
  cases b with
  | true =>
    rw [if_pos rfl]
    refine wpAny_mono (h1 rfl s₂ W2) (fun f s₃ h₃ => ?_) fun _ _ f => f.elim
    cases f with
    | next => obtain ⟨n', B'', X'', hlt, hs', hI', W3⟩ := h₃; exact ⟨n', hlt, B'', X'', hs.trans hs', hI', W3⟩
    | cont => obtain ⟨n', B'', X'', hlt, hs', hI', W3⟩ := h₃; exact ⟨n', hlt, B'', X'', hs.trans hs', hI', W3⟩
    | brk => exact h₃
    | ret v => exact h₃
  | false =>
    rw [if_neg Bool.false_ne_true]
    exact wpAny_execs_nil (h2 rfl s₂ W2)
end

/-- order + [thing] -/
theorem EvA.plusOne {c : Cx} {x y : Str} {p1 p2 p3 pos : Pos} {m : Str → Option Value} {oA : Addr} {oV : List Value} {o : List Int} {t : Int} {tv : Value} (hm : (c.env.locals, NsP m) ∈ c.X) (hx : m x = some (.ref oA)) (hy : m y = some tv) (htv : IsI t tv)
    (oO : ∃ ob, c.B.get? oA = some ob ∧ LsP oV ob) (oF : F2 (RInt c.B) oV o) (hl : o.length ≤ 100)
    (hk : c.env.scope.kind = .function := by rfl) (h1 : c.env.kindOf x = some .local := by rfl) (h2 : c.env.kindOf y = some .local := by rfl) (d1 : (x == ("__debug__" : Str)) = false := by decide) (d2 : (y == ("__debug__" : Str)) = false := by decide) :
    EvA c (.BinOp (.Name x p1) .Add (.List [.Name y p2] p3) pos) (fun B' v => RList RInt B' v (o ++ [t])) := fun s Q E hW k => by
  refine wpAny_BinOp (ev_local hW hm hx ?_ hk h1 d1)
  refine ev_one (s₀ := c.s₀) (ev_local hW hm hy ⟨c.B, c.X, hW, fun D s1 W1 => ?_⟩ hk h2 d2)
  have := oF.length
  refine add_listW W1 (.inl oO) (.inr (List.Mem.head _)) (by simp; omega) fun D2 s2 W2 => ?_
  obtain ⟨B2, ob, hs, ho, p, H⟩ := W2.st.freeze
  obtain ⟨tt, e⟩ := htv
  exact k s2 B2 _ hs ⟨D2, _, rfl, ⟨ob, ho, p⟩, (oF.append (.cons ⟨tt, e⟩ .nil)).mono mono_int hs⟩ (W2.re H.drop)
/-- sorted(e), e a short list of things -/
theorem EvA.sortedSet {c : Cx} {K : Frag} {mg mb : Str → Option Value} {e : Expr} {p pos : Pos} {o : List Int} (hG : G K mg mb c.B) (he : EvA c e (fun B' v => RList RInt B' v o)) (hn : o.Nodup) (hr : ∀ x ∈ o, 0 ≤ x ∧ x < 4) (hl : o.length < 64)
    (hns : starEach [e] c.env = [(false, eval e c.env)] := by rfl) (e0 : nsIn K mainGlobals "sorted" = some none := by with_unfolding_all rfl)
    (hg : c.env.globals = mainGlobals := by rfl) (hb : c.env.builtins = builtinsNs := by rfl) (hk : c.env.scope.kind = .function := by rfl) (hx : c.env.kindOf "sorted" = some .globalImplicit := by rfl) :
    EvA c (.Call (.Name "sorted" p) [e] [] pos) (fun B' v => RList RInt B' v (setOf o)) := fun s Q E hW k => by
  refine call_b1 hG hW boot_sorted (he s _ _ hW fun s1 B1 v hs ⟨a, vs, ev, ho, f⟩ W1 => ?_) hns e0 (by decide) hg hb hk hx
  subst ev
  refine sorted_intsW W1 (.inl ho) f hl fun D us ms s2 W2 fu hp hsrt => ?_
  obtain ⟨B2, ob, hs2, ho2, p2, H⟩ := W2.st.freeze
  have e := sorted_setOf hp hsrt hn hr
  exact k s2 B2 _ (hs.trans hs2) ⟨D, us, rfl, ⟨ob, ho2, p2⟩, by rw [← e]; exact fu.mono mono_int hs2⟩ (W2.re H)

def WaitSpec (w : World) : Prop := ∀ (prog : Program) (A : Around) (E : Value → Shared → Prop) (s₀ s : Shared) (B : Heap) (X : Led) (mg mb : Str → Option Value) (v u : Value) (arcs : List (Int × Int)) (o : List Int) (Q : Value → Shared → Prop),
  G (KF w) mg mb B → W s₀ B X s → Rm A 6 200 → FS A X → RArcs B v arcs → RList RInt B u o → Valid arcs → arcs.length ≤ 5 → OrdOK arcs o →
  (∀ B' r ws s', Sub B B' → W s₀ B' X s' → RList RInt B' r ws → (∀ t, t ∈ ws ↔ Wt arcs o t) → Q r s') → wpAny (model prog w) A (call (.ref 158) [v, u]) Q E s

inductive StJ (L O T aA : Addr) (X : Led) (B : Heap) (arcs : List (Int × Int)) (n : Nat) (B' : Heap) (X' : Led) : Prop
  | mk (m : Str → Option Value) (us ts : List Value) (os ss : List (List Int)) (k : Nat) (tk : Tok) (hX : X' = (T, LsP ts) :: (O, LsP us) :: (L, NsP m) :: X) (h1 : Sub B B') (h2 : n = 17 - k) (h3 : k ≤ os.length) (h4 : m (Str.ofString "arcs") = some (.ref aA)) (h5 : m (Str.ofString "orders") = some (.ref O)) (h6 : m (Str.ofString "sets") = some (.ref T))
      (h7 : m (Str.ofString "seen") = some (.int ((k : Nat) : Int) tk)) (h8 : F2 (RList RInt B') us os) (h9 : F2 (RList RInt B') ts ss) (h10 : SInv arcs os ss) (h11 : Clo arcs os ss k) : StJ L O T aA X B arcs n B' X'
inductive StK (L O T aA oA : Addr) (X : Led) (B2 : Heap) (arcs : List (Int × Int)) (k : Nat) (tk2 : Tok) (o ws : List Int) (pre : List Value) (B3 : Heap) (X3 : Led) : Prop
  | mk (m : Str → Option Value) (us ts : List Value) (os ss : List (List Int)) (hX : X3 = (T, LsP ts) :: (O, LsP us) :: (L, NsP m) :: X) (h1 : Sub B2 B3) (h3 : k + 1 ≤ os.length) (h4 : m (Str.ofString "arcs") = some (.ref aA)) (h5 : m (Str.ofString "orders") = some (.ref O)) (h6 : m (Str.ofString "sets") = some (.ref T)) (h7 : m (Str.ofString "order") = some (.ref oA))
      (h8 : m (Str.ofString "seen") = some (.int ((k + 1 : Nat) : Int) tk2)) (h9 : F2 (RList RInt B3) us os) (h10 : F2 (RList RInt B3) ts ss) (h11 : SInv arcs os ss) (h12 : Clo arcs os ss k) (h13 : os[k]? = some o) (h14 : ∀ t ∈ ws.take pre.length, setOf (o ++ [t]) ∈ ss) : StK L O T aA oA X B2 arcs k tk2 o ws pre B3 X3

theorem sets_call {prog : Program} {w : World} {A : Around} {E : Value → Shared → Prop} {s₀ s : Shared} {B : Heap} {X : Led} {mg mb : Str → Option Value} {v : Value} {arcs : List (Int × Int)} {Q : Value → Shared → Prop}
    (hwait : WaitSpec w) (hG : G (KF w) mg mb B) (hW : W s₀ B X s) (hR : Rm A 8 300) (hF : FS A X) (ha : RArcs B v arcs) (hv : Valid arcs) (hlen : arcs.length ≤ 5)
    (h : ∀ B' r ys s', Sub B B' → W s₀ B' X s' → RSets B' r ys → (∀ S, S ∈ ys ↔ S ∈ closedRaw arcs 16) → ys.Pairwise (fun x y => lexLt x y = true) → Q r s') :
    wpAny (model prog w) A (call (.ref 165) [v]) Q E s := by
  obtain ⟨aA, aV, rfl, aO, aF⟩ := ha
  refine call_fn (binds := [(Str.ofString "arcs", .ref aA)]) hG hW (by with_unfolding_all rfl) (by with_unfolding_all rfl) (by with_unfolding_all rfl) (by have := hR.d; omega) (BindsTo.of_eq (by with_unfolding_all rfl)) (by decide) ?_ (by with_unfolding_all rfl) (by with_unfolding_all rfl) (by with_unfolding_all rfl) ?_
  · intro x hx
    rcases List.mem_singleton.mp hx with rfl
    with_unfolding_all rfl
  · intro L s1 W1
    obtain ⟨m, hma, W2⟩ : Ex2 (fun m : Str → Option Value => m (Str.ofString "arcs") = some (.ref aA)) (fun m : Str → Option Value => W s₀ B ((L, NsP m) :: X) s1) := ⟨_, by with_unfolding_all rfl, W1⟩
    clear W1
    have R1 := hR.deeper (d := 7) (u := 297)
    have un : ∀ k, k ≤ 297 → A.units + 3 + k < cLine := fun k hk => by have := (R1 default).u; exact Nat.lt_of_le_of_lt (by show A.units + 3 + _ ≤ A.units + 3 + 297; omega) this
    -- orders = [[]]
    refine wpAny_execs_cons (wpAny_Assign_Name (ev_one (s₀ := s₀) (ev_nil W2 fun N s2 W3 => ⟨B, _, W3, fun O s3 W4 => ?_⟩)))
    obtain ⟨B0, oN, hs0, hoN, pN, H0⟩ := W4.st.freezeAt [(O, LsP [.ref N])]
    refine st_local [(O, LsP [.ref N])] (W4.re H0) fun s4 W5 => ?_
    -- sets = [[]]
    refine wpAny_execs_cons (wpAny_Assign_Name (ev_one (s₀ := s₀) (ev_nil W5 fun N2 s5 W6 => ⟨B0, _, W6, fun T s6 W7 => ?_⟩)))
    obtain ⟨B1, oN2, hs1, hoN2, pN2, H1⟩ := W7.st.freezeAt [(T, LsP [.ref N2])]
    refine st_local [(T, LsP [.ref N2]), (O, LsP [.ref N])] (W7.re H1) fun s7 W8 => ?_
    -- seen = 0
    refine wpAny_execs_cons (wpAny_Assign_Name (wpAny_Constant_int (st_local [(T, LsP [.ref N2]), (O, LsP [.ref N])] (W8.tok _) fun s8 W9 => ?_)))
    have hsB1 := hs0.trans hs1
    refine wpAny_execs_cons (while_it
      (StJ L O T aA X B arcs)
      17 W9 ⟨_, _, _, [[]], [[]], 0, s7.toks, rfl, hsB1, rfl, by simp, ?_, ?_, ?_, up_self _ _ _, .cons ⟨N, [], rfl, ⟨oN, hs1 _ _ hoN, pN⟩, .nil⟩ .nil, .cons ⟨N2, [], rfl, ⟨oN2, hoN2, pN2⟩, .nil⟩ .nil, ⟨by decide, by decide, fun o ho => by rw [List.mem_singleton.mp ho]; exact OrdOK.nil _, .head _⟩, fun i o hi => absurd hi (Nat.not_lt_zero _)⟩ ?_)
    · exact (up_ne (by decide)).trans ((up_ne (by decide)).trans ((up_ne (by decide)).trans hma))
    · exact (up_ne (by decide)).trans ((up_ne (by decide)).trans (up_self _ _ _))
    · exact (up_ne (by decide)).trans (up_self _ _ _)
    · intro n B' X' hsub hI
      obtain ⟨m, us, ts, os, ss, k, tk, rfl, hsb, rfl, hkl, hma, hmo, hms, hmk, fus, fts, SI, CL⟩ := hI
      have hG' := hG.mono hsb
      have ul := fus.length
      have ol := SI.len
      refine ⟨decide (((k : Nat) : Int) < ((us.length : Nat) : Int)), Ev.ltI (Ev.imp (Ev.local (by k_mem) hmk) fun v e => ⟨tk, e⟩) (Ev.len hG' (Ev.local (by k_mem) hmo) (.inr (List.Mem.tail _ (List.Mem.head _))) (by omega)), fun hb s2 W2 => ?_, fun hb s2 W2 => ?_⟩
      · refine abs_post fun Qb hQb => ?_
        have hk : k < us.length := by have := of_decide_eq_true hb; omega
        have hget : us[k]? = some us[k] := List.getElem?_eq_getElem hk
        obtain ⟨o, eo, oA, oV, eA, oO, oF⟩ := fus.get hget
        have hom : o ∈ os := List.mem_of_getElem? eo
        have oOK := SI.ok o hom
        have ol4 : o.length ≤ 4 := nodup_len (ys := [0, 1, 2, 3]) oOK.nd fun x hx => by
          have := oOK.rng x hx
          have := four_of this
          simpa using this
        -- order = orders[seen]
        refine wpAny_execs_cons (wpAny_Assign_Name ((Ev.item (c := ⟨prog, w, _, _, s₀, B', _⟩) (k := k) (v := .ref oA) (Ev.local (by k_mem) hmo) (Ev.imp (Ev.local (by k_mem) hmk) fun v e => ⟨tk, e⟩) (.inr (List.Mem.tail _ (List.Mem.head _))) (by rw [hget, eA]) (by omega)) s2 _ _ W2 fun s3 v3 e3 W3 => ?_))
        subst e3
        refine st_local [(T, LsP ts), (O, LsP us)] W3 fun s4 W4 => ?_
        -- seen += 1
        refine wpAny_execs_cons (wpAny_AugAssign_Name (ld_local W4 (by k_mem) ((up_ne (by decide)).trans hmk) (wpAny_Constant_int (wpAny_iadd_int (st_local [(T, LsP ts), (O, LsP us)] ((W4.tok _).tok _) fun s5 W5 => ?_)))))
        -- for thing in _law_waiting(arcs, order)
        generalize hm2 : up (up m (Str.ofString "order") (Value.ref oA)) (Str.ofString "seen") (Value.int (((k : Nat) : Int) + 1) _) = m2 at W5
        have hma2 : m2 (Str.ofString "arcs") = some (.ref aA) := by rw [← hm2]; exact (up_ne (by decide)).trans ((up_ne (by decide)).trans hma)
        have hmo2 : m2 (Str.ofString "orders") = some (.ref O) := by rw [← hm2]; exact (up_ne (by decide)).trans ((up_ne (by decide)).trans hmo)
        have hms2 : m2 (Str.ofString "sets") = some (.ref T) := by rw [← hm2]; exact (up_ne (by decide)).trans ((up_ne (by decide)).trans hms)
        have hmr2 : m2 (Str.ofString "order") = some (.ref oA) := by rw [← hm2]; exact (up_ne (by decide)).trans (up_self _ _ _)
        obtain ⟨tk2, hmk2⟩ : ∃ tk2, m2 (Str.ofString "seen") = some (.int ((k + 1 : Nat) : Int) tk2) := ⟨_, by rw [← hm2]; exact up_self _ _ _⟩
        clear hm2 W2 W3 W4
        have aO' : ∃ o, B'.get? aA = some o ∧ LsP aV o := let ⟨o, ho, p⟩ := aO; ⟨o, hsb _ _ ho, p⟩
        have aF' := aF.mono (mono_pair mono_int mono_int) hsb
        refine wpAny_execs_cons (for_listE (s₀ := s₀) (R1 _).h (call_g (K := KF w) (f := 158) hG' W5 (by with_unfolding_all rfl) (by with_unfolding_all rfl) ?_))
        refine Calls.spliced_cons (ev_local W5 (by k_mem) hma2 (Calls.spliced_cons (ev_local W5 (by k_mem) hmr2 (Calls.spliced_nil ⟨⟨B', _, Sub.refl _, W5⟩, ?_⟩))))
        refine hwait prog _ _ s₀ s5 B' _ mg mb _ _ arcs o _ hG' W5 ((R1 _).le (by decide) (by decide)) (hF.deeper (L := L) (m := m2) (fun p hp => by simp [hp]) (List.Mem.tail _ (List.Mem.tail _ (List.Mem.head _))) rfl rfl) ⟨aA, aV, rfl, aO', aF'⟩ ⟨oA, oV, rfl, oO, oF⟩ hv hlen oOK fun B2 r ws s6 hs2 W6 ⟨wA, wV, ewA, wO, wF⟩ hws => ?_
        subst ewA
        refine ⟨wA, wV, (StK L O T aA oA X B2 arcs k tk2 o ws), B2, _, rfl, W6,
          ⟨m2, us, ts, os, ss, rfl, Sub.refl _, by omega, hma2, hmo2, hms2, hmr2, hmk2, fus.mono (mono_list mono_int) hs2, fts.mono (mono_list mono_int) hs2, SI, CL, eo, fun t ht => by simp at ht⟩, ?_, ?_, ?_⟩
        · rintro pre B3 X3 ⟨m, us, ts, os, ss, rfl, hs3, _⟩
          exact .inl (let ⟨o, ho, p⟩ := wO; ⟨o, hs3 _ _ ho, p⟩)
        · rintro pre tv post I As B3 X3 s7 hvs hs3' ⟨m, us, ts, os, ss, rfl, hs3, hkl, hma, hmo, hms, hmr, hmk, fus, fts, SI, CL, eo, hdone⟩ W7
          have hgt : wV[pre.length]? = some tv := by rw [hvs]; simp
          obtain ⟨t, et, tt, e⟩ := wF.get hgt
          subst e
          have hwt : Wt arcs o t := (hws t).mp (List.mem_of_getElem? et)
          have hom : o ∈ os := List.mem_of_getElem? eo
          have h23 := hs2.trans hs3
          have hG3 := (hG'.mono hs2).mono hs3
          have oO3 : ∃ ob, B3.get? oA = some ob ∧ LsP oV ob := let ⟨ob, ho, p⟩ := oO; ⟨ob, h23 _ _ ho, p⟩
          have oF3 := oF.mono mono_int h23
          have ok2 := oOK.snoc hwt
          have htake : ws.take (pre ++ [Value.int t tt]).length = ws.take pre.length ++ [t] := by rw [List.length_append, List.length_singleton, List.take_add_one, et]; rfl
          refine abs_turn fun Qt hQt => ?_
          refine as_name [(I, As), (T, LsP ts), (O, LsP us)] W7 fun s8 W8 => ?_
          have hmr' := (up_ne (m := m) (x := Str.ofString "thing") (y := Str.ofString "order") (v := .int t tt) (by decide)).trans hmr
          have hms' := (up_ne (m := m) (x := Str.ofString "thing") (y := Str.ofString "sets") (v := .int t tt) (by decide)).trans hms
          have hmo' := (up_ne (m := m) (x := Str.ofString "thing") (y := Str.ofString "orders") (v := .int t tt) (by decide)).trans hmo
          have hma' := (up_ne (m := m) (x := Str.ofString "thing") (y := Str.ofString "arcs") (v := .int t tt) (by decide)).trans hma
          have hmk' := (up_ne (m := m) (x := Str.ofString "thing") (y := Str.ofString "seen") (v := .int t tt) (by decide)).trans hmk
          have hmt' := up_self m (Str.ofString "thing") (.int t tt)
          have il := SI.len
          have tl := fts.length
          have ul := fus.length
          have sl : ss.length = os.length := by rw [SI.eq, List.length_map]
          -- sorted(order + [thing]) not in sets
          refine wpAny_execs_cons (wpAny_If (wpAny_isTrue_Compare1 ((EvA.sortedSet (c := ⟨prog, w, _, _, s₀, B3, _⟩) hG3 (EvA.plusOne (by k_mem) hmr' hmt' ⟨tt, rfl⟩ oO3 oF3 (by omega)) ok2.nd ok2.rng (by simp; omega)) s8 _ _ W8 fun s9 B4 v9 hs4 hv9 W9 => ?_) (by with_unfolding_all rfl)))
          refine ev_local W9 (by k_mem) hms' ?_
          refine notIn_list (eq_list eq_int fun_int) (fun_list fun_int) W9 (.inr (List.Mem.tail _ (List.Mem.head _))) (fts.mono (mono_list mono_int) hs4) hv9 (un _ (by omega)) ?_
          refine wpAny_truthy_bool ?_
          by_cases hin : setOf (o ++ [t]) ∈ ss
          · rw [if_neg (by simpa using hin)]
            refine wpAny_execs_nil (wpAny_execs_nil (hQt .next _ ⟨B4, _, hs4, ⟨_, us, ts, os, ss, rfl, hs3.trans hs4, hkl, hma', hmo', hms', hmr', hmk', fus.mono (mono_list mono_int) hs4, fts.mono (mono_list mono_int) hs4, SI, CL, eo, fun t' ht' => ?_⟩, W9⟩))
            rw [htake] at ht'
            rcases List.mem_append.mp ht' with h1 | h1
            · exact hdone t' h1
            · rw [List.mem_singleton.mp h1]; exact hin
          · rw [if_pos (by simpa using hin)]
            have oO4 : ∃ ob, B4.get? oA = some ob ∧ LsP oV ob := let ⟨ob, ho, p⟩ := oO3; ⟨ob, hs4 _ _ ho, p⟩
            have oF4 := oF3.mono mono_int hs4
            refine wpAny_execs_cons (append_stmt (D := T) (us := ts) [(I, As)] W9 (Ev.local (by k_mem) hms') (by omega) fun s10 W10 => ?_)
            refine (EvA.sortedSet (c := ⟨prog, w, _, _, s₀, B4, _⟩) (hG3.mono hs4) (EvA.plusOne (by k_mem) hmr' hmt' ⟨tt, rfl⟩ oO4 oF4 (by omega)) ok2.nd ok2.rng (by simp; omega)) s10 _ _ W10 fun s11 B5 v11 hs5 hv11 W11 => ⟨B5, [(I, As)], _, W11, fun s12 W12 => ?_⟩
            have oO5 : ∃ ob, B5.get? oA = some ob ∧ LsP oV ob := let ⟨ob, ho, p⟩ := oO4; ⟨ob, hs5 _ _ ho, p⟩
            have oF5 := oF4.mono mono_int hs5
            refine wpAny_execs_cons (append_stmt (D := O) (us := us) [(I, As), (T, LsP (ts ++ [v11]))] W12 (Ev.local (by k_mem) hmo') (by omega) fun s13 W13 => ?_)
            refine (EvA.plusOne (c := ⟨prog, w, _, _, s₀, B5, _⟩) (by k_mem) hmr' hmt' ⟨tt, rfl⟩ oO5 oF5 (by omega)) s13 _ _ W13 fun s14 B6 v14 hs6 hv14 W14 => ⟨B6, [(I, As), (T, LsP (ts ++ [v11]))], _, W14, fun s15 W15 => ?_⟩
            have h46 := (hs4.trans hs5).trans hs6
            have h56 := hs5.trans hs6
            refine wpAny_execs_nil (wpAny_execs_nil (hQt .next _ ⟨B6, _, h46, ⟨_, _, _, os ++ [o ++ [t]], ss ++ [setOf (o ++ [t])], rfl, hs3.trans h46, by simp; omega, hma', hmo', hms', hmr', hmk', ?_, ?_, SI.add hom hwt hin, CL.add (by omega) _ _, ?_, fun t' ht' => ?_⟩, W15⟩))
            · exact (fus.mono (mono_list mono_int) h46).append (.cons hv14 .nil)
            · exact (fts.mono (mono_list mono_int) h46).append (.cons (mono_list mono_int _ _ _ _ hs6 hv11) .nil)
            · rw [List.getElem?_append_left (by omega)]; exact eo
            · rw [htake] at ht'
              rcases List.mem_append.mp ht' with h1 | h1
              · exact List.mem_append_left _ (hdone t' h1)
              · rw [List.mem_singleton.mp h1]; exact List.mem_append_right _ (.head _)
        · rintro B3 X3 s7 hs3' ⟨m, us, ts, os, ss, rfl, hs3, hkl, hma, hmo, hms, hmr, hmk, fus, fts, SI, CL, eo, hdone⟩ W7
          have wl := wF.length
          rw [wl, List.take_length] at hdone
          have h23 := hs2.trans hs3
          refine wpAny_execs_nil (hQb .next _ ⟨17 - (k + 1), B3, _, by omega, h23, ⟨m, us, ts, os, ss, k + 1, tk2, rfl, hsb.trans h23, rfl, hkl, hma, hmo, hms, hmk, fus, fts, SI, fun i o' hi ho' t hw => ?_⟩, W7⟩)
          by_cases hik : i < k
          · exact CL i o' hik ho' t hw
          · have : i = k := by omega
            subst this
            rw [eo] at ho'; cases ho'
            exact hdone t ((hws t).mpr hw)
      · have hk : k = os.length := by have := of_decide_eq_false hb; omega
        subst hk
        have hall := reach_all hv SI CL
        refine wpAny_execs_cons (wpAny_Return_some (call_b1 hG' W2 boot_sorted ?_))
        refine ev_local W2 (m := m) (by k_mem) hms ?_
        have h2 := two_closedRaw hv
        have hln : ss.length = os.length := by rw [SI.eq, List.length_map]
        refine sorted_lists W2 (L := L) (m := m) (by k_mem) (.inr (List.Mem.head _)) fts (Nat.le_trans h2 (nodup_len (nodup_closedRaw arcs) fun x hx => (hall x).mpr hx)) (by omega) SI.nd (un _ (by omega)) fun D' us' ys s5 W5 fy hp hs => ?_
        obtain ⟨B2, o, hs2, ho, p, H⟩ := W5.st.freeze
        exact h B2 _ ys s5 (hsb.trans hs2) (W5.re H.drop.drop.drop) ⟨D', us', rfl, ⟨o, ho, p⟩, fy.mono (mono_list mono_int) hs2⟩ (fun S => by rw [hp.mem_iff]; exact hall S) hs
end Mine

end

section
open PySem PySem.W PyProof.Rows PySem.SeqAt
set_option Elab.async false
set_option linter.unusedVariables false
set_option maxRecDepth 100000
set_option maxHeartbeats 4000000
namespace Mine

def IsP (vs : List Value) : As := fun o => o.cls = .type "list" ∧ ∃ n, o.data = .seq vs.toArray n
def EnP (it : Addr) (i : Int) (old : Value) : As := fun o => o = { cls := .type "enumerate", dict := none, data := .fields #[.none, .bool false, .ref it, rawInt i, .none, old], slots := #[] }
def EnOutP (it : Addr) (i : Int) (x : Value) (a : Addr) : As := fun o => o = { cls := .type "enumerate", dict := none, data := .fields #[rawInt a, .bool false, .ref it, rawInt i, .none, x], slots := #[] }

theorem St.upd2 {B h h' : Heap} {X : Led} {e it : Addr} {P P' Q Q' : As} (H : St B ((e, P) :: (it, P') :: X) h) (hk : ∀ b o, b ≠ e → b ≠ it → h.get? b = some o → h'.get? b = some o) (he : ∃ o, h'.get? e = some o ∧ Q o) (hi : ∃ o, h'.get? it = some o ∧ Q' o) :
    St B ((e, Q) :: (it, Q') :: X) h' := by
  have nd := H.nd
  simp only [List.map_cons, List.nodup_cons, List.mem_cons, not_or] at nd
  have be := (H.xs (e, P) (.head _)).2
  have bi := (H.xs (it, P') (.tail _ (.head _))).2
  refine ⟨fun b o eb => hk b o (fun q => ?_) (fun q => ?_) (H.sub b o eb), fun q hq => ?_, by simpa using H.nd⟩
  · subst q; rw [eb] at be; cases be
  · subst q; rw [eb] at bi; cases bi
  · rcases List.mem_cons.mp hq with rfl | hq
    · exact ⟨he, be⟩
    · rcases List.mem_cons.mp hq with rfl | hq
      · exact ⟨hi, bi⟩
      · obtain ⟨⟨o, eo, p⟩, n⟩ := H.xs q (.tail _ (.tail _ hq))
        exact ⟨⟨o, hk _ o (fun z => nd.1.2 (z ▸ List.mem_map_of_mem hq)) (fun z => nd.2.1 (z ▸ List.mem_map_of_mem hq)) eo, p⟩, n⟩

theorem F2.set {α β : Type} {R : α → β → Prop} {a : α} {b : β} {l : List α} {m : List β} (x : F2 R l m) (i : Nat) (h : R a b) : F2 R (l.set i a) (m.set i b) := by
  induction x generalizing i with
  | nil => exact .nil
  | cons x y ih => cases i with
    | zero => exact .cons h y
    | succ i => exact .cons x (ih i)
theorem fmod_bound {a b : Int} (hb : 0 < b) : 0 ≤ a.fmod b ∧ a.fmod b < b := ⟨Int.fmod_nonneg_of_pos _ hb, Int.fmod_lt_of_pos _ hb⟩
section
variable {prog : Program} {w : World} {A : Around} {E : Value → Shared → Prop} {s₀ s : Shared} {B : Heap} {X : Led} {env : Env} {K : Frag} {mg mb : Str → Option Value}
theorem ev_min2 {a b : Expr} {x y : Int} {p pos : Pos} {Q : Value → Shared → Prop} (hh : A.handled = none) (hG : G K mg mb B) (hW : W s₀ B X s) (ha : Ev ⟨prog, w, A, env, s₀, B, X⟩ a (IsI x)) (hb : Ev ⟨prog, w, A, env, s₀, B, X⟩ b (IsI y))
    (h : ∀ t s', W s₀ B X s' → Q (.int (if y < x then y else x) t) s')
    (hns : starEach [a, b] env = [(false, eval a env), (false, eval b env)] := by rfl) (e0 : nsIn K mainGlobals "min" = some none := by with_unfolding_all rfl)
    (hg : env.globals = mainGlobals := by rfl) (hbb : env.builtins = builtinsNs := by rfl) (hk : env.scope.kind = .function := by rfl) (hx : env.kindOf "min" = some .globalImplicit := by rfl) :
    wpAny (model prog w) A (eval (.Call (.Name "min" p) [a, b] [] pos) env) Q E s := by
  refine wpAny_Call_NameR (ev_builtin hG hW boot_min ?_ e0 (by decide) hg hbb hk hx)
  rw [hns]
  refine Calls.callWith_builtin rfl (Calls.evalArgs_plain (Calls.spliced_cons (ha s _ _ hW fun s1 v1 ⟨t1, e1⟩ W1 => Calls.spliced_cons (hb s1 _ _ W1 fun s2 v2 ⟨t2, e2⟩ W2 => Calls.spliced_nil ?_))))
  subst e1 e2
  refine min_two_ints hh fun h' tk hk' => ?_
  by_cases c : y < x
  · rw [if_pos c]; have := h t2 _ (W2.to (tk := tk) (W2.st.grow hk')); rwa [if_pos c] at this
  · rw [if_neg c]; have := h t1 _ (W2.to (tk := tk) (W2.st.grow hk')); rwa [if_neg c] at this
theorem ev_max2 {a b : Expr} {x y : Int} {p pos : Pos} {Q : Value → Shared → Prop} (hh : A.handled = none) (hG : G K mg mb B) (hW : W s₀ B X s) (ha : Ev ⟨prog, w, A, env, s₀, B, X⟩ a (IsI x)) (hb : Ev ⟨prog, w, A, env, s₀, B, X⟩ b (IsI y))
    (h : ∀ t s', W s₀ B X s' → Q (.int (if y > x then y else x) t) s')
    (hns : starEach [a, b] env = [(false, eval a env), (false, eval b env)] := by rfl) (e0 : nsIn K mainGlobals "max" = some none := by with_unfolding_all rfl)
    (hg : env.globals = mainGlobals := by rfl) (hbb : env.builtins = builtinsNs := by rfl) (hk : env.scope.kind = .function := by rfl) (hx : env.kindOf "max" = some .globalImplicit := by rfl) :
    wpAny (model prog w) A (eval (.Call (.Name "max" p) [a, b] [] pos) env) Q E s := by
  refine wpAny_Call_NameR (ev_builtin hG hW boot_max ?_ e0 (by decide) hg hbb hk hx)
  rw [hns]
  refine Calls.callWith_builtin rfl (Calls.evalArgs_plain (Calls.spliced_cons (ha s _ _ hW fun s1 v1 ⟨t1, e1⟩ W1 => Calls.spliced_cons (hb s1 _ _ W1 fun s2 v2 ⟨t2, e2⟩ W2 => Calls.spliced_nil ?_))))
  subst e1 e2
  refine max_two_ints hh fun h' tk hk' => ?_
  by_cases c : y > x
  · rw [if_pos c]; have := h t2 _ (W2.to (tk := tk) (W2.st.grow hk')); rwa [if_pos c] at this
  · rw [if_neg c]; have := h t1 _ (W2.to (tk := tk) (W2.st.grow hk')); rwa [if_neg c] at this
end
def arcOf (c : Int) : Int × Int := ((if (c.fdiv 4).fmod 4 < c.fmod 4 then (c.fdiv 4).fmod 4 else c.fmod 4), (if (c.fdiv 4).fmod 4 > c.fmod 4 then (c.fdiv 4).fmod 4 else c.fmod 4))

inductive ArI (s₀ : Shared) (B1 : Heap) (X : Led) (I1 I0 SA D L : Addr) (len : Nat) (n : Nat) (s' : Shared) : Prop
  | mk (i : Nat) (B' : Heap) (m : Str → Option Value) (cv : List Value) (cs : List Int) (old : Value) (h1 : n = len - i) (h2 : i ≤ len) (h3 : Sub B1 B') (h4 : W s₀ B' ((I1, EnP I0 ((i : Nat) : Int) old) :: (I0, LIterP SA i) :: (D, IsP cv) :: (L, NsP m) :: X) s')
      (h5 : m (Str.ofString "cells") = some (.ref D)) (h6 : F2 (RInt B') cv cs) (h7 : cs.length = 5) (h8 : ∀ c ∈ cs, 0 ≤ c ∧ c ≤ 14 + 15 * ((i : Nat) : Int)) : ArI s₀ B1 X I1 I0 SA D L len n s'
theorem arcs_call {prog : Program} {w : World} {A : Around} {E : Value → Shared → Prop} {s₀ s : Shared} {B : Heap} {X : Led} {mg mb : Str → Option Value} {sA : Addr} {sV : List Value} {ns : List Int} {Q : Value → Shared → Prop}
    (hG : G (KF w) mg mb B) (hW : W s₀ B X s) (hR : Rm A 3 80) (hs : B.IsList sA sV.toArray) (hi : IntsAre sV ns) (hlen : ns.length ≤ 63)
    (h : ∀ B' r arcs s', Sub B B' → W s₀ B' X s' → RArcs B' r arcs → Valid arcs → arcs.length ≤ 5 → Q r s') :
    wpAny (model prog w) A (call (.ref 153) [.ref sA]) Q E s := by
  refine call_fn (binds := [(Str.ofString "script", .ref sA)]) hG hW (by with_unfolding_all rfl) (by with_unfolding_all rfl) (by with_unfolding_all rfl) (by have := hR.d; omega) (BindsTo.of_eq (by with_unfolding_all rfl)) (by decide) ?_ (by with_unfolding_all rfl) (by with_unfolding_all rfl) (by with_unfolding_all rfl) ?_
  · intro x hx
    rcases List.mem_singleton.mp hx with rfl
    with_unfolding_all rfl
  · intro L s1 W1
    obtain ⟨m, hms, W2⟩ : Ex2 (fun m : Str → Option Value => m (Str.ofString "script") = some (.ref sA)) (fun m : Str → Option Value => W s₀ B ((L, NsP m) :: X) s1) := ⟨_, by with_unfolding_all rfl, W1⟩
    clear W1
    have R1 := hR.deeper (d := 2) (u := 77)
    have un : ∀ k, k ≤ 77 → A.units + 3 + k < cLine := fun k hk => by have := (R1 default).u; exact Nat.lt_of_le_of_lt (by show A.units + 3 + _ ≤ A.units + 3 + 77; omega) this
    -- cells = [4, 8, 13, 14, 0]
    refine wpAny_execs_cons (wpAny_Assign_Name (wpAny_List ?_))
    refine Calls.spliced_cons (wpAny_Constant_int (k := 0) (pos := default) ?_)
    refine Calls.spliced_cons (wpAny_Constant_int (k := 0) (pos := default) ?_)
    refine Calls.spliced_cons (wpAny_Constant_int (k := 0) (pos := default) ?_)
    refine Calls.spliced_cons (wpAny_Constant_int (k := 0) (pos := default) ?_)
    refine Calls.spliced_cons (wpAny_Constant_int (k := 0) (pos := default) ?_)
    refine Calls.spliced_nil ⟨by rw [sizeLine_eq]; simp, ?_⟩
    have W3 := W2.tok (s1.toks + 1 + 1 + 1 + 1 + 1)
    have W4 := W3.to (tk := s1.toks + 1 + 1 + 1 + 1 + 1) (W3.st.new (o := { cls := .type "list", data := .seq [Value.int 4 s1.toks, .int 8 (s1.toks + 1), .int 13 (s1.toks + 1 + 1), .int 14 (s1.toks + 1 + 1 + 1), .int 0 (s1.toks + 1 + 1 + 1 + 1)].toArray }) rfl (P := IsP [Value.int 4 s1.toks, .int 8 (s1.toks + 1), .int 13 (s1.toks + 1 + 1), .int 14 (s1.toks + 1 + 1 + 1), .int 0 (s1.toks + 1 + 1 + 1 + 1)]) ⟨rfl, _, rfl⟩)
    refine st_local [_] W4 fun s3 W5 => ?_
    obtain ⟨D, m1, cv0, hms1, hmc1, fcv0, W5⟩ : ∃ (D : Addr) (m1 : Str → Option Value) (cv0 : List Value), m1 (Str.ofString "script") = some (.ref sA) ∧ m1 (Str.ofString "cells") = some (.ref D) ∧ F2 (RInt B) cv0 [4, 8, 13, 14, 0] ∧ W s₀ B ((D, IsP cv0) :: (L, NsP m1) :: X) s3 :=
      ⟨s1.heap.objs.size, _, _, (up_ne (by decide)).trans hms, up_self _ _ _, .cons ⟨_, rfl⟩ (.cons ⟨_, rfl⟩ (.cons ⟨_, rfl⟩ (.cons ⟨_, rfl⟩ (.cons ⟨_, rfl⟩ .nil)))), W5⟩
    clear W3 W4
    -- for k, x in enumerate(script[:60])
    have hsI := hs
    refine wpAny_execs_cons (wpAny_For (wpAny_Call_NameR (ev_builtin hG W5 boot_enumerate ?_)))
    refine PyProof.Rows.callWith_type rfl (Calls.evalArgs_plain (Calls.spliced_cons (wpAny_Subscript_list_slice (ev_local W5 (by k_mem) hms1 (wpAny_evalPart_none (wpAny_evalPart_some (wpAny_Constant_int ?_)))))))
    have W6 := W5.tok (s3.toks + 1)
    have hs3 : s3.heap.IsList sA sV.toArray := let ⟨o, ho, r⟩ := hs; ⟨o, W5.st.sub _ _ ho, r⟩
    have hlv := hi.length
    refine ⟨sA, sV.toArray, none, some 60, rfl, hs3, by rw [sizeLine_eq]; simp; omega, .none, .int _ _, Calls.spliced_nil ?_⟩
    generalize hsl : slicePick sV.toArray none (some 60) none = sp
    have hsp : IntsAre sp.toList (ns.take 60) := by rw [← hsl]; exact slice_ints_uptoW hi (by decide)
    have hz7 : (s3.heap.push { cls := .type "slice", data := .fields #[.none, .int 60 s3.toks, .none] }).objs.size = s3.heap.objs.size + 1 := Heap.size_push ..
    have H7 := (W5.st.push { cls := .type "slice", data := .fields #[.none, .int 60 s3.toks, .none] }).new (o := { cls := .type "list", data := .seq sp }) rfl (P := LsP sp.toList) ⟨_, by simp; rfl⟩
    rw [hz7] at H7
    have W7 := W6.to (tk := s3.toks + 1) H7
    obtain ⟨B1, oS, hB1, hoS, pS, H8⟩ := W7.st.freeze
    have W8 := W7.re H8
    have hlS := pS.isList (W8.st.sub _ _ hoS)
    refine call_enumerate_list hlS fun h' hE hI hz hk => ?_
    refine wpAny_pyIter_enum hE ?_
    generalize hs9 : ({ s3 with heap := (s3.heap.push { cls := .type "slice", data := .fields #[.none, .int 60 s3.toks, .none] }).push { cls := .type "list", data := .seq sp }, toks := s3.toks + 1 } : Shared) = s9 at W8 hlS hE hI hz hk
    have hsz9 : s9.heap.objs.size ≤ s9.heap.objs.size := Nat.le_refl _
    have H9a : St B1 ((s9.heap.objs.size + 1, EnP s9.heap.objs.size 0 .none) :: (s9.heap.objs.size, LIterP (s3.heap.objs.size + 1) 0) :: (D, IsP cv0) :: (L, NsP m1) :: X) h' := by
      have ha := W8.st.addAt (h' := h') (a := s9.heap.objs.size) (P := LIterP (s3.heap.objs.size + 1) 0) hk (Nat.le_refl _) hI
      refine ⟨ha.sub, fun q hq => ?_, ?_⟩
      · rcases List.mem_cons.mp hq with rfl | hq
        · refine ⟨⟨_, hE, rfl⟩, ?_⟩
          show B1.get? _ = none
          cases eb : B1.get? (s9.heap.objs.size + 1) with
          | none => rfl
          | some o => exact absurd (Heap.lt_size (W8.st.sub _ _ eb)) (Nat.not_lt.mpr (Nat.le_succ _))
        · exact ha.xs q hq
      · rw [List.map_cons, List.nodup_cons]
        refine ⟨fun hm => ?_, ha.nd⟩
        rw [List.map_cons, List.mem_cons] at hm
        rcases hm with e | hm
        · exact absurd e (Nat.succ_ne_self _)
        · obtain ⟨q, hq, e⟩ := List.mem_map.mp hm
          have hlt := W8.st.lt (a := q.1) (P := q.2) hq
          have e' : q.1 = s9.heap.objs.size + 1 := e
          rw [e'] at hlt
          exact absurd hlt (Nat.not_lt.mpr (Nat.le_succ _))
    have W9 := W8.to (tk := s9.toks) H9a
    have hne1 : s9.heap.objs.size + 1 ≠ s9.heap.objs.size := Nat.succ_ne_self _
    generalize s9.heap.objs.size + 1 = I1 at W9 hne1 ⊢
    generalize s9.heap.objs.size = I0 at W9 hne1
    generalize s3.heap.objs.size + 1 = SA at W9 hoS
    have fsp : F2 (RInt B1) sp.toList (ns.take 60) := of_ints hsp
    have lsp := fsp.length
    have lsp60 : sp.toList.length ≤ 60 := by rw [lsp, List.length_take]; omega
    refine codeAny_forLoop_any (ArI s₀ B1 X I1 I0 SA D L sp.toList.length) ?_ sp.toList.length
      ⟨0, B1, m1, cv0, [4, 8, 13, 14, 0], .none, rfl, Nat.zero_le _, Sub.refl _, W9, hmc1, fcv0.mono mono_int hB1, rfl, by decide⟩
    rintro n s' ⟨i, B', m, cv, cs, old, rfl, hil, hBB, W', hmc, fcv, cl5, hcs⟩
    have hlS' : s'.heap.IsList (SA) sp := by
      have := pS.isList (W'.st.sub _ _ (hBB _ _ hoS))
      simpa using this
    obtain ⟨oE, heE, pE⟩ := W'.st.at (List.Mem.head _)
    have hEn : IsEnum s'.heap (I1) I0 ((i : Nat) : Int) old := by
      have pE' : oE = _ := pE
      subst pE'
      exact heE
    have hIt : s'.heap.IsListIter I0 (SA) i := W'.st.at (List.Mem.tail _ (List.Mem.head _))
    have hG1 := (hG.mono hB1).mono hBB
    by_cases hlt : i < sp.toList.length
    · obtain ⟨x, ex, tx, etx⟩ := fsp.get (i := i) (a := sp.toList[i]) (List.getElem?_eq_getElem hlt)
      have hx : sp[i]? = some (.int x tx) := by rw [← etx]; simp [show i < sp.size by simpa using hlt]
      refine wpAny_pyNext_enum_item hEn hIt hlS' hx hne1 fun h2 hOut hIt2 hT hz2 hk2 => ?_
      have H2 := W'.st.upd2 (Q := EnOutP I0 (((i : Nat) : Int) + 1) (.int x tx) s'.heap.objs.size) (Q' := LIterP (SA) (i + 1)) hk2 ⟨_, hOut, rfl⟩ hIt2
      have hTn : s'.heap.objs.size ∉ (((I1, EnOutP I0 (((i : Nat) : Int) + 1) (.int x tx) s'.heap.objs.size) :: (I0, LIterP (SA) (i + 1)) :: (D, IsP cv) :: (L, NsP m) :: X : Led).map (·.1)) := W'.st.notin
      have hTB := hideAll_get _ hT hTn
      have W2' := (W'.to (tk := s'.toks + 1) H2).re (s := { s' with heap := h2, toks := s'.toks + 1 }) H2.fz.2
      have hsF : Sub B' (Mine.fz h2 ((I1, EnOutP I0 (((i : Nat) : Int) + 1) (.int x tx) s'.heap.objs.size) :: (I0, LIterP (SA) (i + 1)) :: (D, IsP cv) :: (L, NsP m) :: X)) := H2.fz.1
      generalize hBF : Mine.fz h2 ((I1, EnOutP I0 (((i : Nat) : Int) + 1) (.int x tx) s'.heap.objs.size) :: (I0, LIterP (SA) (i + 1)) :: (D, IsP cv) :: (L, NsP m) :: X) = BF at W2' hsF
      have hTB' : BF.IsTuple s'.heap.objs.size #[.int ((i : Nat) : Int) s'.toks, .int x tx] := by rw [← hBF]; exact ⟨_, hTB, rfl, _, rfl⟩
      refine wpAny_letOwnedTupleGo_enum hOut fun h3 hE3 hs3 => ?_
      refine abs_turn fun Qt hQt => ?_
      have W3' := W2'.to (tk := s'.toks + 1) (W2'.st.upd0 (P' := EnP I0 (((i : Nat) : Int) + 1) (.int x tx)) hs3 ⟨_, hE3, rfl⟩)
      refine as_pair (R1 _).h [(I1, EnP I0 (((i : Nat) : Int) + 1) (.int x tx)), (I0, LIterP (SA) (i + 1)), (D, IsP cv)] W3' hTB' fun s4 W4' => ?_
      -- cells[k % 5] += x % 16
      have hmk := (up_ne (m := up m (Str.ofString "k") (.int ((i : Nat) : Int) s'.toks)) (x := Str.ofString "x") (y := Str.ofString "k") (v := .int x tx) (by decide)).trans (up_self _ _ _)
      have hmx := up_self (up m (Str.ofString "k") (.int ((i : Nat) : Int) s'.toks)) (Str.ofString "x") (.int x tx)
      have hmc' := (up_ne (m := up m (Str.ofString "k") (.int ((i : Nat) : Int) s'.toks)) (x := Str.ofString "x") (y := Str.ofString "cells") (v := .int x tx) (by decide)).trans ((up_ne (by decide)).trans hmc)
      have fcvF := fcv.mono mono_int hsF
      have hj := fmod_bound (a := ((i : Nat) : Int)) (b := 5) (by decide)
      have cvl := fcv.length
      refine wpAny_execs_cons (wpAny_AugAssign_SubscriptAny (ev_local W4' (by k_mem) hmc' ?_))
      refine (Ev.mod (c := ⟨prog, w, _, _, s₀, BF, _⟩) (a := ((i : Nat) : Int)) (b := 5) (Ev.imp (Ev.local (by k_mem) hmk) fun v e => ⟨_, e⟩) Ev.int (by decide)) s4 _ _ W4' fun s5 v5 ⟨t5, e5⟩ W5' => ?_
      subst e5
      obtain ⟨oD, hoD, pD⟩ := W5'.st.at (a := D) (P := IsP cv) (by k_mem)
      have hjl : (((i : Nat) : Int).fmod 5).toNat < cv.length := by omega
      obtain ⟨c, ec, tc, etc⟩ := fcvF.get (i := (((i : Nat) : Int).fmod 5).toNat) (a := cv[(((i : Nat) : Int).fmod 5).toNat]) (List.getElem?_eq_getElem hjl)
      refine wpAny_getItem_list (x := .int c tc) ⟨oD, hoD, pD⟩ hj.1 (by omega) (by rw [← etc]; simp [hjl]) ?_
      refine (Ev.mod (c := ⟨prog, w, _, _, s₀, BF, _⟩) (a := x) (b := 16) (Ev.imp (Ev.local (by k_mem) hmx) fun v e => ⟨_, e⟩) Ev.int (by decide)) s5 _ _ W5' fun s6 v6 ⟨t6, e6⟩ W6' => ?_
      subst e6
      refine wpAny_iadd_int ?_
      have W7' := W6'.tok (s6.toks + 1)
      obtain ⟨oD7, hoD7, pD7⟩ := W7'.st.at (a := D) (P := IsP cv) (by k_mem)
      refine wpAny_setItem_list (items := cv.toArray) ⟨oD7, hoD7, pD7⟩ hj.1 (by omega) (by simp; omega) fun h8 hl8 hs8 => ?_
      have W8' := W7'.to (tk := s6.toks + 1) (W7'.st.upd [(I1, EnP I0 (((i : Nat) : Int) + 1) (.int x tx)), (I0, LIterP (SA) (i + 1))] (P' := IsP (cv.set (((i : Nat) : Int).fmod 5).toNat (.int (c + x.fmod 16) s6.toks))) hs8 (by
        obtain ⟨o8, ho8, hc8, n8, hd8⟩ := hl8
        exact ⟨o8, ho8, hc8, n8, by rw [hd8]; simp⟩))
      refine wpAny_execs_nil (hQt .next _ ⟨sp.toList.length - (i + 1), by omega, i + 1, BF, _, _, cs.set (((i : Nat) : Int).fmod 5).toNat (c + x.fmod 16), _, rfl, by omega, hBB.trans hsF, W8', hmc', ?_, by rw [List.length_set]; exact cl5, ?_⟩)
      · exact F2.set fcvF _ ⟨_, rfl⟩
      · intro c' hc'
        have hb16 := fmod_bound (a := x) (b := 16) (by decide)
        rcases List.mem_or_eq_of_mem_set hc' with h1 | h1
        · have := hcs c' h1; omega
        · have := hcs c (List.mem_of_getElem? ec); omega
    · have hi' : i = sp.toList.length := by omega
      subst hi'
      refine wpAny_pyNext_enum_end (R1 _).h hEn hIt hlS' (by simp) fun h2 he2 => ?_
      have H2 : St B' ((D, IsP cv) :: (L, NsP m) :: X) h2 := (W'.st.front (pre := [_])).extBut he2 |>.drop
      have W10 := W'.to (tk := s'.toks) H2
      refine wpAny_execs_nil ?_
      have hBB' := hB1.trans hBB
      have cvl := fcv.length
      -- pairs = [(min(..), max(..)) for cell in cells]
      refine wpAny_execs_cons (as_comp_listI (RA := RInt) (RB := RPair RInt RInt) (fun _ => true) arcOf (R1 _).h [(D, IsP cv)] (fun Q' hq => ev_local W10 (by k_mem) hmc hq) W10 (fun B2 h3 _ H => let ⟨o, ho, p⟩ := H.at (List.Mem.head _); ⟨o, ho, p⟩) fcv mono_int (mono_pair mono_int mono_int) (by rw [sizeLine_eq]; omega) ?_ ?_)
      · intro c cvv B2 mc Cn Z s11 hc hs2 ⟨tc, etc⟩ W11
        subst etc
        have hcb := hcs c hc
        refine cturn_name0 rfl W11 fun s12 Q12 E12 W12 k12 => ?_
        have hG2 := hG1.mono hs2
        refine wpAny_Tuple (Calls.spliced_cons (ev_min2 (x := c.fmod 4) (y := (c.fdiv 4).fmod 4) (R1 _).h hG2 W12 (Ev.mod (Ev.imp (Ev.local (List.Mem.head _) (up_self _ _ _)) fun v e => ⟨tc, e⟩) Ev.int (by decide)) (Ev.mod (Ev.fdiv (Ev.imp (Ev.local (List.Mem.head _) (up_self _ _ _)) fun v e => ⟨tc, e⟩) Ev.int (by decide) (by omega)) Ev.int (by decide)) fun t1 s13 W13 => ?_))
        refine Calls.spliced_cons (ev_max2 (x := c.fmod 4) (y := (c.fdiv 4).fmod 4) (R1 _).h hG2 W13 (Ev.mod (Ev.imp (Ev.local (List.Mem.head _) (up_self _ _ _)) fun v e => ⟨tc, e⟩) Ev.int (by decide)) (Ev.mod (Ev.fdiv (Ev.imp (Ev.local (List.Mem.head _) (up_self _ _ _)) fun v e => ⟨tc, e⟩) Ev.int (by decide) (by omega)) Ev.int (by decide)) fun t2 s14 W14 => Calls.spliced_nil ⟨by rw [sizeLine_eq]; simp, ?_⟩)
        have W15 := W14.to (tk := s14.toks) (W14.st.new (o := { cls := .type "tuple", data := .seq [Value.int (arcOf c).1 t1, .int (arcOf c).2 t2].toArray }) rfl (P := fun o => o = { cls := .type "tuple", data := .seq [Value.int (arcOf c).1 t1, .int (arcOf c).2 t2].toArray }) rfl)
        obtain ⟨B5, oT, hs5, hoT, eT, H5⟩ := W15.st.freeze
        subst eT
        exact k12 _ B5 _ hs5 ⟨_, _, _, rfl, ⟨_, hoT, rfl, _, rfl⟩, ⟨t1, rfl⟩, ⟨t2, rfl⟩⟩ (W15.re H5)
      · intro T us B2 s11 hs2 fT W11
        have hfilt : cs.filter (fun _ => true) = cs := List.filter_eq_self.mpr fun _ _ => rfl
        rw [hfilt] at fT
        have fTl := fT.length
        rw [List.length_map, cl5] at fTl
        have arcR : ∀ c, 0 ≤ (arcOf c).1 ∧ (arcOf c).1 ≤ (arcOf c).2 ∧ (arcOf c).2 < 4 := fun c => by
          have h1 := fmod_bound (a := c) (b := 4) (by decide)
          have h2 := fmod_bound (a := c.fdiv 4) (b := 4) (by decide)
          unfold arcOf
          dsimp only
          split <;> split <;> omega
        refine wpAny_execs_cons (wpAny_Return_some (ev_comp_list (RA := RPair RInt RInt) (RB := RPair RInt RInt) (fun a => !decide (a.1 = a.2)) (fun a => a) (R1 _).h (fun Q' hq => ev_local W11 (by k_mem) (up_self _ _ _) hq) W11 (.inr (List.Mem.head _)) fT (mono_pair mono_int mono_int) (mono_pair mono_int mono_int) (by rw [List.length_map, sizeLine_eq]; omega) ?_ ?_))
        · intro a av B3 mc Cn Z s12 hx hs3 ⟨pa, v1, v2, e, hT, ⟨t1, e1⟩, ⟨t2, e2⟩⟩ W12
          subst e e1 e2
          refine cturn_pair (R1 _).h W12 hT (EvT.a (Ev.neI (Ev.imp (Ev.local (List.Mem.head _) ((up_ne (by decide)).trans (up_self _ _ _))) fun v e => ⟨t1, e⟩) (Ev.imp (Ev.local (List.Mem.head _) (up_self _ _ _)) fun v e => ⟨t2, e⟩))) fun B4 hs4 _ s13 Q13 E13 W13 k13 => ?_
          refine wpAny_Tuple (Calls.spliced_cons (ev_local W13 (List.Mem.head _) ((up_ne (by decide)).trans (up_self _ _ _)) (Calls.spliced_cons (ev_local W13 (List.Mem.head _) (up_self _ _ _) (Calls.spliced_nil ⟨by rw [sizeLine_eq]; simp, ?_⟩)))))
          have W15 := W13.to (tk := s13.toks) (W13.st.new (o := { cls := .type "tuple", data := .seq [Value.int a.1 t1, .int a.2 t2].toArray }) rfl (P := fun o => o = { cls := .type "tuple", data := .seq [Value.int a.1 t1, .int a.2 t2].toArray }) rfl)
          obtain ⟨B5, oT, hs5, hoT, eT, H5⟩ := W15.st.freeze
          subst eT
          exact k13 _ B5 _ hs5 ⟨_, _, _, rfl, ⟨_, hoT, rfl, _, rfl⟩, ⟨t1, rfl⟩, ⟨t2, rfl⟩⟩ (W15.re H5)
        · intro D2 us2 B3 s12 hs3 f2 W12
          obtain ⟨B5, oT, hs5, hoT, pT, H5⟩ := W12.st.freeze
          refine h B5 _ _ s12 (((hBB'.trans hs2).trans hs3).trans hs5) (W12.re H5.drop.drop.drop) ⟨D2, us2, rfl, ⟨oT, hoT, pT⟩, f2.mono (mono_pair mono_int mono_int) hs5⟩ ?_ ?_
          · intro a ha
            rw [List.map_id'] at ha
            obtain ⟨h1, h2⟩ := List.mem_filter.mp ha
            obtain ⟨c, _, rfl⟩ := List.mem_map.mp h1
            have := arcR c
            simp only [Bool.not_eq_true', decide_eq_false_iff_not] at h2
            omega
          · rw [List.length_map]
            refine Nat.le_trans (List.length_filter_le _ _) ?_
            rw [List.length_map]; omega
end Mine

end

section
open PySem PySem.W PyProof.Rows
set_option Elab.async false
set_option linter.unusedVariables false
set_option maxRecDepth 100000
namespace Mine

def pairs6 : List (Int × Int) := [(0, 1), (0, 2), (0, 3), (1, 2), (1, 3), (2, 3)]
def tcut (T : List (Int × Int)) (S : List Int) : List (Int × Int) := T.filter fun a => decide (a.1 ∈ S) && !decide (a.2 ∈ S)
def tclosed (T : List (Int × Int)) (S : List Int) : Bool := T.all fun a => !decide (a.2 ∈ S) || decide (a.1 ∈ S)
def certs : List (List (Int × Int) × List (List Int)) := [
  ([], []),
  ([(0, 1)], [[0]]),
  ([(0, 2)], [[0]]),
  ([(0, 1), (0, 2)], [[0, 1], [0, 2]]),
  ([(0, 3)], [[0]]),
  ([(0, 1), (0, 3)], [[0, 1], [0, 3]]),
  ([(0, 2), (0, 3)], [[0, 2], [0, 3]]),
  ([(0, 1), (0, 2), (0, 3)], [[0, 1, 2], [0, 1, 3], [0, 2, 3]]),
  ([(1, 2)], [[1]]),
  ([(0, 1), (1, 2)], [[0], [0, 1]]),
  ([(0, 2), (1, 2)], [[0], [1]]),
  ([(0, 2)], [[0]]),
  ([(0, 3), (1, 2)], [[0], [1]]),
  ([(0, 1), (0, 3), (1, 2)], [[0, 1, 2], [0, 3], [0, 1, 3]]),
  ([(0, 2), (0, 3), (1, 2)], [[1], [0, 1, 2], [0, 3]]),
  ([(0, 2), (0, 3)], [[0, 1, 2], [0, 3]]),
  ([(1, 3)], [[1]]),
  ([(0, 1), (1, 3)], [[0], [0, 1]]),
  ([(0, 2), (1, 3)], [[0], [1]]),
  ([(0, 1), (0, 2), (1, 3)], [[0, 2], [0, 1, 2], [0, 1, 3]]),
  ([(0, 3), (1, 3)], [[0], [1]]),
  ([(0, 3)], [[0]]),
  ([(0, 2), (0, 3), (1, 3)], [[1], [0, 2], [0, 1, 3]]),
  ([(0, 2), (0, 3)], [[0, 2], [0, 1, 3]]),
  ([(1, 2), (1, 3)], [[1, 2], [1, 3]]),
  ([(0, 1), (1, 2), (1, 3)], [[0], [0, 1, 2], [0, 1, 3]]),
  ([(0, 2), (1, 2), (1, 3)], [[0], [0, 1, 2], [1, 3]]),
  ([(0, 2), (1, 3)], [[0], [0, 1, 2]]),
  ([(0, 3), (1, 2), (1, 3)], [[0], [1, 2], [0, 1, 3]]),
  ([(0, 3), (1, 2)], [[0], [0, 1, 3]]),
  ([(0, 2), (1, 3)], [[0], [1]]),
  ([(0, 2), (0, 3)], [[0, 1, 2], [0, 1, 3]]),
  ([(2, 3)], [[2]]),
  ([(0, 1), (2, 3)], [[0], [2]]),
  ([(0, 2), (2, 3)], [[0], [0, 2]]),
  ([(0, 1), (0, 2), (2, 3)], [[0, 1], [0, 1, 2], [0, 2, 3]]),
  ([(0, 3), (2, 3)], [[0], [2]]),
  ([(0, 1), (0, 3), (2, 3)], [[0, 1], [2], [0, 2, 3]]),
  ([(0, 3)], [[0]]),
  ([(0, 1), (0, 3)], [[0, 1], [0, 2, 3]]),
  ([(1, 2), (2, 3)], [[1], [1, 2]]),
  ([(0, 1), (1, 2), (2, 3)], [[0], [0, 1], [0, 1, 2]]),
  ([(0, 2), (1, 2), (2, 3)], [[0], [1], [0, 1, 2]]),
  ([(0, 2), (2, 3)], [[0], [0, 1, 2]]),
  ([(0, 3), (1, 2), (2, 3)], [[0], [1], [1, 2]]),
  ([(0, 3)], [[0]]),
  ([(0, 3), (1, 2)], [[0], [1]]),
  ([(0, 3)], [[0]]),
  ([(1, 3), (2, 3)], [[1], [2]]),
  ([(0, 1), (1, 3), (2, 3)], [[0], [0, 1], [2]]),
  ([(0, 2), (1, 3), (2, 3)], [[0], [1], [0, 2]]),
  ([(0, 1), (1, 3)], [[0], [0, 1, 2]]),
  ([(0, 3), (1, 3), (2, 3)], [[0], [1], [2]]),
  ([(0, 3), (2, 3)], [[0], [2]]),
  ([(0, 3), (1, 3)], [[0], [1]]),
  ([(0, 3)], [[0]]),
  ([(1, 3)], [[1]]),
  ([(0, 1), (1, 3)], [[0], [0, 1]]),
  ([(0, 2), (1, 3)], [[0], [1]]),
  ([(0, 1), (1, 3)], [[0], [0, 1, 2]]),
  ([(0, 3), (1, 3)], [[0], [1]]),
  ([(0, 3)], [[0]]),
  ([(0, 2), (1, 3)], [[0], [1]]),
  ([(0, 3)], [[0]])]
def certOf (b : List Bool) : List (Int × Int) × List (List Int) := certs.getD (b.foldr (fun x n => 2 * n + (if x then 1 else 0)) 0) ([], [])
def disjP (T : List (Int × Int)) (F : List (List Int)) : Bool := match F with
  | [] => true
  | S :: r => (r.all fun S' => (tcut T S).all fun e => !decide (e ∈ tcut T S')) && disjP T r
def okB (T J : List (Int × Int)) (F : List (List Int)) : Bool :=
  (J.all fun e => decide (e ∈ T)) && decide J.Nodup && (allSets.all fun S => !tclosed T S || (tcut T S).isEmpty || J.any fun e => decide (e ∈ tcut T S)) &&
  (F.all fun S => decide (S ∈ allSets) && tclosed T S && !(tcut T S).isEmpty) && disjP T F && decide (J.length = F.length)
def pick6 (a b c d e f : Bool) : List (Int × Int) := (if a then [(0, 1)] else []) ++ (if b then [(0, 2)] else []) ++ (if c then [(0, 3)] else []) ++ (if d then [(1, 2)] else []) ++ (if e then [(1, 3)] else []) ++ (if f then [(2, 3)] else [])
theorem cert_all : ∀ a b c d e f : Bool, okB (pick6 a b c d e f) (certOf [a, b, c, d, e, f]).1 (certOf [a, b, c, d, e, f]).2 = true := by decide +kernel

/-! what cutsOf holds -/
theorem cutsOf_mem (arcs : List (Int × Int)) : ∀ (sets cuts : List (List Int)) (c : List Int), c ∈ sets.foldl (addCut arcs) cuts ↔ c ∈ cuts ∨ ∃ S ∈ sets, cutOf arcs S = c ∧ c ≠ []
  | [], cuts, c => by simp
  | S :: r, cuts, c => by
    rw [List.foldl_cons, cutsOf_mem arcs r]
    unfold addCut
    by_cases h : cutOf arcs S = [] ∨ cutOf arcs S ∈ cuts
    · rw [if_pos h]
      constructor
      · rintro (h1 | ⟨S', hS', e, hne⟩)
        · exact .inl h1
        · exact .inr ⟨S', .tail _ hS', e, hne⟩
      · rintro (h1 | ⟨S', hS', e, hne⟩)
        · exact .inl h1
        · rcases List.mem_cons.mp hS' with rfl | hS'
          · rcases h with h | h
            · exact absurd (e ▸ h) hne
            · exact .inl (e ▸ h)
          · exact .inr ⟨S', hS', e, hne⟩
    · rw [if_neg h]
      simp only [not_or] at h
      constructor
      · rintro (h1 | ⟨S', hS', e, hne⟩)
        · rcases List.mem_append.mp h1 with h1 | h1
          · exact .inl h1
          · rw [List.mem_singleton] at h1; exact .inr ⟨S, .head _, h1.symm, h1 ▸ h.1⟩
        · exact .inr ⟨S', .tail _ hS', e, hne⟩
      · rintro (h1 | ⟨S', hS', e, hne⟩)
        · exact .inl (List.mem_append_left _ h1)
        · rcases List.mem_cons.mp hS' with rfl | hS'
          · exact .inl (List.mem_append_right _ (by rw [e]; exact .head _))
          · exact .inr ⟨S', hS', e, hne⟩
theorem cutsOf_nd (arcs : List (Int × Int)) : ∀ (sets cuts : List (List Int)), cuts.Nodup → (sets.foldl (addCut arcs) cuts).Nodup
  | [], cuts, h => h
  | S :: r, cuts, h => by
    rw [List.foldl_cons]
    refine cutsOf_nd arcs r _ ?_
    unfold addCut
    split
    · exact h
    · rename_i hn
      simp only [not_or] at hn
      exact List.nodup_append.mpr ⟨h, by simp, fun a ha b hb => by rw [List.mem_singleton.mp hb]; exact fun q => hn.2 (q ▸ ha)⟩
theorem mem_cutOf {arcs : List (Int × Int)} {S : List Int} {k : Int} : k ∈ cutOf arcs S ↔ (0 ≤ k ∧ k < arcs.length) ∧ (arcs.getD k.toNat (0, 0)).1 ∈ S ∧ (arcs.getD k.toNat (0, 0)).2 ∉ S := by
  unfold cutOf
  rw [List.mem_filter, mem_upTo']
  simp

/-! weak duality -/
theorem dual : ∀ (f : List (List Int)) (sm : List Int), sm.Nodup → f.Pairwise (fun a b => ∀ x ∈ a, x ∉ b) → (∀ c ∈ f, ∃ k ∈ c, k ∈ sm) → f.length ≤ sm.length
  | [], _, _, _, _ => Nat.zero_le _
  | c :: f, sm, hn, hp, hh => by
    have hp' := List.pairwise_cons.mp hp
    obtain ⟨k, hk, hks⟩ := hh c (.head _)
    have := dual f (sm.erase k) (hn.erase k) hp'.2 fun c' hc' => by
      obtain ⟨k', h1, h2⟩ := hh c' (.tail _ hc')
      refine ⟨k', h1, hn.mem_erase_iff.mpr ⟨fun q => ?_, h2⟩⟩
      subst q
      exact hp'.1 c' hc' k' hk h1
    rw [List.length_erase_of_mem hks] at this
    have := List.length_pos_of_mem hks
    simp only [List.length_cons]; omega
theorem disj_iff {a b : List Int} : disj a b = true ↔ ∀ x ∈ a, x ∉ b := by unfold disj; exact decide_eq_true_iff
theorem clash_nil {cut : List Int} {fam : List (List Int)} : clash cut fam = [] ↔ ∀ one ∈ fam, ∀ x ∈ one, x ∉ cut := by
  unfold clash
  rw [List.filter_eq_nil_iff]
  constructor
  · intro h one ho; have := h one ho; rw [Bool.not_eq_true', Bool.not_eq_false] at this; exact disj_iff.mp this
  · intro h one ho hc; rw [disj_iff.mpr (h one ho)] at hc; cases hc
theorem fams_pw : ∀ (cuts : List (List Int)) (fams : List (List (List Int))), (∀ f ∈ fams, f.Pairwise (fun a b => ∀ x ∈ a, x ∉ b)) → ∀ f ∈ cuts.foldl addFam fams, f.Pairwise (fun a b => ∀ x ∈ a, x ∉ b)
  | [], fams, h, f, hf => h f hf
  | c :: r, fams, h, f, hf => fams_pw r (addFam fams c) (fun g hg => by
      rcases List.mem_append.mp hg with hg | hg
      · exact h g hg
      · obtain ⟨g', hg', rfl⟩ := List.mem_map.mp hg
        obtain ⟨h1, h2⟩ := List.mem_filter.mp hg'
        have h3 := clash_nil.mp (of_decide_eq_true h2)
        exact List.pairwise_append.mpr ⟨h g' h1, by simp, fun a ha b hb => by rw [List.mem_singleton.mp hb]; exact h3 a ha⟩) f hf
theorem fams_sub : ∀ (cuts : List (List Int)) (fams : List (List (List Int))) (g f : List (List Int)), g ∈ fams → f.Sublist cuts → (g ++ f).Pairwise (fun a b => ∀ x ∈ a, x ∉ b) → g ++ f ∈ cuts.foldl addFam fams
  | [], fams, g, f, hg, hs, hp => by
    have : f = [] := List.sublist_nil.mp hs
    subst this; rw [List.append_nil]; exact hg
  | c :: r, fams, g, f, hg, hs, hp => by
    rw [List.foldl_cons]
    cases hs with
    | cons _ hs => exact fams_sub r _ g f (List.mem_append_left _ hg) hs hp
    | cons_cons _ hs =>
      rename_i f'
      have e : g ++ c :: f' = (g ++ [c]) ++ f' := by simp
      rw [e] at hp ⊢
      refine fams_sub r _ (g ++ [c]) f' (List.mem_append_right _ (List.mem_map.mpr ⟨g, List.mem_filter.mpr ⟨hg, decide_eq_true (clash_nil.mpr fun one ho => ?_)⟩, rfl⟩)) hs hp
      exact (List.pairwise_append.mp (List.pairwise_append.mp hp).1).2.2 one ho c (.head _)

/-! every set of numbers below n is told by a number -/
theorem bits_any : ∀ n, n ≤ 5 → ∀ p : Int → Bool, ∃ num : Nat, num < 2 ^ n ∧ bitsL n (num : Int) = (upTo' n).filter p := by
  have key : ∀ n ∈ List.range 6, ∀ a b c d e : Bool, ∃ num ∈ List.range (2 ^ n), bitsL n (num : Int) = (upTo' n).filter (fun k => if k = 0 then a else if k = 1 then b else if k = 2 then c else if k = 3 then d else e) := by decide +kernel
  intro n hn p
  obtain ⟨num, h1, h2⟩ := key n (List.mem_range.mpr (by omega)) (p 0) (p 1) (p 2) (p 3) (p 4)
  refine ⟨num, List.mem_range.mp h1, h2.trans ?_⟩
  refine List.filter_congr fun k hk => ?_
  have := mem_upTo'.mp hk
  have : k = 0 ∨ k = 1 ∨ k = 2 ∨ k = 3 ∨ k = 4 := by omega
  rcases this with rfl | rfl | rfl | rfl | rfl <;> simp
theorem disjP_pw {T : List (Int × Int)} : ∀ {F : List (List Int)}, disjP T F = true → F.Pairwise (fun S S' => ∀ e ∈ tcut T S, e ∉ tcut T S')
  | [], _ => .nil
  | S :: r, h => by
    unfold disjP at h
    rw [Bool.and_eq_true] at h
    refine List.pairwise_cons.mpr ⟨fun S' hS' e he => ?_, disjP_pw h.2⟩
    have := List.all_eq_true.mp (List.all_eq_true.mp h.1 S' hS') e he
    simpa using this
end Mine

end

section
open PySem PySem.W PyProof.Rows
set_option Elab.async false
set_option linter.unusedVariables false
set_option maxRecDepth 100000
namespace Mine

def arcSet (arcs : List (Int × Int)) : List (Int × Int) := pick6 (decide ((0, 1) ∈ arcs)) (decide ((0, 2) ∈ arcs)) (decide ((0, 3) ∈ arcs)) (decide ((1, 2) ∈ arcs)) (decide ((1, 3) ∈ arcs)) (decide ((2, 3) ∈ arcs))
theorem mem_arcSet {arcs : List (Int × Int)} (hv : Valid arcs) (e : Int × Int) : e ∈ arcSet arcs ↔ e ∈ arcs := by
  have key : ∀ x ∈ arcs, x = (0, 1) ∨ x = (0, 2) ∨ x = (0, 3) ∨ x = (1, 2) ∨ x = (1, 3) ∨ x = (2, 3) := fun x hx => by
    obtain ⟨a, b⟩ := x
    have := hv _ hx
    simp only at this
    have h1 : a = 0 ∨ a = 1 ∨ a = 2 := by omega
    have h2 : b = 1 ∨ b = 2 ∨ b = 3 := by omega
    rcases h1 with rfl | rfl | rfl <;> rcases h2 with rfl | rfl | rfl <;> simp <;> omega
  unfold arcSet pick6
  simp only [List.mem_append, decide_eq_true_eq]
  constructor
  · intro h
    rcases h with ((((h | h) | h) | h) | h) | h <;> split at h <;> first | (rw [List.mem_singleton] at h; rw [h]; assumption) | cases h
  · intro h
    rcases key e h with rfl | rfl | rfl | rfl | rfl | rfl <;> simp [h]

theorem mem_tcut {T : List (Int × Int)} {S : List Int} {e : Int × Int} : e ∈ tcut T S ↔ e ∈ T ∧ e.1 ∈ S ∧ e.2 ∉ S := by
  unfold tcut; rw [List.mem_filter]; simp
theorem tclosed_iff {arcs : List (Int × Int)} (hv : Valid arcs) {S : List Int} : tclosed (arcSet arcs) S = true ↔ ClosedP arcs S := by
  unfold tclosed ClosedP
  rw [List.all_eq_true]
  constructor
  · intro h a ha h2
    have := h a ((mem_arcSet hv a).mpr ha)
    simpa [h2] using this
  · intro h a ha
    have := h a ((mem_arcSet hv a).mp ha)
    by_cases h2 : a.2 ∈ S
    · simp [h2, this h2]
    · simp [h2]

/-- k is the first place of its arc -/
def firstAt (arcs : List (Int × Int)) (k : Int) : Bool := (upTo' k.toNat).all fun j => !decide (arcs.getD j.toNat (0, 0) = arcs.getD k.toNat (0, 0))
theorem first_exists {arcs : List (Int × Int)} {e : Int × Int} (h : e ∈ arcs) : ∃ k : Nat, k < arcs.length ∧ arcs.getD k (0, 0) = e ∧ firstAt arcs (k : Int) = true := by
  induction arcs with
  | nil => cases h
  | cons a r ih =>
    by_cases ha : a = e
    · exact ⟨0, by simp, by simp [ha], by simp [firstAt, upTo']⟩
    · obtain ⟨k, h1, h2, h3⟩ := ih ((List.mem_cons.mp h).resolve_left (Ne.symm ha))
      refine ⟨k + 1, by simp; omega, by simpa using h2, ?_⟩
      unfold firstAt at h3 ⊢
      rw [List.all_eq_true] at h3 ⊢
      intro j hj
      have hj' := mem_upTo'.mp hj
      have hk1 : (((k + 1 : Nat) : Int)).toNat = k + 1 := by omega
      rw [hk1] at hj' ⊢
      have e2 : (a :: r).getD (k + 1) (0, 0) = e := by simpa using h2
      rw [e2]
      by_cases hj0 : j = 0
      · subst hj0; simp [ha]
      · have := h3 (j - 1) (mem_upTo'.mpr (by rw [Int.toNat_natCast]; omega))
        rw [Int.toNat_natCast, h2] at this
        have e3 : j.toNat = (j - 1).toNat + 1 := by omega
        rw [e3]; simpa using this
theorem first_inj {arcs : List (Int × Int)} {k k' : Int} (h0 : 0 ≤ k) (h0' : 0 ≤ k') (h : firstAt arcs k = true) (h' : firstAt arcs k' = true) (e : arcs.getD k.toNat (0, 0) = arcs.getD k'.toNat (0, 0)) : k = k' := by
  unfold firstAt at h h'
  rw [List.all_eq_true] at h h'
  rcases Int.lt_trichotomy k k' with q | q | q
  · have := h' k (mem_upTo'.mpr (by omega)); rw [decide_eq_true e] at this; cases this
  · exact q
  · have := h k' (mem_upTo'.mpr (by omega)); rw [decide_eq_true e.symm] at this; cases this

theorem ly {arcs : List (Int × Int)} (hv : Valid arcs) (hlen : arcs.length ≤ 5) {sets : List (List Int)} (hs : ∀ S, S ∈ sets ↔ S ∈ closedRaw arcs 16) :
    (∃ num : Nat, ∃ f ∈ famsOf (cutsOf arcs sets), num < 2 ^ arcs.length ∧ missed (cutsOf arcs sets) (bitsL arcs.length num) = [] ∧ (bitsL arcs.length num).length = f.length) := by
  have hok := cert_all (decide ((0, 1) ∈ arcs)) (decide ((0, 2) ∈ arcs)) (decide ((0, 3) ∈ arcs)) (decide ((1, 2) ∈ arcs)) (decide ((1, 3) ∈ arcs)) (decide ((2, 3) ∈ arcs))
  generalize (certOf [decide ((0, 1) ∈ arcs), decide ((0, 2) ∈ arcs), decide ((0, 3) ∈ arcs), decide ((1, 2) ∈ arcs), decide ((1, 3) ∈ arcs), decide ((2, 3) ∈ arcs)]).1 = J at hok
  generalize (certOf [decide ((0, 1) ∈ arcs), decide ((0, 2) ∈ arcs), decide ((0, 3) ∈ arcs), decide ((1, 2) ∈ arcs), decide ((1, 3) ∈ arcs), decide ((2, 3) ∈ arcs)]).2 = F at hok
  change okB (arcSet arcs) J F = true at hok
  unfold okB at hok
  simp only [Bool.and_eq_true, decide_eq_true_eq] at hok
  obtain ⟨⟨⟨⟨⟨hJ, hJn⟩, hhit⟩, hF⟩, hdj⟩, hJF⟩ := hok
  have hJ' : ∀ e ∈ J, e ∈ arcs := fun e he => (mem_arcSet hv e).mp (by simpa using List.all_eq_true.mp hJ e he)
  have hF' : ∀ S ∈ F, S ∈ closedRaw arcs 16 ∧ tcut (arcSet arcs) S ≠ [] := fun S hS => by
    have := List.all_eq_true.mp hF S hS
    simp only [Bool.and_eq_true, decide_eq_true_eq, Bool.not_eq_true', List.isEmpty_eq_false_iff] at this
    exact ⟨mem_closedRaw.mpr ⟨this.1.1, (tclosed_iff hv).mp this.1.2⟩, this.2⟩
  -- an arc's first place
  have place : ∀ e, e ∈ arcs → ∃ k : Int, (0 ≤ k ∧ k < arcs.length) ∧ arcs.getD k.toNat (0, 0) = e ∧ firstAt arcs k = true := fun e he => by
    obtain ⟨k, h1, h2, h3⟩ := first_exists he
    exact ⟨k, ⟨by omega, by omega⟩, by rw [Int.toNat_natCast]; exact h2, h3⟩
  have at_mem : ∀ k : Int, 0 ≤ k ∧ k < arcs.length → arcs.getD k.toNat (0, 0) ∈ arcs := fun k hk => by
    have : k.toNat < arcs.length := by omega
    simp [this]
  have cut_iff : ∀ S k, k ∈ cutOf arcs S ↔ (0 ≤ k ∧ k < arcs.length) ∧ arcs.getD k.toNat (0, 0) ∈ tcut (arcSet arcs) S := fun S k => by
    rw [mem_cutOf, mem_tcut]
    constructor
    · rintro ⟨a, b⟩; exact ⟨a, (mem_arcSet hv _).mpr (at_mem k a), b⟩
    · rintro ⟨a, _, b⟩; exact ⟨a, b⟩
  have cut_ne : ∀ S, cutOf arcs S ≠ [] ↔ tcut (arcSet arcs) S ≠ [] := fun S => by
    constructor
    · intro h
      obtain ⟨k, hk⟩ := List.exists_mem_of_ne_nil _ h
      exact List.ne_nil_of_mem ((cut_iff S k).mp hk).2
    · intro h
      obtain ⟨e, he⟩ := List.exists_mem_of_ne_nil _ h
      obtain ⟨k, h1, h2, _⟩ := place e ((mem_arcSet hv e).mp (mem_tcut.mp he).1)
      exact List.ne_nil_of_mem ((cut_iff S k).mpr ⟨h1, by rw [h2]; exact he⟩)
  -- the hitting set
  obtain ⟨num, hnum, hbits⟩ := bits_any arcs.length hlen fun k => firstAt arcs k && decide (arcs.getD k.toNat (0, 0) ∈ J)
  have inI : ∀ k, k ∈ bitsL arcs.length num ↔ (0 ≤ k ∧ k < arcs.length) ∧ firstAt arcs k = true ∧ arcs.getD k.toNat (0, 0) ∈ J := fun k => by
    rw [hbits, List.mem_filter, mem_upTo', Bool.and_eq_true, decide_eq_true_eq]
  have ndI : (bitsL arcs.length num).Nodup := by
    rw [hbits]; exact ((inc_upTo' _).filter _).imp fun h => Int.ne_of_lt h
  have lenI : (bitsL arcs.length num).length = J.length := by
    have ndm : ((bitsL arcs.length num).map fun k => arcs.getD k.toNat (0, 0)).Nodup := by
      rw [List.nodup_iff_pairwise_ne, List.pairwise_map]
      have := List.nodup_iff_pairwise_ne.mp ndI
      refine List.Pairwise.imp_of_mem (fun {a b} ha hb hab e => hab ?_) this
      have h1 := (inI a).mp ha
      have h2 := (inI b).mp hb
      exact first_inj h1.1.1 h2.1.1 h1.2.1 h2.2.1 e
    have h1 := nodup_len ndm (ys := J) fun e he => by
      obtain ⟨k, hk, rfl⟩ := List.mem_map.mp he
      exact ((inI k).mp hk).2.2
    have h2 := nodup_len hJn (ys := (bitsL arcs.length num).map fun k => arcs.getD k.toNat (0, 0)) fun e he => by
      obtain ⟨k, a, b, c⟩ := place e (hJ' e he)
      exact List.mem_map.mpr ⟨k, (inI k).mpr ⟨a, c, by rw [b]; exact he⟩, b⟩
    rw [List.length_map] at h1 h2
    omega
  -- the family
  have hcm : ∀ c, c ∈ cutsOf arcs sets ↔ ∃ S ∈ sets, cutOf arcs S = c ∧ c ≠ [] := fun c => by
    unfold cutsOf; rw [cutsOf_mem]; simp
  have hcn : (cutsOf arcs sets).Nodup := cutsOf_nd arcs sets [] List.nodup_nil
  have hFpw := disjP_pw hdj
  have imgs : ∀ S ∈ F, cutOf arcs S ∈ cutsOf arcs sets := fun S hS => (hcm _).mpr ⟨S, (hs S).mpr (hF' S hS).1, rfl, (cut_ne S).mpr (hF' S hS).2⟩
  have pwI : (F.map (cutOf arcs)).Pairwise (fun a b => ∀ x ∈ a, x ∉ b) := by
    rw [List.pairwise_map]
    exact hFpw.imp fun {a b} h (x : Int) (hx : x ∈ cutOf arcs a) (hx' : x ∈ cutOf arcs b) => h _ ((cut_iff _ _).mp hx).2 ((cut_iff _ _).mp hx').2
  have neI : ∀ c ∈ F.map (cutOf arcs), c ≠ [] := fun c hc => by
    obtain ⟨S, hS, rfl⟩ := List.mem_map.mp hc
    exact (cut_ne S).mpr (hF' S hS).2
  have ndF : (F.map (cutOf arcs)).Nodup := by
    rw [List.nodup_iff_pairwise_ne]
    refine List.Pairwise.imp_of_mem (fun {a b} ha hb hab e => ?_) pwI
    subst e
    obtain ⟨x, hx⟩ := List.exists_mem_of_ne_nil _ (neI a ha)
    exact hab x hx hx
  have memf : ∀ c, c ∈ (cutsOf arcs sets).filter (fun c => decide (c ∈ F.map (cutOf arcs))) ↔ c ∈ F.map (cutOf arcs) := fun c => by
    rw [List.mem_filter, decide_eq_true_eq]
    refine ⟨fun h => h.2, fun h => ⟨?_, h⟩⟩
    obtain ⟨S, hS, rfl⟩ := List.mem_map.mp h
    exact imgs S hS
  have lenf : ((cutsOf arcs sets).filter (fun c => decide (c ∈ F.map (cutOf arcs)))).length = F.length := by
    have h1 := nodup_len (hcn.filter (fun c => decide (c ∈ F.map (cutOf arcs)))) (ys := F.map (cutOf arcs)) fun c hc => (memf c).mp hc
    have h2 := nodup_len ndF (ys := (cutsOf arcs sets).filter (fun c => decide (c ∈ F.map (cutOf arcs)))) fun c hc => (memf c).mpr hc
    rw [List.length_map] at h1 h2
    omega
  have two : ∀ a ∈ F.map (cutOf arcs), ∀ b ∈ F.map (cutOf arcs), a ≠ b → ∀ x ∈ a, x ∉ b := by
    have sym : ∀ (l : List (List Int)), l.Pairwise (fun a b => ∀ x ∈ a, x ∉ b) → ∀ a ∈ l, ∀ b ∈ l, a ≠ b → ∀ x ∈ a, x ∉ b := by
      intro l hl
      induction l with
      | nil => intro a ha; cases ha
      | cons c r ih =>
        have hl' := List.pairwise_cons.mp hl
        intro a ha b hb hab x hx hx'
        rcases List.mem_cons.mp ha with e1 | ha1 <;> rcases List.mem_cons.mp hb with e2 | hb1
        · exact hab (e1.trans e2.symm)
        · subst e1; exact hl'.1 b hb1 x hx hx'
        · subst e2; exact hl'.1 a ha1 x hx' hx
        · exact ih hl'.2 a ha1 b hb1 hab x hx hx'
    exact sym _ pwI
  refine ⟨num, (cutsOf arcs sets).filter (fun c => decide (c ∈ F.map (cutOf arcs))), ?_, hnum, ?_, by rw [lenI, lenf]; exact hJF⟩
  · have := fams_sub (cutsOf arcs sets) [[]] [] _ (.head _) (List.filter_sublist (p := fun c => decide (c ∈ F.map (cutOf arcs)))) (by
      rw [List.nil_append]
      have := List.nodup_iff_pairwise_ne.mp (hcn.filter (fun c => decide (c ∈ F.map (cutOf arcs))))
      exact List.Pairwise.imp_of_mem (fun {a b} ha hb hab => two a ((memf a).mp ha) b ((memf b).mp hb) hab) this)
    simpa [famsOf] using this
  · unfold missed
    rw [List.filter_eq_nil_iff]
    intro c hc hcc
    have hcc' := of_decide_eq_true hcc
    obtain ⟨S, hS, rfl, hne⟩ := (hcm c).mp hc
    have hSc := (hs S).mp hS
    have h1 := List.all_eq_true.mp hhit S (mem_closedRaw.mp hSc).1
    have h2 := (tclosed_iff hv).mpr (mem_closedRaw.mp hSc).2
    have h3 := (cut_ne S).mp hne
    simp only [h2, Bool.not_true, Bool.false_or, Bool.or_eq_true, List.isEmpty_iff, h3, false_or] at h1
    obtain ⟨e, he, he2⟩ := List.any_eq_true.mp h1
    have he3 := of_decide_eq_true he2
    obtain ⟨k, a, b, c⟩ := place e (hJ' e he)
    have : k ∈ (cutOf arcs S).filter fun k => decide (k ∈ bitsL arcs.length num) := List.mem_filter.mpr ⟨(cut_iff S k).mpr ⟨a, by rw [b]; exact he3⟩, decide_eq_true ((inI k).mpr ⟨a, c, by rw [b]; exact he⟩)⟩
    rw [hcc'] at this; cases this

theorem mem_sizesOf {n : Nat} {cuts : List (List Int)} {k : Nat} {M : Int} : M ∈ sizesOf n cuts k ↔ ∃ num : Nat, num < k ∧ missed cuts (bitsL n num) = [] ∧ ((bitsL n num).length : Int) = M := by
  unfold sizesOf
  rw [List.mem_map]
  constructor
  · rintro ⟨x, hx, rfl⟩
    obtain ⟨h1, h2⟩ := List.mem_filter.mp hx
    have h3 := mem_upTo'.mp h1
    obtain ⟨num, rfl⟩ := Int.eq_ofNat_of_zero_le h3.1
    exact ⟨num, by omega, of_decide_eq_true h2, rfl⟩
  · rintro ⟨num, h1, h2, rfl⟩
    exact ⟨num, List.mem_filter.mpr ⟨mem_upTo'.mpr (by omega), decide_eq_true h2⟩, rfl⟩

theorem ly_eq {arcs : List (Int × Int)} (hv : Valid arcs) (hlen : arcs.length ≤ 5) {sets : List (List Int)} (hs : ∀ S, S ∈ sets ↔ S ∈ closedRaw arcs 16) {M M' : Int}
    (h1 : M ∈ sizesOf arcs.length (cutsOf arcs sets) (2 ^ arcs.length)) (h2 : ∀ a ∈ sizesOf arcs.length (cutsOf arcs sets) (2 ^ arcs.length), M ≤ a)
    (h3 : M' ∈ (famsOf (cutsOf arcs sets)).map (fun f => (f.length : Int))) (h4 : ∀ a ∈ (famsOf (cutsOf arcs sets)).map (fun f => (f.length : Int)), a ≤ M') : M = M' := by
  obtain ⟨num, f, hf, hn, hm, he⟩ := ly hv hlen hs
  have a1 := h2 _ (mem_sizesOf.mpr ⟨num, hn, hm, rfl⟩)
  have a2 := h4 _ (List.mem_map.mpr ⟨f, hf, rfl⟩)
  obtain ⟨num', hn', hm', e'⟩ := mem_sizesOf.mp h1
  obtain ⟨f', hf', ef⟩ := List.mem_map.mp h3
  have hcm : ∀ c, c ∈ cutsOf arcs sets → c ≠ [] := fun c hc => by
    unfold cutsOf at hc; rw [cutsOf_mem] at hc
    rcases hc with hc | ⟨_, _, _, h⟩
    · cases hc
    · exact h
  have hd := dual f' (bitsL arcs.length num') (((inc_upTo' _).filter _).imp fun h => Int.ne_of_lt h) (fams_pw _ [[]] (fun g hg => by rw [List.mem_singleton.mp hg]; exact .nil) f' hf') fun c hc => by
    have hc' := fams_el (cutsOf arcs sets) [[]] (· ∈ cutsOf arcs sets) (fun g hg x hx => by rw [List.mem_singleton.mp hg] at hx; cases hx) (fun _ h => h) f' hf' c hc
    unfold missed at hm'
    have := List.filter_eq_nil_iff.mp hm' c hc'
    rw [decide_eq_true_eq] at this
    obtain ⟨k, hk⟩ := List.exists_mem_of_ne_nil _ this
    obtain ⟨q1, q2⟩ := List.mem_filter.mp hk
    exact ⟨k, q1, of_decide_eq_true q2⟩
  have ef' : (f'.length : Int) = M' := ef
  omega
theorem sizes_ne {arcs : List (Int × Int)} (hv : Valid arcs) (hlen : arcs.length ≤ 5) {sets : List (List Int)} (hs : ∀ S, S ∈ sets ↔ S ∈ closedRaw arcs 16) : 0 < (sizesOf arcs.length (cutsOf arcs sets) (2 ^ arcs.length)).length := by
  obtain ⟨num, f, hf, hn, hm, he⟩ := ly hv hlen hs
  exact List.length_pos_of_mem (mem_sizesOf.mpr ⟨num, hn, hm, rfl⟩)
theorem cuts_inc {arcs : List (Int × Int)} {sets : List (List Int)} : ∀ c ∈ cutsOf arcs sets, c.Pairwise (· < ·) ∧ c.length ≤ arcs.length := fun c hc => by
  unfold cutsOf at hc; rw [cutsOf_mem] at hc
  rcases hc with hc | ⟨S, _, rfl, h⟩
  · cases hc
  · refine ⟨(inc_upTo' _).filter _, ?_⟩
    unfold cutOf
    refine Nat.le_trans (List.length_filter_le _ _) ?_
    simp [upTo']
end Mine

end

section
open PySem PySem.W PyProof.Rows PySem.SeqAt
set_option Elab.async false
set_option linter.unusedVariables false
set_option maxRecDepth 100000
set_option maxHeartbeats 8000000
namespace Mine
theorem fs0 {env : Env} {X : Led} {L : Addr} {m : Str → Option Value} (hm : (L, NsP m) ∈ X) (hk : env.scope.kind = .function) (hf : env.frame = some L) : FS (callerA.deeper env) X :=
  FS.deeper (X := []) ⟨[], rfl, fun e he => by cases he⟩ (fun p hp => by cases hp) hm hk hf
theorem room0 (env : Env) : Rm (callerA.deeper env) 12 400 := ⟨rfl, by show callerA.depth + 1 + 12 < recursionLimit; decide, by show callerA.units + 3 + 400 < cLine; decide⟩

/-- the frame as the claim's end asks it -/
theorem fr_back {s₀ s' : Shared} {B h₁ : Heap} {L : Addr} {m : Str → Option Value} (hB : Sub h₁ B) (hL : h₁.objs.size ≤ L) (W' : W s₀ B [(L, NsP m)] s') : Fr h₁ L s'.heap m :=
  ⟨ns_at W'.st (List.Mem.head _), hB.trans W'.st.sub, hL⟩
theorem law_wp {M : Model} {A : Around} {t : Sem Flow} {Q : Flow → Shared → Prop} {E : Value → Shared → Prop} {s : Shared} {h₀ : Heap} {L : Addr} {m : Str → Option Value} (F : Fr h₀ L s.heap m) (h : W s h₀ [(L, NsP m)] s → wpAny M A t Q E s) : wpAny M A t Q E s :=
  h ⟨Sm.refl _, F.keep, (fun p hp => by
    rw [List.mem_singleton.mp hp]
    refine ⟨nsP_of F.ns, ?_⟩
    cases e : h₀.get? L with
    | none => rfl
    | some o => exact absurd (Heap.lt_size e) (Nat.not_lt.mpr F.above)), by simp⟩
theorem sm_gens {s s' : Shared} (h : Sm s s') : s'.gens = s.gens := by obtain ⟨_, _, rfl⟩ := h; rfl
theorem sm_os {s s' : Shared} (h : Sm s s') : s'.os = s.os := by obtain ⟨_, _, rfl⟩ := h; rfl
theorem main_of (hsld : ∀ w, SldSpec w) (hwait : ∀ w, WaitSpec w) : PySem.Challenge.rw_oc0184_01.Holds := hd rfl rfl rfl (by
  w_strict (
    k_go0
    rename (hd.heap_39 _).In _ => KX
    rename Top _ _ _ _ _ _ => T
    rename Fr _ _ _ _ => F
    rename Heap.IsList _ _ _ => hL
    rename IntsAre _ _ => hI
    rename ¬ _ < _ => hc
    rename _ = #[] => hgens
    have hG := G.mk KX T.g T.b T.nolimit (topRead_of T).builtins
    have hlen63 : _ ≤ 63 := Int.ofNat_le.mp (Int.not_lt.mp hc)
    refine law_wp F fun W0 => ?_
    have R1 := fun env => room0 env
    -- arcs = _law_arcs(script)
    refine wpAny_execs_cons (wpAny_Assign_Name (call_g (K := KF _) (f := 153) hG W0 (by with_unfolding_all rfl) (by with_unfolding_all rfl) ?_))
    refine Calls.spliced_cons (ev_local W0 (by k_mem) (by with_unfolding_all rfl) (Calls.spliced_nil ⟨⟨_, _, Sub.refl _, W0⟩, ?_⟩))
    refine arcs_call hG W0 ((R1 _).le (by decide) (by decide)) hL hI hlen63 fun B1 r1 arcs s2 hs1 W1 ha hv hl5 => ?_
    refine st_local [] W1 fun s3 W2 => ?_
    -- sets = _law_sets(arcs)
    have hG1 := hG.mono hs1
    refine wpAny_execs_cons (wpAny_Assign_Name (call_g (K := KF _) (f := 165) hG1 W2 (by with_unfolding_all rfl) (by with_unfolding_all rfl) ?_))
    refine Calls.spliced_cons (ev_local W2 (by k_mem) (up_self _ _ _) (Calls.spliced_nil ⟨⟨_, _, Sub.refl _, W2⟩, ?_⟩))
    refine sets_call (hwait _) hG1 W2 ((R1 _).le (by decide) (by decide)) (fs0 (List.Mem.head _) rfl rfl) ha hv hl5 fun B2 r2 ys s4 hs2 W3 hys hmem hsrt => ?_
    refine st_local [] W3 fun s5 W4 => ?_
    have hG2 := hG1.mono hs2
    have ha2 := mono_list (mono_pair mono_int mono_int) _ _ _ _ hs2 ha
    have ysl : ys.length ≤ 16 := Nat.le_trans (nodup_len (xs := ys) (ys := closedRaw arcs 16) (hsrt.imp fun {a b} hab e => by subst e; rw [lex_irr] at hab; cases hab) fun x hx => (hmem x).mp hx) (closedRaw_len arcs 16)
    -- if sets != _law_closed(arcs)
    refine wpAny_execs_cons (wpAny_If (wpAny_isTrue_Compare1 (ev_local W4 (by k_mem) (up_self _ _ _) (call_g (K := KF _) (f := 170) hG2 W4 (by with_unfolding_all rfl) (by with_unfolding_all rfl) ?_)) (by with_unfolding_all rfl)))
    refine Calls.spliced_cons (ev_local W4 (by k_mem) ((up_ne (by decide)).trans (up_self _ _ _)) (Calls.spliced_nil ⟨⟨_, _, Sub.refl _, W4⟩, ?_⟩))
    refine closed_call hG2 W4 ((R1 _).le (by decide) (by decide)) ha2 hl5 (two_closedRaw hv) (nodup_closedRaw arcs) fun B3 r3 zs s6 hs3 W5 hzs hperm hsrt2 => ?_
    have hyz : ys = zs := eq_of_pairwise (r := fun x y => lexLt x y = true) (fun x hx => by rw [lex_irr] at hx; cases hx) (fun x y z => lex_tr x y z) hsrt hsrt2 fun x => by rw [hmem, hperm.mem_iff]
    refine ne_ll W5 (mono_list (mono_list mono_int) _ _ _ _ hs3 hys) hzs (by have := (R1 default).u; exact Nat.lt_of_le_of_lt (by show callerA.units + 3 + _ ≤ callerA.units + 3 + 400; omega) this) ?_
    rw [hyz, decide_eq_true rfl]
    refine wpAny_truthy_bool ?_
    rw [if_neg (by decide)]
    refine wpAny_execs_nil ?_
    -- cuts = _law_cuts(arcs, sets)
    have hG3 := hG2.mono hs3
    have ha3 := mono_list (mono_pair mono_int mono_int) _ _ _ _ hs3 ha2
    have hys3 := mono_list (mono_list mono_int) _ _ _ _ hs3 hys
    refine wpAny_execs_cons (wpAny_Assign_Name (call_g (K := KF _) (f := 175) hG3 W5 (by with_unfolding_all rfl) (by with_unfolding_all rfl) ?_))
    refine Calls.spliced_cons (ev_local W5 (by k_mem) ((up_ne (by decide)).trans (up_self _ _ _)) (Calls.spliced_cons (ev_local W5 (by k_mem) (up_self _ _ _) (Calls.spliced_nil ⟨⟨_, _, Sub.refl _, W5⟩, ?_⟩))))
    refine cuts_call hG3 W5 ((R1 _).le (by decide) (by decide)) ha3 hys3 hl5 (by omega) fun B4 r4 s7 hs4 W6 hcu => ?_
    refine st_local [] W6 fun s8 W7 => ?_
    have hG4 := hG3.mono hs4
    have ha4 := mono_list (mono_pair mono_int mono_int) _ _ _ _ hs4 ha3
    have cl := cutsOf_len arcs ys []
    have cul : (cutsOf arcs ys).length ≤ 16 := by unfold cutsOf; simp only [List.length_nil] at cl; omega
    -- return _law_fewest(arcs, cuts) == _law_most(cuts)
    refine wpAny_execs_cons (wpAny_Return_some (wpAny_Compare1 (call_g (K := KF _) (f := 180) hG4 W7 (by with_unfolding_all rfl) (by with_unfolding_all rfl) ?_) (by with_unfolding_all rfl)))
    refine Calls.spliced_cons (ev_local W7 (by k_mem) ((up_ne (by decide)).trans ((up_ne (by decide)).trans (up_self _ _ _))) (Calls.spliced_cons (ev_local W7 (by k_mem) (up_self _ _ _) (Calls.spliced_nil ⟨⟨_, _, Sub.refl _, W7⟩, ?_⟩))))
    refine fewest_call hG4 W7 ((R1 _).le (by decide) (by decide)) ha4 hcu hl5 (by omega) (fun c hc => by have := (cuts_inc c hc).2; omega) (sizes_ne hv hl5 hmem) fun M t s9 B5 hs5 W8 hM hMle => ?_
    have hG5 := hG4.mono hs5
    have hcu5 := mono_list (mono_list mono_int) _ _ _ _ hs5 hcu
    refine call_g (K := KF _) (f := 185) hG5 W8 (by with_unfolding_all rfl) (by with_unfolding_all rfl) ?_
    refine Calls.spliced_cons (ev_local W8 (by k_mem) (up_self _ _ _) (Calls.spliced_nil ⟨⟨_, _, Sub.refl _, W8⟩, ?_⟩))
    refine most_call (hsld _) hG5 W8 ((R1 _).le (by decide) (by decide)) (fs0 (List.Mem.head _) rfl rfl) hcu5 cul (fun c hc => (cuts_inc c hc).1) (fun c hc => by have := (cuts_inc c hc).2; omega) fun M' t' s10 B6 hs6 W9 hM' hMle' => ?_
    have hMM := ly_eq hv hl5 hmem hM hMle hM' hMle'
    subst hMM
    refine cmp_ofEq (wpAny_eq_int ?_)
    rw [beq_self_eq_true]
    have hsB := (((((hs1.trans hs2).trans hs3).trans hs4).trans hs5).trans hs6)
    refine goodW_bool (fr_back hsB (Nat.le_refl _) W9) ((sm_gens W9.sm).trans hgens) (raisesW_false (by wrow_none_raised)) ?_ (sm_os W9.sm)
    first | (with_unfolding_all rfl) | exact postW_of rfl (w_eq_bool (w_res rfl) w_lit) rfl | exact postW_of rfl ((w_eq_bool (w_res rfl) w_lit).trans rfl) rfl))
end Mine

end

section
open PySem PySem.W PyProof.Rows PySem.SeqAt
set_option Elab.async false
set_option linter.unusedVariables false
namespace Mine

theorem funFrames_of {B h : Heap} {X : Led} (H : St B X h) : ∀ {l : List Env}, FrOk l X → h.FunFrames B l
  | [], _ => trivial
  | env :: r, hk => by
    obtain ⟨a, L, m, b, c⟩ := hk env (.head _)
    obtain ⟨⟨o, ho, es, ep, hd, _⟩, hn⟩ := H.xs _ c
    exact ⟨a, ⟨L, o, b, hn, ho, fun vs q => by rw [hd] at q; cases q⟩, funFrames_of H fun env he => hk env (.tail _ he)⟩
theorem St.slots {B h h' : Heap} {X : Led} {l : List Env} (H : St B X h) (hk : FrOk l X) (hs : Heap.SlotsOnly (l.filterMap (·.frame)) h h') : St B X h' := by
  have key : ∀ a, a ∈ l.filterMap (·.frame) → ∃ m, (a, NsP m) ∈ X := fun a ha => by
    obtain ⟨env, he, hf⟩ := List.mem_filterMap.mp ha
    obtain ⟨_, L, m, b, c⟩ := hk env he
    rw [b] at hf; cases hf; exact ⟨m, c⟩
  refine ⟨fun b o e => (hs.2.1 b fun hm => ?_).trans (H.sub b o e), fun q hq => ?_, H.nd⟩
  · obtain ⟨m, hm⟩ := key b hm
    have := (H.xs _ hm).2
    rw [e] at this; cases this
  · obtain ⟨⟨o, eo, p⟩, n⟩ := H.xs q hq
    refine ⟨?_, n⟩
    by_cases hm : q.1 ∈ l.filterMap (·.frame)
    · obtain ⟨m, hm⟩ := key q.1 hm
      have e := H.same hq hm rfl
      obtain ⟨sl, e2⟩ := hs.2.2 q.1 o eo
      refine ⟨_, e2, ?_⟩
      rw [e] at p ⊢
      exact p
    · exact ⟨o, (hs.2.1 _ hm).trans eo, p⟩

/-- an exception object: its class, its traceback, its context -/
def ExP (cls : String) (tb cx : Value) : As := fun o => o.cls = .type cls ∧ ∃ vs, o.data = .fields vs ∧ vs[1]? = some tb ∧ vs[2]? = some cx
/-- a traceback entry: where it flies -/
def TbP (fl : Value) : As := fun o => ∃ ts, o.data = .fields ts ∧ ts[3]? = some fl

section
variable {M : Model} {A : Around} {E : Value → Shared → Prop} {s₀ s : Shared} {B : Heap} {X pre post : Led} {env : Env} {e T L : Addr} {cls : String} {cx fl : Value}

theorem set_field {a : Addr} {P P' : As} {i : Nat} {x : Value} {Q : Unit → Shared → Prop} (pre : Led) (hW : W s₀ B (pre ++ (a, P) :: post) s) (hP : ∀ o, P o → ∃ vs, o.data = .fields vs ∧ i < vs.size ∧ ∀ o', o'.cls = o.cls → o'.data = .fields (vs.setIfInBounds i x) → P' o')
    (h : ∀ s', W s₀ B (pre ++ (a, P') :: post) s' → Q () s') : wpAny M A (setField (.ref a) i x) Q E s := by
  obtain ⟨o, ho, p⟩ := hW.st.at (a := a) (P := P) (by simp)
  obtain ⟨vs, hd, hi, k⟩ := hP o p
  refine wpAny_setField ho hd hi (h _ (hW.to (tk := s.toks) (hW.st.upd pre (Heap.SameBut.update ..) ?_)))
  obtain ⟨c, d, dt, sl⟩ := o
  cases hd
  exact ⟨_, Heap.get?_update_self _ ho rfl, k _ rfl rfl⟩

/-- noteFrame, the exception is new -/
theorem note_fresh {outer : List Env} {Q : Unit → Shared → Prop} (hfr : A.frames = some (env :: outer)) (hk : FrOk (env :: outer) X) (hf : env.frame = some L) (hW : W s₀ B ((e, ExP cls .none cx) :: X) s)
    (h : ∀ T s', W s₀ B ((T, TbP (rawInt L)) :: (e, ExP cls (.ref T) cx) :: X) s' → Q () s') : wpAny M A (noteFrame (.ref e) env) Q E s := by
  obtain ⟨oe, he, hc, vs, hd, h1, h2⟩ := hW.st.at (List.Mem.head _)
  have hk' : FrOk (env :: outer) ((e, ExP cls .none cx) :: X) := hk.sub fun p hp => .tail _ hp
  unfold noteFrame
  simp only [hf]
  refine wpAny_bind (wpAny_field he hd h1 ?_)
  rw [if_neg (by decide)]
  refine wpAny_bind (wpAny_frameOf_fun hfr (funFrames_of hW.st hk') hf fun h1' hs1 => ?_)
  have W1 := hW.to (tk := s.toks) (hW.st.slots hk' hs1)
  refine wpAny_bind (wpAny_entryPlaceOf fun pl hpl => ?_)
  unfold EntryCells.newEntry newFields
  refine wpAny_bind (wpAny_newObj_type ?_ (hpl.sizeOk5 _ _ _ _ _))
  have W2 := W1.to (tk := s.toks) (W1.st.new (o := { cls := .type "traceback", data := .fields ([Value.none, .ref L, .none, rawInt L, .none] ++ (if pl.isEmpty then List.replicate 6 Value.none else pl)).toArray }) rfl (P := TbP (rawInt L)) ⟨_, rfl, by simp⟩)
  refine set_field (P := ExP cls .none cx) (P' := ExP cls (.ref h1'.objs.size) cx) [_] W2 (fun o ⟨hc, vs, hd, h1, h2⟩ => ⟨vs, hd, (Array.getElem?_eq_some_iff.mp h1).1, fun o' ec ed => ⟨ec.trans hc, _, ed, ?_, ?_⟩⟩) fun s' W' => h _ s' W'
  · have := (Array.getElem?_eq_some_iff.mp h1).1
    rw [Array.getElem?_setIfInBounds_self_of_lt this]
  · rw [Array.getElem?_setIfInBounds_ne (by decide)]; exact h2
/-- noteFrame, in flight here already -/
theorem note_again {Q : Unit → Shared → Prop} (hf : env.frame = some L) (hW : W s₀ B X s) (h1 : (T, TbP (rawInt L)) ∈ X) (h2 : (e, ExP cls (.ref T) cx) ∈ X) (h : Q () s) : wpAny M A (noteFrame (.ref e) env) Q E s := by
  obtain ⟨oT, hT, ts, hdT, h3⟩ := hW.st.at h1
  obtain ⟨oe, he, hc, vs, hd, h1, h2⟩ := hW.st.at h2
  exact wpAny_noteFrame_inFlight hf he hd h1 hT hdT h3 h
theorem set_flight {fr : Option Addr} {Q : Unit → Shared → Prop} (hW : W s₀ B ((T, TbP fl) :: (e, ExP cls (.ref T) cx) :: X) s)
    (h : ∀ s', W s₀ B ((T, TbP (fr.elim .none fun f => rawInt f)) :: (e, ExP cls (.ref T) cx) :: X) s' → Q () s') : wpAny M A (setFlight (.ref e) fr) Q E s := by
  obtain ⟨oe, he, hc, vs, hd, h1, h2⟩ := hW.st.at (.tail _ (.head _))
  unfold setFlight
  refine wpAny_bind (wpAny_field he hd h1 ?_)
  rw [if_pos (show (Value.ref T != Value.none) = true from by simp)]
  refine set_field (P := TbP fl) (P' := TbP (fr.elim .none fun f => rawInt f)) [] hW (fun o ⟨ts, hd, h3⟩ => ⟨ts, hd, (Array.getElem?_eq_some_iff.mp h3).1, fun o' ec ed => ⟨_, ed, ?_⟩⟩) h
  have := (Array.getElem?_eq_some_iff.mp h3).1
  rw [Array.getElem?_setIfInBounds_self_of_lt this]
theorem came_back (hW : W s₀ B ((T, TbP fl) :: (e, ExP cls (.ref T) cx) :: X) s)
    (h : ∀ s', W s₀ B ((T, TbP (env.frame.elim .none fun f => rawInt f)) :: (e, ExP cls (.ref T) cx) :: X) s' → E (.ref e) s') : cameBackBy M A env E (.ref e) s := by
  obtain ⟨oe, he, hc, vs, hd, h1, h2⟩ := hW.st.at (.tail _ (.head _))
  unfold cameBackBy
  refine wpAny_bind (wpAny_field he hd h1 ?_)
  rw [if_neg (show ¬ (Value.ref T == Value.none) = true from by simp)]
  exact set_flight hW h
theorem pass_on {α : Type} {what : String} {Q : α → Shared → Prop} (hW : W s₀ B ((T, TbP fl) :: (e, ExP cls (.ref T) cx) :: X) s)
    (h : ∀ s', W s₀ B ((T, TbP (env.frame.elim .none fun f => rawInt f)) :: (e, ExP cls (.ref T) cx) :: X) s' → E (.ref e) s') : wpAny M A (PySem.passOn what (.ref e) env : Sem α) Q E s := by
  obtain ⟨oe, he, hc, vs, hd, h1, h2⟩ := hW.st.at (.tail _ (.head _))
  unfold PySem.passOn
  refine wpAny_bind (wpAny_field he hd h1 ?_)
  rw [if_neg (show ¬ (Value.ref T == Value.none) = true from by simp)]
  exact wpAny_bind (set_flight hW fun s' W' => wpAny_throw (h s' W'))
/-- a new exception onto the ledger -/
theorem new_exc {h' : Heap} {tk : Nat} {c : String} (hW : W s₀ B X s) (hx : Heap.NewExc s.heap h' e c) : W s₀ B ((e, ExP c .none .none) :: X) { s with heap := h', toks := tk } := by
  obtain ⟨ob, t, he, hc, hd⟩ := hx.there
  refine hW.to (hW.st.add hx.keeps hx.new ⟨ob, he, hc, _, hd, rfl, rfl⟩ fun hm => ?_)
  obtain ⟨p, hp, ep⟩ := List.mem_map.mp hm
  obtain ⟨o, ho, _⟩ := hW.st.at (a := p.1) (P := p.2) hp
  have ep' : p.1 = e := ep
  rw [ep', hx.new] at ho; cases ho
end
end Mine

end

section
open PySem PySem.W PyProof.Rows PySem.SeqAt
set_option Elab.async false
set_option linter.unusedVariables false
set_option maxRecDepth 100000
namespace Mine
theorem entry_unchain : entryFor table "proto.unchain" = some Builtin.«proto.unchain» := entryFor_of_tree (by kernel_rfl)
theorem plain_unchain : plainId "proto.unchain" = true := by decide +kernel

section
variable {prog : Program} {w : World} {A : Around} {E : Value → Shared → Prop} {s₀ s : Shared} {B : Heap} {X : Led} {e₁ : Addr} {c₁ : String} {tb₁ : Value}

/-- a new exception raised while e₁ is being handled -/
theorem raise_handled {α : Type} {msg : String} {Q : α → Shared → Prop} (hh : A.handled = some (.ref e₁)) (hW : W s₀ B X s) (h1 : (e₁, ExP c₁ tb₁ .none) ∈ X)
    (h : ∀ e s', W s₀ B ((e, ExP "IndexError" .none (.ref e₁)) :: X) s' → E (.ref e) s') : wpAny (model prog w) A (raiseErrorWords "IndexError" msg : Sem α) Q E s := by
  unfold raiseErrorWords
  refine wpAny_bind (wpAny_mkText (wpAny_bind (wpAny_newExc_plain plainExc_IndexError fun h' e hm => ?_ )))
  have W1 : W s₀ B ((e, ExP "IndexError" .none .none) :: X) { s with heap := h', toks := s.toks + 1 } := new_exc (s := { s with toks := s.toks + 1 }) (hW.tok _) hm.newExc
  have hne : e ≠ e₁ := fun q => by
    have nd := W1.st.nd
    simp only [List.map_cons, List.nodup_cons] at nd
    exact nd.1 (q ▸ List.mem_map_of_mem h1)
  unfold raiseNew
  refine wpAny_bind (wpAny_handled ?_)
  rw [hh]
  obtain ⟨o₁, ho₁, hc₁, vs₁, hd₁, ht₁, hx₁⟩ := W1.st.at (List.Mem.tail _ h1)
  have hneb : (Value.ref e₁ != Value.ref e) = true := by simpa using fun q => hne q.symm
  show wpAny _ _ (do
    if Value.ref e₁ != Value.ref e then
      let _ ← holding [Value.ref e] (runValue (.builtin "proto.unchain" ⟨[.ref e, .ref e₁, .ref e₁, .bool false], []⟩))
      updateField e 2 (.ref e₁)
    throw (Value.ref e)) _ _ _
  rw [if_pos hneb]
  refine wpAny_bind (wpAny_holding (wpAny_runValue (codeAny_builtin entry_unchain ?_)))
  rw [Around.under_plainId plain_unchain _]
  show wpAny _ _ (field (.ref e₁) 2 >>= _) _ _ _
  refine wpAny_bind (wpAny_field ho₁ hd₁ hx₁ ?_)
  rw [if_pos (by decide)]
  refine wpAny_pure ?_
  show wpAny _ _ (setField (.ref e) 2 (.ref e₁) >>= fun _ => throw (Value.ref e)) _ _ _
  refine wpAny_bind ?_
  refine set_field (P := ExP "IndexError" .none .none) (P' := ExP "IndexError" .none (.ref e₁)) [] W1 (fun o ⟨hc, vs, hd, h1, h2⟩ => ⟨vs, hd, (Array.getElem?_eq_some_iff.mp h2).1, fun o' ec ed => ⟨ec.trans hc, _, ed, ?_, ?_⟩⟩) fun s' W' => wpAny_throw (h e s' W')
  · rw [Array.getElem?_setIfInBounds_ne (by decide)]; exact h1
  · have := (Array.getElem?_eq_some_iff.mp h2).1
    rw [Array.getElem?_setIfInBounds_self_of_lt this]

/-- an item beyond the end, e₁ being handled or none -/
theorem getItem_outI {l : Addr} {items : Array Value} {k : Int} {t : Tok} {Q : Value → Shared → Prop} (hl : s.heap.IsList l items) (hout : (items.size : Int) ≤ k) (hlo : -(2 ^ 63) ≤ k) (hhi : k < 2 ^ 63)
    (hE : ∀ {α : Type} (Q : α → Shared → Prop) (msg : String), wpAny (model prog w) A.in1 (raiseErrorWords "IndexError" msg : Sem α) Q E s) : wpAny (model prog w) A (getItem (.ref l) (.int k t)) Q E s := by
  obtain ⟨o, ho, hc, ne, hd⟩ := id hl
  unfold getItem
  try with_reducible refine wpAny_holding ?_
  first | refine wpAny_bind (wpAny_pure ?_) | skip
  refine wpAny_bind (wpAny_sequenceKey hl.typeIs (by decide) ?_)
  refine wpAny_bind (wpAny_callSpecial?_slot (name := Str.ofString "__getitem__") hl.typeIs slot_list_getitem
    (wpAny_call_entry slot_list_getitem hl.typeIs entry_list_getitem ?_ (args_list_getitem _ _)))
  show wpAny _ _ (Builtin.List.listSubscript? (.int k t) >>= _) _ _ s
  refine wpAny_bind (wpAny_listSubscript_int (fitsIndex_both hlo hhi) ?_)
  clear hlo hhi
  cases k with
  | ofNat j =>
    have hx : items[j]? = none := Array.getElem?_eq_none (by have : (items.size : Int) ≤ (j : Int) := hout; omega)
    show wpAny _ _ ((seqItemAt l j >>= fun r => pure (r.map (j, ·))) >>= _) _ _ s
    refine wpAny_bind (wpAny_bind (wpAny_seqItemAt ho hd (wpAny_pure ?_)))
    rw [hx]
    exact wpAny_bind (wpAny_rule (wpAny_bind (hE _ _)))
  | negSucc j => exact absurd hout (by have := Int.negSucc_lt_zero j; omega)
theorem getItem_out {l : Addr} {vs : List Value} {k : Nat} {t : Tok} {Q : Value → Shared → Prop} (hW : W s₀ B X s) (hl : s.heap.IsList l vs.toArray) (hk : vs.length ≤ k) (hk2 : k < 2 ^ 60)
    (hh : A.handled = some (.ref e₁)) (h1 : (e₁, ExP c₁ tb₁ .none) ∈ X)
    (h : ∀ e s', W s₀ B ((e, ExP "IndexError" .none (.ref e₁)) :: X) s' → E (.ref e) s') : wpAny (model prog w) A (getItem (.ref l) (.int k t)) Q E s :=
  getItem_outI hl (by simp; omega) (by omega) (by omega) fun _ _ => raise_handled (A := A.in1) hh hW h1 h
/-- the same with nothing being handled -/
theorem getItem_out0 {l : Addr} {vs : List Value} {k : Nat} {t : Tok} {Q : Value → Shared → Prop} (hW : W s₀ B X s) (hl : s.heap.IsList l vs.toArray) (hk : vs.length ≤ k) (hk2 : k < 2 ^ 60)
    (hh : A.handled = none) (h : ∀ e s', W s₀ B ((e, ExP "IndexError" .none .none) :: X) s' → E (.ref e) s') : wpAny (model prog w) A (getItem (.ref l) (.int k t)) Q E s :=
  wpAny_getItem_list_out hh hl (.inr (by simp; omega)) (by omega) (by omega) fun h' tk e hm => h e _ (new_exc (s := { s with toks := tk }) (hW.tok _) hm)
end
end Mine

end

section
open PySem PySem.W PyProof.Rows PySem.SeqAt
set_option Elab.async false
set_option linter.unusedVariables false
set_option maxRecDepth 100000
namespace Mine
/-- where sorted_list_difference stands -/
structure Sld (xs ys : List Int) (i j : Nat) (ms us : List Int) : Prop where
  hi : i ≤ xs.length
  hj : j ≤ ys.length
  lm : ms.length ≤ i
  lu : us.length ≤ j
  or : (ms = xs.take i ∧ us = ys.take j ∧ (∀ x ∈ xs.take i, x ∉ ys) ∧ (∀ y ∈ ys.take j, y ∉ xs)) ∨ (ms.length < i ∧ ∃ x ∈ xs, x ∈ ys)
theorem ge_of_drop {ys : List Int} {j : Nat} {a y : Int} (h : ys.Pairwise (· < ·)) (ha : ys[j]? = some a) (hy : y ∈ ys.drop j) : a ≤ y := by
  obtain ⟨hj, rfl⟩ := List.getElem?_eq_some_iff.mp ha
  rw [List.drop_eq_getElem_cons hj] at hy
  have := h.sublist (List.drop_sublist j ys)
  rw [List.drop_eq_getElem_cons hj] at this
  rcases List.mem_cons.mp hy with e | e
  · omega
  · have := (List.pairwise_cons.mp this).1 y e; omega
theorem mem_td {ys : List Int} {y : Int} (j : Nat) (h : y ∈ ys) : y ∈ ys.take j ∨ y ∈ ys.drop j := by
  rw [← List.take_append_drop j ys] at h; exact List.mem_append.mp h
theorem lt_of_get {xs : List Int} {i : Nat} {e : Int} (h : xs[i]? = some e) : i < xs.length := (List.getElem?_eq_some_iff.mp h).1
theorem Sld.start (xs ys : List Int) : Sld xs ys 0 0 [] [] := ⟨Nat.zero_le _, Nat.zero_le _, Nat.le_refl _, Nat.le_refl _, .inl ⟨by simp, by simp, by simp, by simp⟩⟩
theorem Sld.less {xs ys ms us : List Int} {i j : Nat} {e a : Int} (x : Sld xs ys i j ms us) (hys : ys.Pairwise (· < ·)) (he : xs[i]? = some e) (ha : ys[j]? = some a) (h : e < a) : Sld xs ys (i + 1) j (ms ++ [e]) us := by
  obtain ⟨h1, h2, h3, h4, h5⟩ := x
  have hl := lt_of_get he
  have ht : xs.take (i + 1) = xs.take i ++ [e] := by rw [List.take_add_one, he]; rfl
  refine ⟨by omega, h2, by simp; omega, h4, ?_⟩
  rcases h5 with ⟨a1, a2, a3, a4⟩ | ⟨a1, a2⟩
  · refine .inl ⟨by rw [ht, a1], a2, ?_, a4⟩
    rw [ht]
    intro z hz
    rcases List.mem_append.mp hz with hz | hz
    · exact a3 z hz
    · rw [List.mem_singleton.mp hz]
      intro hm
      rcases mem_td j hm with hm | hm
      · exact a4 e hm (List.mem_of_getElem? he)
      · have := ge_of_drop hys ha hm; omega
  · exact .inr ⟨by simp; omega, a2⟩
theorem Sld.more {xs ys ms us : List Int} {i j : Nat} {e a : Int} (x : Sld xs ys i j ms us) (hxs : xs.Pairwise (· < ·)) (he : xs[i]? = some e) (ha : ys[j]? = some a) (h : a < e) : Sld xs ys i (j + 1) ms (us ++ [a]) := by
  obtain ⟨h1, h2, h3, h4, h5⟩ := x
  have hl := lt_of_get ha
  have ht : ys.take (j + 1) = ys.take j ++ [a] := by rw [List.take_add_one, ha]; rfl
  refine ⟨h1, by omega, h3, by simp; omega, ?_⟩
  rcases h5 with ⟨a1, a2, a3, a4⟩ | ⟨a1, a2⟩
  · refine .inl ⟨a1, by rw [ht, a2], a3, ?_⟩
    rw [ht]
    intro z hz
    rcases List.mem_append.mp hz with hz | hz
    · exact a4 z hz
    · rw [List.mem_singleton.mp hz]
      intro hm
      rcases mem_td i hm with hm | hm
      · exact a3 a hm (List.mem_of_getElem? ha)
      · have := ge_of_drop hxs he hm; omega
  · exact .inr ⟨a1, a2⟩
theorem Sld.both {xs ys ms us : List Int} {i j : Nat} {e : Int} (x : Sld xs ys i j ms us) (he : xs[i]? = some e) (ha : ys[j]? = some e) : Sld xs ys (i + 1) (j + 1) ms us := by
  have l1 := lt_of_get he
  have l2 := lt_of_get ha
  exact ⟨by omega, by omega, by have := x.lm; omega, by have := x.lu; omega, .inr ⟨by have := x.lm; omega, e, List.mem_of_getElem? he, List.mem_of_getElem? ha⟩⟩
theorem Sld.done {xs ys ms us : List Int} {i j : Nat} (x : Sld xs ys i j ms us) (h : xs.length ≤ i ∨ ys.length ≤ j) : ((ms ++ xs.drop i, us ++ ys.drop j) = (xs, ys) ↔ ∀ x ∈ xs, x ∉ ys) := by
  obtain ⟨h1, h2, h3, h4, h5⟩ := x
  rcases h5 with ⟨a1, a2, a3, a4⟩ | ⟨a1, z, hz, hz'⟩
  · subst a1 a2
    simp only [List.take_append_drop, true_iff]
    intro x hx hy
    rcases h with h | h
    · rw [List.take_of_length_le h] at a3; exact a3 x hx hy
    · rw [List.take_of_length_le h] at a4; exact a4 x hy hx
  · refine ⟨fun e => ?_, fun e => absurd hz' (e z hz)⟩
    have := congrArg (fun p => p.1.length) e
    simp at this
    omega
/-- the next one is another -/
theorem next_ne {xs : List Int} {i : Nat} {e e' : Int} (h : xs.Pairwise (· < ·)) (he : xs[i]? = some e) (he' : xs[i + 1]? = some e') : e' ≠ e := by
  obtain ⟨hj, rfl⟩ := List.getElem?_eq_some_iff.mp he
  obtain ⟨hj', rfl⟩ := List.getElem?_eq_some_iff.mp he'
  have := List.pairwise_iff_getElem.mp h i (i + 1) hj hj' (by omega)
  omega

section
variable {prog : Program} {w : World} {A : Around} {E : Value → Shared → Prop} {s₀ s : Shared} {B : Heap} {X : Led} {env : Env}
/-- while lst[ix] == el: ix += 1, where the item is another, or there is none -/
theorem skip_loop {lx ix ex : Expr} {p1 p2 pos : Pos} {body : List Stmt} {l L : Addr} {vs : List Value} {ns : List Int} {k : Nat} {e : Int} {cx : Value} {outer : List Env} {Q : Flow → Shared → Prop} (hW : W s₀ B X s)
    (hl : Ev ⟨prog, w, A, env, s₀, B, X⟩ lx (· = .ref l)) (hi : Ev ⟨prog, w, A, env, s₀, B, X⟩ ix (IsI k)) (he : Ev ⟨prog, w, A, env, s₀, B, X⟩ ex (IsI e)) (hL : LAt B X l vs) (f : F2 (RInt B) vs ns) (hk : k < 2 ^ 60)
    (hne : ∀ e', ns[k]? = some e' → e' ≠ e)
    (hfr : A.frames = some (env :: outer)) (hok : FrOk (env :: outer) X) (hf : env.frame = some L)
    (hout : ns.length ≤ k → ∀ (Q E : Value → Shared → Prop) (s : Shared) (t : Tok), W s₀ B X s → (∀ e s', W s₀ B ((e, ExP "IndexError" .none cx) :: X) s' → E (.ref e) s') → wpAny (model prog w) A (getItem (.ref l) (.int k t)) Q E s)
    (h1 : k < ns.length → ∀ s', W s₀ B X s' → Q .next s')
    (h2 : ns.length ≤ k → ∀ e T s', W s₀ B ((T, TbP (rawInt L)) :: (e, ExP "IndexError" (.ref T) cx) :: X) s' → E (.ref e) s')
    (hs : ∀ u, subscripted ix false (.ref l) (.int k u) = operate [.ref l, .int k u] (getItem (.ref l) (.int k u)) := by intro _; with_unfolding_all rfl)
    (hm : behindInMarks .Eq ex = false := by with_unfolding_all rfl) :
    wpAny (model prog w) A (exec (.While (.Compare (.Subscript lx ix p1) [.Eq] [ex] p2) body [] pos) env) Q E s := by
  refine wpAny_While (codeAny_whileLoop (fun _ s' => W s₀ B X s') (fun n s' W' => ?_) 0 hW)
  have hlen := f.length
  rcases Nat.lt_or_ge k ns.length with hlt | hge
  · obtain ⟨v, ev, t, e'⟩ := f.get' (i := k) (List.getElem?_eq_getElem hlt)
    have hn := hne _ (List.getElem?_eq_getElem hlt)
    refine (Ev.eqI (c := ⟨prog, w, A, env, s₀, B, X⟩) (a := ns[k]) (b := e) (Ev.imp (Ev.item hl hi hL ev (by omega) hs) fun v' q => ⟨t, q.trans e'⟩) he hm) s' _ _ W' fun s2 W2 => ?_
    rw [if_neg (by simpa using hn)]
    exact wpAny_execs_nil (h1 hlt s2 W2)
  · refine wpAny_isTrue_Compare1 ?_ hm
    refine Subscript_ (hl s' _ _ W' fun s1 v1 e1 W1 => ?_)
    subst e1
    refine hi s1 _ _ W1 fun s2 v2 ⟨u, e2⟩ W2 => ?_
    subst e2
    refine tail_any (hL.isList W2.st).typeIs slot_list_getitem.lookup (hout hge _ _ s2 u W2 fun e s3 W3 => ?_) (hs u)
    refine note_fresh hfr hok hf W3 fun T s4 W4 => ?_
    refine came_back W4 fun s5 W5 => ?_
    rw [hf] at W5
    exact h2 hge e T s5 W5
end
end Mine

end

section
open PySem PySem.W PyProof.Rows PySem.SeqAt
set_option Elab.async false
set_option linter.unusedVariables false
set_option maxRecDepth 100000
set_option maxHeartbeats 4000000
namespace Mine
theorem boot_IndexError : bootBuiltins "IndexError" = some (.type "IndexError") := by decide +kernel
theorem F2.drop {α β : Type} {R : α → β → Prop} {l : List α} {m : List β} (h : F2 R l m) (n : Nat) : F2 R (l.drop n) (m.drop n) := by
  induction h generalizing n with
  | nil => simp; exact .nil
  | cons a h ih => cases n with
    | zero => exact .cons a h
    | succ k => exact ih k
theorem St.dropZ {B h : Heap} {X : Led} : ∀ {Z : Led}, St B (Z ++ X) h → St B X h
  | [], H => H
  | _ :: _, H => St.dropZ (St.drop H)
section
variable {prog : Program} {w : World} {A : Around} {E : Value → Shared → Prop} {s₀ s : Shared} {B : Heap} {X : Led} {env : Env}
/-- lst[k:] -/
theorem ev_sliceFrom {lx ix : Expr} {p pos : Pos} {l : Addr} {vs : List Value} {k : Nat} {Q : Value → Shared → Prop} (hW : W s₀ B X s) (hl : Ev ⟨prog, w, A, env, s₀, B, X⟩ lx (· = .ref l)) (hi : Ev ⟨prog, w, A, env, s₀, B, X⟩ ix (IsI k))
    (hL : LAt B X l vs) (hz : vs.length ≤ 1000) (h : ∀ D s', W s₀ B ((D, LsP (vs.drop k)) :: X) s' → Q (.ref D) s') (ht : ∀ o r, letTemporaryGo lx o r = pure () := by intro _ _; rfl) :
    wpAny (model prog w) A (eval (.Subscript lx (.Slice (some ix) none none p) pos) env) Q E s := by
  refine wpAny_Subscript_list_slice (hl s _ _ hW fun s1 v1 e1 W1 => wpAny_evalPart_some (hi s1 _ _ W1 fun s2 v2 ⟨t, e2⟩ W2 => wpAny_evalPart_none ?_)) ht
  subst e1 e2
  refine ⟨l, vs.toArray, some (k : Int), none, rfl, hL.isList W2.st, by rw [sizeLine_eq]; simp; omega, .int _ _, .none, ?_⟩
  have H := (W2.st.push { cls := .type "slice", data := .fields #[.int (k : Int) t, .none, .none] }).new (o := { cls := .type "list", data := .seq (slicePick vs.toArray (some (k : Int)) none none) }) rfl (P := LsP (vs.drop k)) ⟨0, by rw [slicePick_from']⟩
  rw [Heap.size_push] at H
  exact h _ _ (W2.to (tk := s2.toks) H)
/-- lst[k], there or not -/
theorem item_or {lx ix : Expr} {pos : Pos} {l : Addr} {vs : List Value} {ns : List Int} {k : Nat} {Q : Value → Shared → Prop} (hW : W s₀ B X s) (hl : Ev ⟨prog, w, A, env, s₀, B, X⟩ lx (· = .ref l)) (hi : Ev ⟨prog, w, A, env, s₀, B, X⟩ ix (IsI k))
    (hL : LAt B X l vs) (f : F2 (RInt B) vs ns) (hk : k < 2 ^ 60) (hh : A.handled = none)
    (h1 : ∀ n t s', ns[k]? = some n → W s₀ B X s' → Q (.int n t) s')
    (h2 : ns.length ≤ k → ∀ e s', W s₀ B ((e, ExP "IndexError" .none .none) :: X) s' → E (.ref e) s')
    (hs : ∀ u, subscripted ix false (.ref l) (.int k u) = operate [.ref l, .int k u] (getItem (.ref l) (.int k u)) := by intro _; with_unfolding_all rfl) :
    wpAny (model prog w) A (eval (.Subscript lx ix pos) env) Q E s := by
  have hlen := f.length
  rcases Nat.lt_or_ge k ns.length with hlt | hge
  · obtain ⟨v, ev, t, e'⟩ := f.get' (i := k) (List.getElem?_eq_getElem hlt)
    refine (Ev.item (c := ⟨prog, w, A, env, s₀, B, X⟩) hl hi hL ev (by omega) hs) s _ _ hW fun s2 v2 e2 W2 => ?_
    rw [e2, e']
    exact h1 _ t s2 (List.getElem?_eq_getElem hlt) W2
  · refine Subscript_ (hl s _ _ hW fun s1 v1 e1 W1 => ?_)
    subst e1
    refine hi s1 _ _ W1 fun s2 v2 ⟨u, e2⟩ W2 => ?_
    subst e2
    exact tail_any (hL.isList W2.st).typeIs slot_list_getitem.lookup (getItem_out0 W2 (hL.isList W2.st) (by omega) hk hh (h2 hge)) (hs u)
end

/-- the locals of sorted_list_difference -/
structure SM (m : Str → Option Value) (eA aA D1 D2 : Addr) (i j : Nat) : Prop where
  me : m (Str.ofString "expected") = some (.ref eA)
  ma : m (Str.ofString "actual") = some (.ref aA)
  mm : m (Str.ofString "missing") = some (.ref D1)
  mu : m (Str.ofString "unexpected") = some (.ref D2)
  mi : ∃ t, m (Str.ofString "i") = some (.int (i : Int) t)
  mj : ∃ t, m (Str.ofString "j") = some (.int (j : Int) t)
section
variable {m : Str → Option Value} {eA aA D1 D2 : Addr} {i j : Nat}
theorem SM.other (h : SM m eA aA D1 D2 i j) {x : Str} {v : Value} (h1 : Str.ofString "expected" ≠ x := by decide) (h2 : Str.ofString "actual" ≠ x := by decide) (h3 : Str.ofString "missing" ≠ x := by decide) (h4 : Str.ofString "unexpected" ≠ x := by decide) (h5 : Str.ofString "i" ≠ x := by decide) (h6 : Str.ofString "j" ≠ x := by decide) : SM (up m x v) eA aA D1 D2 i j :=
  ⟨(up_ne h1).trans h.me, (up_ne h2).trans h.ma, (up_ne h3).trans h.mm, (up_ne h4).trans h.mu, h.mi.imp fun _ q => (up_ne h5).trans q, h.mj.imp fun _ q => (up_ne h6).trans q⟩
theorem SM.inci (h : SM m eA aA D1 D2 i j) {t : Tok} : SM (up m (Str.ofString "i") (.int ((i : Int) + 1) t)) eA aA D1 D2 (i + 1) j :=
  ⟨(up_ne (by decide)).trans h.me, (up_ne (by decide)).trans h.ma, (up_ne (by decide)).trans h.mm, (up_ne (by decide)).trans h.mu, ⟨t, up_self _ _ _⟩, h.mj.imp fun _ q => (up_ne (by decide)).trans q⟩
theorem SM.incj (h : SM m eA aA D1 D2 i j) {t : Tok} : SM (up m (Str.ofString "j") (.int ((j : Int) + 1) t)) eA aA D1 D2 i (j + 1) :=
  ⟨(up_ne (by decide)).trans h.me, (up_ne (by decide)).trans h.ma, (up_ne (by decide)).trans h.mm, (up_ne (by decide)).trans h.mu, h.mi.imp fun _ q => (up_ne (by decide)).trans q, ⟨t, up_self _ _ _⟩⟩
end
/-- the state of its loop: locals, both lists -/
inductive SL (s₀ : Shared) (B : Heap) (X : Led) (eA aA D1 D2 L : Addr) (xs ys : List Int) (Z : Led) (Y : Led) (m : Str → Option Value) (i j : Nat) (s : Shared) : Prop
  | mk (sm : SM m eA aA D1 D2 i j) (mv uv : List Value) (ms us : List Int) (fm : F2 (RInt B) mv ms) (fu : F2 (RInt B) uv us) (sl : Sld xs ys i j ms us) (hW : W s₀ B (Y ++ (Z ++ (D2, LsP uv) :: (D1, LsP mv) :: (L, NsP m) :: X)) s) : SL s₀ B X eA aA D1 D2 L xs ys Z Y m i j s
inductive SLI (B : Heap) (X : Led) (eA aA D1 D2 L : Addr) (xs ys : List Int) (n : Nat) (B' : Heap) (X' : Led) : Prop
  | mk (m : Str → Option Value) (mv uv : List Value) (ms us : List Int) (i j : Nat) (hB : B' = B) (hX : X' = (D2, LsP uv) :: (D1, LsP mv) :: (L, NsP m) :: X) (hn : n = xs.length + ys.length - (i + j)) (sm : SM m eA aA D1 D2 i j) (fm : F2 (RInt B) mv ms) (fu : F2 (RInt B) uv us) (sl : Sld xs ys i j ms us) : SLI B X eA aA D1 D2 L xs ys n B' X'
inductive SLQ (s₀ : Shared) (B : Heap) (X : Led) (eA aA D1 D2 L : Addr) (xs ys : List Int) (n : Nat) (f : Flow) (s' : Shared) : Prop
  | mk (hf : f = .next) (m : Str → Option Value) (i' j' : Nat) (h : n < i' + j') (sl : SL s₀ B X eA aA D1 D2 L xs ys [] [] m i' j' s') : SLQ s₀ B X eA aA D1 D2 L xs ys n f s'
inductive SLE (s₀ : Shared) (B : Heap) (X : Led) (eA aA D1 D2 L : Addr) (xs ys : List Int) (v : Value) (s' : Shared) : Prop
  | mk (e : Addr) (m : Str → Option Value) (i' j' : Nat) (Z : Led) (hv : v = .ref e) (h : xs.length ≤ i' ∨ ys.length ≤ j')
      (sl : (∃ cx, SL s₀ B X eA aA D1 D2 L xs ys Z [(e, ExP "IndexError" .none cx)] m i' j' s') ∨ ∃ T cx, SL s₀ B X eA aA D1 D2 L xs ys Z [(T, TbP (rawInt L)), (e, ExP "IndexError" (.ref T) cx)] m i' j' s') : SLE s₀ B X eA aA D1 D2 L xs ys v s'

theorem sld_call (w : World) : SldSpec w := by
  intro prog A E s₀ s B X mg mb v u xs ys Q hG hW hR hF hv hu hxs hys hxl hyl h
  obtain ⟨eA, eV, rfl, eO, eF⟩ := hv
  obtain ⟨aA, aV, rfl, aO, aF⟩ := hu
  obtain ⟨outer, hfr0, hok0⟩ := hF
  have eL := eF.length
  have aL := aF.length
  refine call_fn (binds := [(Str.ofString "expected", .ref eA), (Str.ofString "actual", .ref aA)]) hG hW (by with_unfolding_all rfl) (by with_unfolding_all rfl) (by with_unfolding_all rfl) (by have := hR.d; omega) (BindsTo.of_eq (by with_unfolding_all rfl)) (by decide) ?_ (by with_unfolding_all rfl) (by with_unfolding_all rfl) (by with_unfolding_all rfl) ?_
  · intro x hx
    rcases List.mem_cons.mp hx with rfl | hx
    · with_unfolding_all rfl
    · rcases List.mem_singleton.mp hx with rfl
      with_unfolding_all rfl
  · intro L s1 W1
    obtain ⟨m, hme, hma, W2⟩ : Ex3 (fun m : Str → Option Value => m (Str.ofString "expected") = some (.ref eA)) (fun m : Str → Option Value => m (Str.ofString "actual") = some (.ref aA)) (fun m : Str → Option Value => W s₀ B ((L, NsP m) :: X) s1) := ⟨_, by with_unfolding_all rfl, by with_unfolding_all rfl, W1⟩
    clear W1
    have R1 := hR.deeper (d := 1) (u := 57)
    have hfr : ∀ env : Env, (A.deeper env).frames = some (env :: outer) := fun env => by show A.frames.map _ = _; rw [hfr0]; rfl
    have hok : ∀ (env : Env) (Y : Led) (m : Str → Option Value), env.scope.kind = .function → env.frame = some L → (L, NsP m) ∈ Y → (∀ p ∈ X, p ∈ Y) → FrOk (env :: outer) Y := fun env Y m hk hf hm hs e he => by
      rcases List.mem_cons.mp he with rfl | he
      · exact ⟨by rw [hk]; decide, L, m, hf, hm⟩
      · exact hok0.sub hs e he
    -- i = j = 0
    refine wpAny_execs_cons (wpAny_Assign_two (wpAny_Constant_int ?_))
    refine as_name [] (W2.tok _) fun s2 W3 => ?_
    refine as_name [] W3 fun s3 W4 => ?_
    -- missing = []; unexpected = []
    refine wpAny_execs_cons (wpAny_Assign_Name (ev_nil W4 fun D1 s4 W5 => ?_))
    refine st_local [(D1, LsP [])] W5 fun s5 W6 => ?_
    refine wpAny_execs_cons (wpAny_Assign_Name (ev_nil W6 fun D2 s6 W7 => ?_))
    refine st_local [(D2, LsP []), (D1, LsP [])] W7 fun s7 W8 => ?_
    refine wpAny_execs_cons (while_it (SLI B X eA aA D1 D2 L xs ys)
      (xs.length + ys.length) W8 ⟨_, [], [], [], [], 0, 0, rfl, rfl, by omega, ⟨?_, ?_, ?_, ?_, ?_, ?_⟩, .nil, .nil, Sld.start _ _⟩ ?_)
    · exact (up_ne (by decide)).trans ((up_ne (by decide)).trans ((up_ne (by decide)).trans ((up_ne (by decide)).trans hme)))
    · exact (up_ne (by decide)).trans ((up_ne (by decide)).trans ((up_ne (by decide)).trans ((up_ne (by decide)).trans hma)))
    · exact (up_ne (by decide)).trans (up_self _ _ _)
    · exact up_self _ _ _
    · exact ⟨_, (up_ne (by decide)).trans ((up_ne (by decide)).trans ((up_ne (by decide)).trans (up_self _ _ _)))⟩
    · exact ⟨_, (up_ne (by decide)).trans ((up_ne (by decide)).trans (up_self _ _ _))⟩
    · rintro n B' X' hsub ⟨m, mv, uv, ms, us, i, j, rfl, rfl, rfl, sm, fm, fu, sl⟩
      refine ⟨true, fun s Q E hW k => wpAny_isTrue_value (wpAny_Constant_bool (wpAny_truthy_bool (k s hW))), fun _ s9 W9 => ?_, fun q => (Bool.noConfusion q)⟩
      have hi := sl.hi
      have hj := sl.hj
      have lm := sl.lm
      have lu := sl.lu
      refine abs_post fun Qb hQb => ?_
      refine wpAny_execs_cons (wpAny_Try_except (wpAny_mono
        (Q := SLQ s₀ B' X eA aA D1 D2 L xs ys (i + j))
        (E := SLE s₀ B' X eA aA D1 D2 L xs ys)
        ?_ ?_ ?_))
      · -- the body
        refine abs_both fun Qy Ey hQy hEy => ?_
        obtain ⟨ti, smi⟩ := sm.mi
        obtain ⟨tj, smj⟩ := sm.mj
        refine wpAny_execs_cons (wpAny_Assign_Name (item_or W9 (Ev.local (by k_mem) sm.me) (Ev.imp (Ev.local (by k_mem) smi) fun v e => ⟨ti, e⟩) (.inl eO) eF (by omega) (R1 _).h ?_ ?_))
        rotate_left
        · exact fun hge e s' W' => (hEy _ _ ⟨e, m, i, j, [], rfl, .inl hge, .inl ⟨_, sm, mv, uv, ms, us, fm, fu, sl, W'⟩⟩)
        intro e te s10 he W10
        refine st_local [(D2, LsP uv), (D1, LsP mv)] W10 fun s11 W11 => ?_
        have sm1 := sm.other (x := Str.ofString "e") (v := .int e te)
        obtain ⟨tj, smj⟩ := sm1.mj
        refine wpAny_execs_cons (wpAny_Assign_Name (item_or W11 (Ev.local (by k_mem) sm1.ma) (Ev.imp (Ev.local (by k_mem) smj) fun v e => ⟨tj, e⟩) (.inl aO) aF (by omega) (R1 _).h ?_ ?_))
        rotate_left
        · exact fun hge e s' W' => (hEy _ _ ⟨e, _, i, j, [], rfl, .inr hge, .inl ⟨_, sm1, mv, uv, ms, us, fm, fu, sl, W'⟩⟩)
        intro a ta s12 ha W12
        refine st_local [(D2, LsP uv), (D1, LsP mv)] W12 fun s13 W13 => ?_
        have sm2 := sm1.other (x := Str.ofString "a") (v := .int a ta)
        have hme : up (up m (Str.ofString "e") (.int e te)) (Str.ofString "a") (.int a ta) (Str.ofString "e") = some (.int e te) := (up_ne (by decide)).trans (up_self _ _ _)
        have hma : up (up m (Str.ofString "e") (.int e te)) (Str.ofString "a") (.int a ta) (Str.ofString "a") = some (.int a ta) := up_self _ _ _
        generalize up (up m (Str.ofString "e") (.int e te)) (Str.ofString "a") (.int a ta) = m2 at sm2 hme hma W13
        clear sm1 sm smi smj W10 W11 W12 W9
        have il := lt_of_get he
        have jl := lt_of_get ha
        refine wpAny_execs_cons (wpAny_If ((Ev.ltI (c := ⟨prog, w, _, _, s₀, B', _⟩) (a := e) (b := a) (Ev.imp (Ev.local (by k_mem) hme) fun v q => ⟨te, q⟩) (Ev.imp (Ev.local (by k_mem) hma) fun v q => ⟨ta, q⟩)) s13 _ _ W13 fun s14 W14 => ?_))
        by_cases hea : e < a
        · rw [if_pos (by simpa using hea)]
          refine wpAny_execs_cons (append_stmt (D := D1) (us := mv) [(D2, LsP uv)] W14 (Ev.local (by k_mem) sm2.mm) (by have := fm.length; omega) fun s15 W15 => ev_local W15 (by k_mem) hme ⟨B', [(D2, LsP uv)], _, W15, fun s16 W16 => ?_⟩)
          obtain ⟨ti, smi⟩ := sm2.mi
          refine wpAny_execs_cons (wpAny_AugAssign_Name (ld_local W16 (by k_mem) smi (wpAny_Constant_int (wpAny_iadd_int (st_local [(D2, LsP uv), (D1, LsP (mv ++ [Value.int e te]))] ((W16.tok _).tok _) fun s17 W17 => ?_)))))
          obtain ⟨m3, sm3, hme3, W18⟩ : ∃ m3, SM m3 eA aA D1 D2 (i + 1) j ∧ m3 (Str.ofString "e") = some (.int e te) ∧ W s₀ B' ((D2, LsP uv) :: (D1, LsP (mv ++ [Value.int e te])) :: (L, NsP m3) :: X) s17 := ⟨_, sm2.inci, (up_ne (by decide)).trans hme, W17⟩
          obtain ⟨ti', smi'⟩ := sm3.mi
          refine wpAny_execs_cons (skip_loop (cx := .none) (k := i + 1) W18 (Ev.local (by k_mem) sm3.me) (Ev.imp (Ev.local (by k_mem) smi') fun v q => ⟨ti', q⟩) (Ev.imp (Ev.local (by k_mem) hme3) fun v q => ⟨te, q⟩) (.inl eO) eF (by omega) (fun e' he' => next_ne hxs he he')
            (hfr _) (hok _ _ m3 rfl rfl (by simp) (fun p hp => by simp [hp])) rfl (fun hge Q E s t W hE => getItem_out0 W (LAt.isList (.inl eO) W.st) (by omega) (by omega) (R1 _).h hE) ?_ ?_)
          · exact fun hlt s' W' => wpAny_execs_nil (wpAny_execs_nil (hQy _ _ ⟨rfl, m3, i + 1, j, by omega, sm3, _, _, _, _, fm.append (.cons ⟨te, rfl⟩ .nil), fu, sl.less hys he ha hea, W'⟩))
          · exact fun hge e1 T1 s' W' => (hEy _ _ ⟨e1, m3, i + 1, j, [], rfl, .inl hge, .inr ⟨T1, _, sm3, _, _, _, _, fm.append (.cons ⟨te, rfl⟩ .nil), fu, sl.less hys he ha hea, W'⟩⟩)
        · rw [if_neg (by simpa using hea)]
          refine wpAny_execs_cons (wpAny_If ((Ev.gtI (c := ⟨prog, w, _, _, s₀, B', _⟩) (a := e) (b := a) (Ev.imp (Ev.local (by k_mem) hme) fun v q => ⟨te, q⟩) (Ev.imp (Ev.local (by k_mem) hma) fun v q => ⟨ta, q⟩)) s14 _ _ W14 fun s15 W15 => ?_))
          by_cases hae : a < e
          · rw [if_pos (by simpa using hae)]
            refine wpAny_execs_cons (append_stmt (D := D2) (us := uv) [] W15 (Ev.local (by k_mem) sm2.mu) (by have := fu.length; omega) fun s15 W15 => ev_local W15 (by k_mem) hma ⟨B', [], _, W15, fun s16 W16 => ?_⟩)
            obtain ⟨tj, smj⟩ := sm2.mj
            refine wpAny_execs_cons (wpAny_AugAssign_Name (ld_local W16 (by k_mem) smj (wpAny_Constant_int (wpAny_iadd_int (st_local [(D2, LsP (uv ++ [Value.int a ta])), (D1, LsP mv)] ((W16.tok _).tok _) fun s17 W17 => ?_)))))
            obtain ⟨m3, sm3, hma3, W18⟩ : ∃ m3, SM m3 eA aA D1 D2 i (j + 1) ∧ m3 (Str.ofString "a") = some (.int a ta) ∧ W s₀ B' ((D2, LsP (uv ++ [Value.int a ta])) :: (D1, LsP mv) :: (L, NsP m3) :: X) s17 := ⟨_, sm2.incj, (up_ne (by decide)).trans hma, W17⟩
            obtain ⟨tj', smj'⟩ := sm3.mj
            refine wpAny_execs_cons (skip_loop (cx := .none) (k := j + 1) W18 (Ev.local (by k_mem) sm3.ma) (Ev.imp (Ev.local (by k_mem) smj') fun v q => ⟨tj', q⟩) (Ev.imp (Ev.local (by k_mem) hma3) fun v q => ⟨ta, q⟩) (.inl aO) aF (by omega) (fun e' he' => next_ne hys ha he')
              (hfr _) (hok _ _ m3 rfl rfl (by simp) (fun p hp => by simp [hp])) rfl (fun hge Q E s t W hE => getItem_out0 W (LAt.isList (.inl aO) W.st) (by omega) (by omega) (R1 _).h hE) ?_ ?_)
            · exact fun hlt s' W' => wpAny_execs_nil (wpAny_execs_nil (wpAny_execs_nil (hQy _ _ ⟨rfl, m3, i, j + 1, by omega, sm3, _, _, _, _, fm, fu.append (.cons ⟨ta, rfl⟩ .nil), sl.more hxs he ha hae, W'⟩)))
            · exact fun hge e1 T1 s' W' => (hEy _ _ ⟨e1, m3, i, j + 1, [], rfl, .inr hge, .inr ⟨T1, _, sm3, _, _, _, _, fm, fu.append (.cons ⟨ta, rfl⟩ .nil), sl.more hxs he ha hae, W'⟩⟩)
          · rw [if_neg (by simpa using hae)]
            have hq : a = e := by omega
            subst hq
            have sl3 := sl.both he ha
            obtain ⟨ti, smi⟩ := sm2.mi
            refine wpAny_execs_cons (wpAny_AugAssign_Name (ld_local W15 (by k_mem) smi (wpAny_Constant_int (wpAny_iadd_int (st_local [(D2, LsP uv), (D1, LsP mv)] ((W15.tok _).tok _) fun s17 W17 => ?_)))))
            obtain ⟨m3, sm3, hme3, hma3, W18⟩ : ∃ m3, SM m3 eA aA D1 D2 (i + 1) j ∧ m3 (Str.ofString "e") = some (.int a te) ∧ m3 (Str.ofString "a") = some (.int a ta) ∧ W s₀ B' ((D2, LsP uv) :: (D1, LsP mv) :: (L, NsP m3) :: X) s17 := ⟨_, sm2.inci, (up_ne (by decide)).trans hme, (up_ne (by decide)).trans hma, W17⟩
            obtain ⟨ti', smi'⟩ := sm3.mi
            obtain ⟨tj, smj⟩ := sm3.mj
            refine wpAny_execs_cons (wpAny_Try_finally ?_)
            refine wpAny_execs_cons (skip_loop (cx := .none) (k := i + 1) W18 (Ev.local (by k_mem) sm3.me) (Ev.imp (Ev.local (by k_mem) smi') fun v q => ⟨ti', q⟩) (Ev.imp (Ev.local (by k_mem) hme3) fun v q => ⟨te, q⟩) (.inl eO) eF (by omega) (fun e' he' => next_ne hxs he he')
              (hfr _) (hok _ _ m3 rfl rfl (by simp) (fun p hp => by simp [hp])) rfl (fun hge Q E s t W hE => getItem_out0 W (LAt.isList (.inl eO) W.st) (by omega) (by omega) (R1 _).h hE) ?_ ?_)
            · intro hlt s18 W19
              refine wpAny_execs_nil (wpAny_execs_nil ?_)
              refine wpAny_execs_cons (wpAny_AugAssign_Name (ld_local W19 (by k_mem) smj (wpAny_Constant_int (wpAny_iadd_int (st_local [(D2, LsP uv), (D1, LsP mv)] ((W19.tok _).tok _) fun s17 W17 => ?_)))))
              obtain ⟨m4, sm4, hma4, W20⟩ : ∃ m4, SM m4 eA aA D1 D2 (i + 1) (j + 1) ∧ m4 (Str.ofString "a") = some (.int a ta) ∧ W s₀ B' ((D2, LsP uv) :: (D1, LsP mv) :: (L, NsP m4) :: X) s17 := ⟨_, sm3.incj, (up_ne (by decide)).trans hma3, W17⟩
              obtain ⟨tj', smj'⟩ := sm4.mj
              refine wpAny_execs_cons (skip_loop (cx := .none) (k := j + 1) W20 (Ev.local (by k_mem) sm4.ma) (Ev.imp (Ev.local (by k_mem) smj') fun v q => ⟨tj', q⟩) (Ev.imp (Ev.local (by k_mem) hma4) fun v q => ⟨ta, q⟩) (.inl aO) aF (by omega) (fun e' he' => next_ne hys ha he')
                (hfr _) (hok _ _ m4 rfl rfl (by simp) (fun p hp => by simp [hp])) rfl (fun hge Q E s t W hE => getItem_out0 W (LAt.isList (.inl aO) W.st) (by omega) (by omega) (R1 _).h hE) ?_ ?_)
              · exact fun hlt s' W' => wpAny_execs_nil (wpAny_execs_nil (wpAny_execs_nil (wpAny_execs_nil (hQy _ _ ⟨rfl, m4, i + 1, j + 1, by omega, sm4, _, _, _, _, fm, fu, sl3, W'⟩))))
              · intro hge e1 T1 s' W'
                refine note_again rfl W' (.head _) (.tail _ (.head _)) (came_back W' fun s'' W'' => ?_)
                exact (hEy _ _ ⟨e1, m4, i + 1, j + 1, [], rfl, .inr hge, .inr ⟨T1, _, sm4, _, _, _, _, fm, fu, sl3, W''⟩⟩)
            · intro hge1 e1 T1 s18 W19
              refine note_again rfl W19 (.head _) (.tail _ (.head _)) ⟨ref_ne_byPass _, note_again rfl W19 (.head _) (.tail _ (.head _)) (set_flight W19 fun s19 W20 => ?_)⟩
              refine wpAny_execs_cons (wpAny_AugAssign_Name (ld_local W20 (by k_mem) smj (wpAny_Constant_int (wpAny_iadd_int (st_local [(T1, TbP .none), (e1, ExP "IndexError" (.ref T1) .none), (D2, LsP uv), (D1, LsP mv)] ((W20.tok _).tok _) fun s17 W17 => ?_)))))
              obtain ⟨m4, sm4, hma4, W21⟩ : ∃ m4, SM m4 eA aA D1 D2 (i + 1) (j + 1) ∧ m4 (Str.ofString "a") = some (.int a ta) ∧ W s₀ B' ((T1, TbP .none) :: (e1, ExP "IndexError" (.ref T1) .none) :: (D2, LsP uv) :: (D1, LsP mv) :: (L, NsP m4) :: X) s17 := ⟨_, sm3.incj, (up_ne (by decide)).trans hma3, W17⟩
              obtain ⟨tj', smj'⟩ := sm4.mj
              refine wpAny_execs_cons (skip_loop (cx := .ref e1) (k := j + 1) W21 (Ev.local (by k_mem) sm4.ma) (Ev.imp (Ev.local (by k_mem) smj') fun v q => ⟨tj', q⟩) (Ev.imp (Ev.local (by k_mem) hma4) fun v q => ⟨ta, q⟩) (.inl aO) aF (by omega) (fun e' he' => next_ne hys ha he')
                (hfr _) (hok _ _ m4 rfl rfl (by simp) (fun p hp => by simp [hp])) rfl (fun hge Q E s t W hE => getItem_out W (LAt.isList (.inl aO) W.st) (by omega) (by omega) rfl (.tail _ (.head _)) hE) ?_ ?_)
              · exact fun hlt s' W' => wpAny_execs_nil (pass_on W' fun s'' W'' => (hEy _ _ ⟨e1, m4, i + 1, j + 1, [], rfl, .inl hge1, .inr ⟨T1, _, sm4, _, _, _, _, fm, fu, sl3, W''⟩⟩))
              · intro hge e2 T2 s' W'
                refine note_again rfl W' (.head _) (.tail _ (.head _)) (came_back W' fun s'' W'' => ?_)
                exact (hEy _ _ ⟨e2, m4, i + 1, j + 1, [(T1, TbP .none), (e1, ExP "IndexError" (.ref T1) .none)], rfl, .inr hge, .inr ⟨T2, _, sm4, _, _, _, _, fm, fu, sl3, W''⟩⟩)
      · -- it goes on
        rintro f s' ⟨rfl, m', i', j', hlt, sm', mv', uv', ms', us', fm', fu', sl', W'⟩
        have hi' := sl'.hi
        have hj' := sl'.hj
        refine wpAny_execs_nil (wpAny_execs_nil (hQb .next _ ⟨xs.length + ys.length - (i' + j'), B', _, ?_, Sub.refl _, ⟨m', mv', uv', ms', us', i', j', rfl, rfl, rfl, sm', fm', fu', sl'⟩, W'⟩))
        omega
      · -- the handler
        rintro v s' ⟨e, m', i', j', Z, rfl, hend, hc⟩
        refine wpAny_mono (Q := fun _ s₂ => ∃ T cx, SL s₀ B' X eA aA D1 D2 L xs ys Z [(T, TbP (rawInt L)), (e, ExP "IndexError" (.ref T) cx)] m' i' j' s₂) (E := NoE) ?_ ?_ (fun _ _ f => f.elim)
        · rcases hc with ⟨cx, sm', mv', uv', ms', us', fm', fu', sl', W'⟩ | ⟨T, cx, sm', mv', uv', ms', us', fm', fu', sl', W'⟩
          · exact note_fresh (X := Z ++ (D2, LsP uv') :: (D1, LsP mv') :: (L, NsP m') :: X) (hfr _) (hok _ _ m' rfl rfl (by simp) (fun p hp => by simp [hp])) rfl W' fun T s'' W'' => ⟨T, cx, sm', _, _, _, _, fm', fu', sl', W''⟩
          · exact note_again rfl W' (.head _) (.tail _ (.head _)) ⟨T, cx, sm', _, _, _, _, fm', fu', sl', W'⟩
        · rintro _ s₂ ⟨T, cx, sm', mv', uv', ms', us', fm', fu', sl', W'⟩
          refine set_flight W' fun s₃ W3 => ?_
          refine wpAny_handleBy_builtin (T := "IndexError") (X := "IndexError") (b := true) (by with_unfolding_all rfl) (by with_unfolding_all rfl) (by with_unfolding_all rfl) ?_
          refine ev_builtin hG W3 boot_IndexError ⟨rfl, ?_, ?_⟩
          · obtain ⟨o, ho, hc, _⟩ := W3.st.at (.tail _ (.head _))
            exact ⟨o, ho, hc⟩
          rw [if_pos rfl]
          refine set_flight W3 fun s₄ W4 => ?_
          have W5 := W4.re (St.dropZ (Z := _ :: _ :: Z) W4.st)
          obtain ⟨ti, smi⟩ := sm'.mi
          obtain ⟨tj, smj⟩ := sm'.mj
          have l1 := fm'.length
          have l2 := fu'.length
          have l3 := sl'.lm
          have l4 := sl'.lu
          have l5 := sl'.hi
          have l6 := sl'.hj
          refine wpAny_execs_cons (extend_stmt (D := D1) (us := mv') [(D2, LsP uv')] W5 (Ev.local (by k_mem) sm'.mm) fun s5 W6 => ?_)
          refine ev_sliceFrom W6 (Ev.local (by k_mem) sm'.me) (Ev.imp (Ev.local (by k_mem) smi) fun v q => ⟨ti, q⟩) (.inl eO) (by omega) fun D s6 W7 => ⟨B', [(D, LsP (eV.drop i')), (D2, LsP uv')], _, D, eV.drop i', rfl, W7, .inr (.head _), by simp; omega, fun s7 W8 => ?_⟩
          have W9 := W8.re W8.st.drop
          refine wpAny_execs_cons (extend_stmt (D := D2) (us := uv') [] W9 (Ev.local (by k_mem) sm'.mu) fun s8 W10 => ?_)
          refine ev_sliceFrom W10 (Ev.local (by k_mem) sm'.ma) (Ev.imp (Ev.local (by k_mem) smj) fun v q => ⟨tj, q⟩) (.inl aO) (by omega) fun D s6 W7 => ⟨B', [(D, LsP (aV.drop j'))], _, D, aV.drop j', rfl, W7, .inr (.head _), by simp; omega, fun s7 W8 => ?_⟩
          have W11 := W8.re W8.st.drop
          refine wpAny_execs_cons (wpAny_Break (hQb .brk _ ?_))
          refine wpAny_execs_cons (wpAny_Return_some (wpAny_Tuple (Calls.spliced_cons (ev_local W11 (by k_mem) sm'.mm (Calls.spliced_cons (ev_local W11 (by k_mem) sm'.mu (Calls.spliced_nil ⟨by rw [sizeLine_eq]; simp, ?_⟩)))))))
          have W12 := W11.to (tk := s7.toks) (W11.st.new (o := { cls := .type "tuple", data := .seq [.ref D1, .ref D2].toArray }) rfl (P := fun o => o = { cls := .type "tuple", data := .seq [.ref D1, .ref D2].toArray }) rfl)
          obtain ⟨B5, oT, hs5, hoT, eT, H5⟩ := W12.st.freeze
          subst eT
          obtain ⟨B6, o2, hs6, ho2, p2, H6⟩ := H5.freeze
          obtain ⟨B7, o1, hs7, ho1, p1, H7⟩ := H6.freeze
          have h57 := hs6.trans hs7
          refine h B7 _ (ms' ++ xs.drop i', us' ++ ys.drop j') _ (hs5.trans h57) (W12.re H7.drop) ⟨_, .ref D1, .ref D2, rfl, ⟨_, h57 _ _ hoT, rfl, _, rfl⟩, ⟨D1, _, rfl, ⟨o1, ho1, p1⟩, ?_⟩, ⟨D2, _, rfl, ⟨o2, hs7 _ _ ho2, p2⟩, ?_⟩⟩ (sl'.done hend)
          · exact (fm'.append (eF.drop i')).mono mono_int (hs5.trans h57)
          · exact (fu'.append (aF.drop j')).mono mono_int (hs5.trans h57)
end Mine

end

section
open PySem PySem.W PyProof.Rows PySem.SeqAt
set_option Elab.async false
set_option linter.unusedVariables false
set_option maxRecDepth 100000
set_option maxHeartbeats 4000000
namespace Mine

/-! an object's own dict -/
abbrev DeP (w : World) (e : DictEntry) (kv : Str × Value) : Prop := ∃ t, e = ⟨PyData.keyHash w.params kv.1, .str kv.1 t, kv.2⟩
def DoP (w : World) (kvs : List (Str × Value)) : As := fun o => ∃ es n, o = dictOf es n ∧ F2 (DeP w) es kvs
def getK (name : Str) : List (Str × Value) → Option Value
  | [] => none
  | kv :: r => if kv.1 == name then some kv.2 else getK name r
def putK (name : Str) (v : Value) : List (Str × Value) → List (Str × Value)
  | [] => [(name, v)]
  | kv :: r => if kv.1 == name then (kv.1, v) :: r else kv :: putK name v r
theorem noRef {w : World} {es : List DictEntry} {kvs : List (Str × Value)} (f : F2 (DeP w) es kvs) : es.any (·.refKey) = false := by
  induction f with
  | nil => rfl
  | cons h _ ih => obtain ⟨t, rfl⟩ := h; simpa [DictEntry.refKey] using ih
theorem getL_of {w : World} (name : Str) {es : List DictEntry} {kvs : List (Str × Value)} (f : F2 (DeP w) es kvs) : getL name es = some (getK name kvs) := by
  have h := noRef f
  unfold getL
  have key : (es.find? (·.key.isStr name)).map (·.val) = getK name kvs := by
    clear h
    induction f with
    | nil => rfl
    | @cons e kv l m h _ ih =>
      obtain ⟨t, rfl⟩ := h
      have e : Value.isStr (.str kv.1 t) name = (kv.1 == name) := rfl
      simp only [List.find?_cons, getK, e]
      by_cases hk : (kv.1 == name) = true
      · simp only [hk, if_true, Option.map_some]
      · simp only [Bool.not_eq_true] at hk
        simp only [hk, Bool.false_eq_true, if_false]; exact ih
  cases hf : es.find? (·.key.isStr name) with
  | none => rw [hf] at key; rw [← key]; simp [h]
  | some e => rw [hf] at key; rw [← key]; simp
theorem putL_of {w : World} (name : Str) (v : Value) (t : Tok) {es : List DictEntry} {kvs : List (Str × Value)} (f : F2 (DeP w) es kvs) : F2 (DeP w) (putL name (PyData.keyHash w.params name) (.str name t) v es) (putK name v kvs) := by
  induction f with
  | nil => exact .cons ⟨t, rfl⟩ .nil
  | @cons e kv l m h hf ih =>
    obtain ⟨t', rfl⟩ := h
    have e : Value.isStr (.str kv.1 t') name = (kv.1 == name) := rfl
    simp only [putL, putK, e]
    by_cases hk : (kv.1 == name) = true
    · rw [if_pos hk, if_pos hk]; exact .cons ⟨t', rfl⟩ hf
    · rw [if_neg hk, if_neg hk]; exact .cons ⟨t', rfl⟩ ih

/-! the library's frames over the ledger -/
def rest2 (h : Heap) (L d : Addr) : List (Addr × Obj) := (others h L).filter fun p => !(p.1 == d)
theorem mem_rest2 {h : Heap} {L d : Addr} {p : Addr × Obj} : p ∈ rest2 h L d ↔ (p.1 ≠ L ∧ h.get? p.1 = some p.2) ∧ p.1 ≠ d := by
  unfold rest2
  rw [List.mem_filter]
  constructor
  · rintro ⟨a, b⟩
    exact ⟨mem_others.mp (show (p.1, p.2) ∈ _ from a), fun q => by rw [q] at b; simp at b⟩
  · rintro ⟨a, b⟩
    refine ⟨mem_others.mpr a, ?_⟩
    rw [Bool.not_eq_true', beq_eq_false_iff_ne]
    exact b
section
variable {B h h' : Heap} {pre post : Led} {L d : Addr} {m : Str → Option Value} {P P' : As} {o o' : Obj}
theorem St.ne_of (H : St B (pre ++ (d, P) :: post) h) (hL : (L, P') ∈ pre ++ post) : d ≠ L := fun q => by
  have nd := H.front.nd
  rw [List.map_cons, List.nodup_cons] at nd
  exact nd.1 (by subst q; exact List.mem_map_of_mem (f := (·.1)) hL)
theorem mem_mid {p : Addr × As} (h : p ∈ pre ++ post) : p ∈ pre ++ (d, P) :: post := by
  rcases List.mem_append.mp h with h | h
  · exact List.mem_append_left _ h
  · exact List.mem_append_right _ (.tail _ h)
theorem St.open1 (H : St B (pre ++ (d, P) :: post) h) (hL : (L, NsP m) ∈ pre ++ post) (ho : h.get? d = some o) :
    Fr emptyH L h m ∧ News emptyH L h ([] ++ (d, o) :: rest2 h L d) ∧ ∀ p ∈ rest2 h L d, p.1 ≠ d := by
  refine ⟨fr_of H (mem_mid hL), fun p hp => ?_, fun p hp => (mem_rest2.mp hp).2⟩
  rcases List.mem_cons.mp hp with rfl | hp
  · exact ⟨ho, H.ne_of hL, emptyH_get _⟩
  · exact ⟨(mem_rest2.mp hp).1.2, (mem_rest2.mp hp).1.1, emptyH_get _⟩
theorem St.close1 (H : St B (pre ++ (d, P) :: post) h) (hL : (L, NsP m) ∈ pre ++ post) (F' : Fr emptyH L h' m) (N' : News emptyH L h' ([] ++ (d, o') :: rest2 h L d)) (hp : P' o') :
    St B (pre ++ (d, P') :: post) h' := by
  have H0 := H.front
  have hne := H.ne_of hL
  have nd := H0.nd
  have nd' := nd
  rw [List.map_cons, List.nodup_cons] at nd'
  have keep : ∀ a o, a ≠ L → a ≠ d → h.get? a = some o → h'.get? a = some o := fun a o h1 h2 e => (N' (a, o) (.tail _ (mem_rest2.mpr ⟨⟨h1, e⟩, h2⟩))).1
  refine St.back ⟨fun b o e => keep b o (fun q => ?_) (fun q => ?_) (H0.sub b o e), fun q hq => ?_, nd⟩
  · have := (H.xs _ (mem_mid hL)).2; subst q; rw [e] at this; cases this
  · have := (H0.xs _ (.head _)).2; subst q; rw [e] at this; cases this
  · rcases List.mem_cons.mp hq with rfl | hq
    · exact ⟨⟨o', (N' _ (.head _)).1, hp⟩, (H0.xs _ (.head _)).2⟩
    · by_cases hqL : q.1 = L
      · have e := H0.same (.tail _ hq) (.tail _ hL) hqL
        subst e
        exact ⟨nsP_of F'.ns, (H0.xs _ (.tail _ hq)).2⟩
      · obtain ⟨⟨o, e, p⟩, n⟩ := H0.xs q (.tail _ hq)
        exact ⟨⟨o, keep _ o hqL (fun z => nd'.1 (by have := List.mem_map_of_mem (f := (·.1)) hq; rw [z] at this; exact this)) e, p⟩, n⟩
end

section
variable {prog : Program} {w : World} {A : Around} {E : Value → Shared → Prop} {s₀ s : Shared} {B : Heap} {X Y pre post : Led} {env : Env} {K : Frag} {mg mb : Str → Option Value} {x dx C L : Addr} {m : Str → Option Value} {kvs : List (Str × Value)} {name : Str}

theorem inst_at {h : Heap} {es : List DictEntry} {n : Nat} (hx : h.get? x = some (instObj C dx)) (hd : h.get? dx = some (dictOf es n)) : InstAt h x (instObj C dx) C (some (dictOf es n)) := ⟨hx, rfl, rfl, hd⟩

/-- x.name, in x's own dict -/
theorem get_own1 {v : Value} {expr : Bool} {Q : Value → Shared → Prop} (hG : G K mg mb B) (hW : W s₀ B X s) (hx : B.get? x = some (instObj C dx)) (hm : (dx, DoP w kvs) ∈ X) (hl : getK name kvs = some v) (hv : handedIn v = true)
    (hg : plainGet K C name = true) (hh : hasDictIn K C = true) (ha : findIn K (.ref C) name = some none) (h : ∀ s', W s₀ B X s' → Q v s') : wpAny (model prog w) A (getAttr (.ref x) name expr) Q E s := by
  obtain ⟨o, ho, es, n, rfl, f⟩ := hW.st.at hm
  exact get_value (hG.kin.keeps hW.st.sub) (inst_at (hW.st.sub _ _ hx) ho) (plainGet_of hg).1 (findObj_own hh ha rfl (by rw [lookIn_dict, getL_of name f, hl])) hv (h _ (hW.tok _))
/-- x.name = v, in x's own dict -/
theorem set_own1 {v : Value} {Q : Unit → Shared → Prop} (pre : Led) (hG : G K mg mb B) (hW : W s₀ B (pre ++ (dx, DoP w kvs) :: post) s) (hL : (L, NsP m) ∈ pre ++ post) (hx : B.get? x = some (instObj C dx))
    (hs : findIn K (.ref C) "__setattr__" = some (some (.builtin "object.__setattr__"))) (hp : plainOver K C = true) (ht : takerIn K C name = some none) (hh : hasDictIn K C = true) (hz : (putK name v kvs).length ≤ 1000)
    (h : ∀ s', W s₀ B (pre ++ (dx, DoP w (putK name v kvs)) :: post) s' → Q () s') : wpAny (model prog w) A (setAttr (.ref x) name v) Q E s := by
  obtain ⟨o, ho, es, n, rfl, f⟩ := hW.st.at (a := dx) (P := DoP w kvs) (by simp)
  have I := inst_at (hW.st.sub _ _ hx) ho
  have X₀ := hG.kin.keeps hW.st.sub
  have f' := putL_of (w := w) name v (s.toks + 1) f
  obtain ⟨F, N, h2⟩ := hW.st.open1 hL ho
  refine set_plain X₀ I hs (osa_dict (s := { s with toks := s.toks + 1 }) (pre := []) F N X₀ I rfl hp ht hh ?_ (fun _ h => nomatch h) h2 (putName_dict _ _ _ _ _ _) rfl (by rw [f'.length]; exact hz) fun h' F' N' => ?_)
  · rw [lookIn_dict, getL_of name f]; rfl
  · exact h _ (hW.to (hW.st.close1 hL F' N' ⟨_, _, rfl, f'⟩))

/-! slots -/
def NiP (C da : Addr) (sl : Array (Option Value)) : As := fun o => o = ⟨.ref C, some da, .plain, sl⟩
theorem get_slot1 {p i : Nat} {v : Value} {sl : Array (Option Value)} {expr : Bool} {Q : Value → Shared → Prop} {ob : Obj} {da : Addr} (hG : G K mg mb B) (hW : W s₀ B X s) (hx : s.heap.get? x = some ⟨.ref C, some da, .plain, sl⟩) (hd : B.get? da = some ob)
    (hg : plainGet K C name = true) (hc : (clsIn K C).isSome = true) (ha : findIn K (.ref C) name = some (some (.ref p))) (hn : specialIn K (.ref p) "__get__" = some (some (.builtin "member_descriptor.__get__"))) (ht : takesIn K (.ref p) = some true)
    (hp : slotIn K p C = some i) (hv : (sl[i]?).join = some v) (hh : handedIn v = true) (h : ∀ s', W s₀ B X s' → Q v s') : wpAny (model prog w) A (getAttr (.ref x) name expr) Q E s := by
  have X₀ := hG.kin.keeps hW.st.sub
  have I : InstAt s.heap x ⟨.ref C, some da, .plain, sl⟩ C (some ob) := ⟨hx, rfl, rfl, hW.st.sub _ _ hd⟩
  refine get_bind X₀ I (plainGet_of hg).1 (findObj_data hc ha hn ht) (plainGet_of hg).2 (wpAny_call (slot_get (s := { s with toks := s.toks + 1 }) X₀ I hp hv ?_))
  show wpAny _ _ (handedOut v) _ _ _
  rw [handedOut_of hh]; exact wpAny_pure (h _ (hW.tok _))
theorem set_slot1 {p i : Nat} {v : Value} {sl : Array (Option Value)} {P P' : As} {Q : Unit → Shared → Prop} {ob : Obj} {da : Addr} (pre : Led) (hG : G K mg mb B) (hW : W s₀ B (pre ++ (x, P) :: post) s) (hL : (L, NsP m) ∈ pre ++ post)
    (hx : s.heap.get? x = some ⟨.ref C, some da, .plain, sl⟩) (hd : B.get? da = some ob)
    (hs : findIn K (.ref C) "__setattr__" = some (some (.builtin "object.__setattr__"))) (hp : plainOver K C = true) (ht : takerIn K C name = some (some (.ref p))) (hT : typeIn K (.ref p) = some (.type "member_descriptor"))
    (hi : slotIn K p C = some i) (hi' : i < 1000) (hP : P' ⟨.ref C, some da, .plain, (sl ++ Array.replicate (i + 1 - sl.size) none).setIfInBounds i (some v)⟩)
    (h : ∀ s', W s₀ B (pre ++ (x, P') :: post) s' → Q () s') : wpAny (model prog w) A (setAttr (.ref x) name v) Q E s := by
  have X₀ := hG.kin.keeps hW.st.sub
  have I : InstAt s.heap x ⟨.ref C, some da, .plain, sl⟩ C (some ob) := ⟨hx, rfl, rfl, hW.st.sub _ _ hd⟩
  obtain ⟨F, N, h2⟩ := hW.st.open1 hL hx
  refine set_plain X₀ I hs (osa_descr (s := { s with toks := s.toks + 1 }) KF.slot_mset X₀ I hp ht hT (slot_set (s := { s with toks := s.toks + 1 }) (pre := []) F N X₀ I hi hi' (fun _ h => nomatch h) h2 rfl rfl fun h' F' N' => ?_))
  exact h _ (hW.to (hW.st.close1 hL F' N' hP))

/-! expressions -/
theorem ev_attr {o : Expr} {attr : Str} {pos : Pos} {Q : Value → Shared → Prop} (h : wpAny (model prog w) A (eval o env) (fun ov s₁ => wpAny (model prog w) A (getAttr ov attr true) Q E s₁) E s)
    (hbase : attributeBase o attr env (eval o env) = eval o env := by rfl) : wpAny (model prog w) A (eval (.Attribute o attr pos) env) Q E s := by
  rw [arm_eval_Attribute, hbase]
  refine wpAny_bind (wpAny_mono h (fun o s₁ h₁ => wpAny_bind (wpAny_standAt (wpAny_bind (wpAny_holding (wpAny_mono h₁ (fun r s₂ h₂ => ?_) fun _ _ x => x))))) fun _ _ x => x)
  exact wpAny_bind (wpAny_letTemporaryGo (wpAny_pure h₂))
theorem ev_sub {o i : Expr} {pos : Pos} {T id : String} {Q : Value → Shared → Prop} (hl : typeLookup (.type T) "__getitem__" = pure (some (.builtin id)))
    (h : wpAny (model prog w) A (eval o env) (fun ov s₁ => wpAny (model prog w) A (eval i env) (fun iv s₂ => s₂.TypeIs ov T ∧ wpAny (model prog w) A (getItem ov iv) Q E s₂) E s₁) E s)
    (hs : ∀ ov iv, subscripted i false ov iv = operate [ov, iv] (getItem ov iv) := by intro _ _; rfl) :
    wpAny (model prog w) A (eval (.Subscript o i pos) env) Q E s := by
  rw [arm_eval_Subscript]
  refine wpAny_bind (wpAny_mono h (fun ov s₁ h₁ => wpAny_bind (wpAny_holding (wpAny_mono h₁ (fun iv s₂ h₂ => wpAny_bind (wpAny_standAt ?_)) fun _ _ x => x))) fun _ _ x => x)
  obtain ⟨hT, hg⟩ := h₂
  refine wpAny_bind ?_
  rw [getitemInPython_of_ne hT.not_modules]
  refine wpAny_bind (wpAny_specialOf hT hl ?_)
  have fin : wpAny (model prog w) A (operate [ov, iv] (getItem ov iv)) (fun r s₃ => wpAny (model prog w) A (letTemporaryGo o ov r >>= fun _ => pure r) Q E s₃) E s₂ :=
    wpAny_operating (wpAny_mono hg (fun r s₃ h₃ => wpAny_bind (wpAny_letTemporaryGo (wpAny_pure h₃))) fun _ _ x => x)
  rw [← hs] at fin
  first
    | exact wpAny_pure (wpAny_bind fin)
    | exact wpAny_bind (wpAny_pure (wpAny_bind fin))
    | exact wpAny_bind fin
theorem as_attr {o : Expr} {attr : Str} {pos : Pos} {v : Value} {Q : Unit → Shared → Prop} (h : wpAny (model prog w) A (eval o env) (fun ov s₁ => wpAny (model prog w) A (setAttr ov attr v) Q E s₁) E s) : wpAny (model prog w) A (assign (.Attribute o attr pos) env v) Q E s := by
  rw [arm_assign_Attribute]
  exact wpAny_bind (wpAny_holding (wpAny_mono h (fun ov s₁ h₁ => wpAny_bind (wpAny_standAt (wpAny_bind (wpAny_holding (wpAny_mono h₁ (fun _ s₂ h₂ => wpAny_release h₂) fun _ _ x => x))))) fun _ _ x => x))
theorem as_sub {o i : Expr} {pos : Pos} {v : Value} {Q : Unit → Shared → Prop} (h : wpAny (model prog w) A (eval o env) (fun ov s₁ => wpAny (model prog w) A (eval i env) (fun iv s₂ => wpAny (model prog w) A (setItem ov iv v) Q E s₂) E s₁) E s) : wpAny (model prog w) A (assign (.Subscript o i pos) env v) Q E s := by
  rw [arm_assign_Subscript]
  exact wpAny_bind (wpAny_holding (wpAny_mono h (fun ov s₁ h₁ => wpAny_bind (wpAny_holding (wpAny_mono h₁ (fun iv s₂ h₂ => wpAny_bind (wpAny_standAt (wpAny_bind (wpAny_holding (wpAny_mono h₂ (fun _ s₃ h₃ => wpAny_release h₃) fun _ _ x => x))))) fun _ _ x => x))) fun _ _ x => x))

/-- x.name(args), a method of x's class -/
theorem call_meth {f : Addr} {o : Expr} {apos pos : Pos} {args : List Expr} {Q : Value → Shared → Prop} (hG : G K mg mb B) (hW : W s₀ B X s) (ho : Ev ⟨prog, w, A, env, s₀, B, X⟩ o (· = .ref x)) (hx : B.get? x = some (instObj C dx)) (hm : (dx, DoP w kvs) ∈ X)
    (hl : getK name kvs = none) (hg : plainGet K C name = true) (hf : findIn K (.ref C) name = some (some (.ref f))) (ht : isFn K (.ref f) = true)
    (h : ∀ s₁, W s₀ B X s₁ → wpAny (model prog w) A (callWith pos (.ref f) [.ref x] (backTo pos (starEach args env)) []) Q E s₁)
    (hbase : attributeBase o name env (eval o env) = eval o env := by rfl)
    (hform : methodCallForm (args.length + ([] : List Keyword).length) (backTo pos (starEach args env)) (backToKw pos (keywordEach [] env)) = true := by rfl)
    (hline : (apos.endLine == pos.line) = true := by rfl) :
    wpAny (model prog w) A (eval (.Call (.Attribute o name apos) args [] pos) env) Q E s := by
  rw [arm_eval_Call, hbase]
  refine wpAny_bind (ho s _ _ hW fun s₁ ov e W1 => wpAny_bind (wpAny_standAt ?_))
  subst e
  unfold methodCall calleeOf methodCallPos
  simp only [hform, hline, if_true, Bool.not_true, Bool.or_true]
  obtain ⟨od, hod, es, n, rfl, fe⟩ := W1.st.at hm
  refine wpAny_bind (wpAny_holding (method_fn (hG.kin.keeps W1.st.sub) (inst_at (W1.st.sub _ _ hx) hod) (plainGet_of hg).1 (plainGet_of hg).2 hf (beq_iff_eq.mp ht) ?_ ?_))
  · show (lookIn name (dictOf es n)).map _ = _
    rw [lookIn_dict, getL_of name fe, hl]; rfl
  · exact wpAny_bind (wpAny_pure (h s₁ W1))
theorem cw_fn0 {f : Addr} {first : List Value} {pos : Pos} {Q : Value → Shared → Prop} (hG : G K mg mb B) (hW : W s₀ B X s) (hk : keepIn K (.ref f) = true) (h : wpAny (model prog w) A (call (.ref f) (first ++ [])) Q E s) :
    wpAny (model prog w) A (callWith pos (.ref f) first (backTo pos (starEach [] env)) []) Q E s := callWith_K0 (hG.kin.keeps hW.st.sub) hk h
theorem cw_fn {f : Addr} {first : List Value} {pos : Pos} {e : Expr} {rest : List Expr} {Q : Value → Shared → Prop} (hG : G K mg mb B) (hk : keepIn K (.ref f) = true)
    (h : wpAny (model prog w) A (spliced (backTo pos (starEach (e :: rest) env))) (fun vs s₁ => (∃ B' X', Sub B B' ∧ W s₀ B' X' s₁) ∧ wpAny (model prog w) A (call (.ref f) (first ++ vs)) Q E s₁) E s)
    (he : starEach (e :: rest) env = (false, eval e env) :: starEach rest env := by rfl) (hplain : (backTo pos (starEach rest env)).any (·.1) = false := by rfl) :
    wpAny (model prog w) A (callWith pos (.ref f) first (backTo pos (starEach (e :: rest) env)) []) Q E s :=
  callWith_K hG.kin hk (wpAny_mono h (fun vs s₁ ⟨⟨B', X', hs, W1⟩, k⟩ => ⟨(hG.kin.keeps hs).keeps W1.st.sub, k⟩) fun _ _ x => x) he hplain

/-- a call of a def, as code -/
theorem code_fn {fd : FuncData} {body : List Stmt} {oc : Value} {od : Option Addr} {osl : Array (Option Value)} {f : Addr} {args : List Value} {binds : List (Str × Value)} {R : Result → Shared → Prop}
    (hG : G K mg mb B) (hW : W s₀ B X s) (ho : K.lookup f = some ⟨oc, od, .func fd, osl⟩) (hcd : codeIn K fd.code fd.qualname = true) (hbody : fd.body = .stmts body) (hroom : A.depth < recursionLimit)
    (hbind : BindsTo s fd ⟨args, []⟩ binds) (hcell : ∀ x ∈ fd.scope.names, x.2 ≠ .cell) (hloc : ∀ x ∈ binds, fd.scope.names.lookup x.1 = some .local)
    (hco : fd.scope.isCoroutine = false) (hgen : fd.scope.isGenerator = false) (hk : fd.scope.kind = .function)
    (h : ∀ L s', W s₀ B ((L, NsP fun x => binds.reverse.lookup x) :: X) s' → wpAny (model prog w) (A.deeper (callEnv fd L f)) (execs body (callEnv fd L f)) (fun fl s'' => R (.ok (.ret (match fl with | .ret v => v | _ => .none))) s'') NoE s') :
    codeAny (model prog w) A (.call (.ref f) ⟨args, []⟩) R s := by
  refine codeAny_call_def hroom (hW.st.sub _ _ (hG.kin _ _ ho)) rfl (hG.lim.keeps hW.st.sub) (codeRec_of (hG.kin.keeps hW.st.sub) hcd) hbody hbind hcell hloc (fun h₁ hns hk₁ => ?_) hco hgen hk
  exact wpAny_mono (h s.heap.objs.size _ (hW.to (hW.st.add hk₁ (get_size _) (nsP_of hns) hW.st.notin))) (fun fl s'' hq => hq) fun _ _ f => f.elim

/-- C(args): a new object, then its __init__ -/
theorem make1 {rest : List Value} {fI : Addr} {Q : Value → Shared → Prop} (hG : G K mg mb B) (hW : W s₀ B X s) (hm : makesIn K C = true) (hi : findIn K (.ref C) "__init__" = some (some (.ref fI))) (hf : typeIn K (.ref fI) = some (.type "function"))
    (h : ∀ x dx s', W s₀ B ((x, ObjP (instObj C dx)) :: (dx, ObjP emptyDict) :: X) s' →
      codeAny (model prog w) (A.under (.builtin "type.__call__" ⟨.ref C :: rest, []⟩)) (.call (.ref fI) ⟨.ref x :: rest, []⟩) (InitBack x (fun r s' => match r with | .ok (.ret v) => Q v s' | .ok _ => False | .error e => E e s')) s') :
    wpAny (model prog w) A (call (.ref C) rest) Q E s := by
  have X₀ := hG.kin.keeps hW.st.sub
  have W1 := hW.to (tk := s.toks) (hW.st.new (o := emptyDict) rfl (P := ObjP emptyDict) rfl)
  have W2 := W1.to (tk := s.toks) (W1.st.new (o := instObj C s.heap.objs.size) rfl (P := ObjP (instObj C s.heap.objs.size)) rfl)
  have es : (s.heap.push emptyDict).objs.size = s.heap.objs.size + 1 := Heap.size_push ..
  simp only [es] at W2
  refine wpAny_call ?_
  obtain ⟨hh, g, d, t, os⟩ := s
  exact make_core (makes_of X₀ hm) (looks_findIn X₀ hi) (fun self => bind_fn X₀ self hf) (.inl rfl) (h _ _ _ W2)
end
end Mine

end

section
open PySem PySem.W PyProof.Rows PySem.SeqAt
set_option Elab.async false
set_option linter.unusedVariables false
set_option maxRecDepth 100000
set_option maxHeartbeats 4000000
namespace Mine

/-! dicts with int keys -/
def DcP (prog : Program) (w : World) (kvs : List (Int × Value)) : As := fun o => ∃ es ep, o.ExactDict ∧ o.data = .dict es ep ∧ KeysOf (intKind prog w) es ∧ Pairs (intKind prog w) es.toList kvs ∧ (kvs.map (·.1)).Nodup
theorem isKey {prog : Program} {w : World} {t : Int} {v : Value} (h : IsI t v) : (intKind prog w).is t v = true := by
  obtain ⟨k, rfl⟩ := h; show Value.isInt t (.int t k) = true; simp [Value.isInt]

section
variable {prog : Program} {w : World} {A : Around} {E : Value → Shared → Prop} {s₀ s : Shared} {B : Heap} {X Y pre post : Led} {env : Env} {K : Frag} {mg mb : Str → Option Value} {x dx C L d : Addr} {m : Str → Option Value} {kvs : List (Int × Value)} {name : Str}
theorem dc_at {h : Heap} (H : St B X h) (hm : (d, DcP prog w kvs) ∈ X) : h.DictOf (intKind prog w) d kvs := let ⟨o, ho, es, ep, r⟩ := H.at hm; ⟨o, es, ep, ho, r⟩
theorem dc_of {h : Heap} (x : h.DictOf (intKind prog w) d kvs) : ∃ o, h.get? d = some o ∧ DcP prog w kvs o := let ⟨o, es, ep, ho, r⟩ := x; ⟨o, ho, es, ep, r⟩

theorem ev_dict0 {pos : Pos} {Q : Value → Shared → Prop} (hG : G K mg mb B) (hW : W s₀ B X s) (h : ∀ D s', (D == sysModules) = false → W s₀ B ((D, DcP prog w []) :: X) s' → Q (.ref D) s') : wpAny (model prog w) A (eval (.Dict [] [] pos) env) Q E s := by
  refine wpAny_Dict_empty (h _ _ ?_ (hW.to (tk := s.toks) (hW.st.addAt (sub_push _ _) (Nat.le_refl _) (dc_of (Heap.DictOf.new s.heap)))))
  obtain ⟨o, es, ep, ho, _⟩ := hG.g
  have := Heap.lt_size (hW.st.sub _ _ ho)
  rw [beq_eq_false_iff_ne]
  intro q
  have h1 : (mainGlobals : Nat) = 3 := rfl
  have h2 : (sysModules : Nat) = 1 := rfl
  rw [q] at this
  exact absurd this (by decide)

theorem set_key {t : Int} {k v : Value} {Q : Unit → Shared → Prop} (pre : Led) (hW : W s₀ B (pre ++ (d, DcP prog w kvs) :: post) s) (hk : IsI t k) (hz : kvs.length ≤ 1000)
    (h : ∀ s', W s₀ B (pre ++ (d, DcP prog w (stored kvs t v)) :: post) s' → Q () s') : wpAny (model prog w) A (setItem (.ref d) k v) Q E s :=
  wpAny_setItem_pairs (knd := intKind prog w) (isKey hk) (dc_at hW.st (by simp)) (fun h' hm hs => h _ (hW.to (hW.st.upd pre hs (dc_of hm)))) (by rw [sizeLine_eq]; omega)
end

section
variable {c : Cx}
theorem Ev.own {K : Frag} {mg mb : Str → Option Value} {x dx C : Addr} {kvs : List (Str × Value)} {name : Str} {v : Value} {o : Expr} {pos : Pos} (hG : G K mg mb c.B) (ho : Ev c o (· = .ref x)) (hx : c.B.get? x = some (instObj C dx)) (hm : (dx, DoP c.w kvs) ∈ c.X) (hl : getK name kvs = some v)
    (hv : handedIn v = true := by rfl) (hg : plainGet K C name = true := by kernel_rfl) (hh : hasDictIn K C = true := by kernel_rfl) (ha : findIn K (.ref C) name = some none := by kernel_rfl)
    (hbase : attributeBase o name c.env (eval o c.env) = eval o c.env := by rfl) : Ev c (.Attribute o name pos) (· = v) := fun s Q E hW h =>
  ev_attr (ho s _ _ hW fun s1 v1 e W1 => by subst e; exact get_own1 hG W1 hx hm hl hv hg hh ha fun s2 W2 => h s2 v rfl W2) hbase
theorem Ev.dget {d : Addr} {kvs : List (Int × Value)} {t : Int} {o e : Expr} {apos pos : Pos} (ho : Ev c o (· = .ref d)) (he : Ev c e (IsI t)) (hm : (d, DcP c.prog c.w kvs) ∈ c.X) (hd : (d == sysModules) = false)
    (hbase : attributeBase o "get" c.env (eval o c.env) = eval o c.env := by rfl) (hline : (apos.endLine == pos.line) = true := by rfl) (htrees : backTo pos (starEach [e] c.env) = [(false, eval e c.env)] := by rfl) :
    Ev c (.Call (.Attribute o "get" apos) [e] [] pos) (· = (valueAt kvs t).getD .none) := fun s Q E hW h => by
  refine wpAny_Call_method1_late hbase hline htrees (ho s _ _ hW fun s1 v1 e1 W1 => ?_)
  subst e1
  have D := dc_at W1.st hm
  refine ⟨"dict", "dict.get", F.plainAttrs_dict, F.slot_dict_get, F.type_dict_get, D.typeIs, D.mapOf.noDict, ?_⟩
  refine wpAny_dict_get1 (knd := intKind c.prog c.w) hd (he s1 _ _ W1 fun s2 v2 e2 W2 => ⟨t, _, isKey e2, (dc_at W2.st hm).mapOf, h _ _ rfl (W2.tok _)⟩)
theorem Ev.ditem {d : Addr} {kvs : List (Int × Value)} {t : Int} {v : Value} {o e : Expr} {pos : Pos} (ho : Ev c o (· = .ref d)) (he : Ev c e (IsI t)) (hm : (d, DcP c.prog c.w kvs) ∈ c.X) (hv : valueAt kvs t = some v)
    (hs : ∀ ov iv, subscripted e false ov iv = operate [ov, iv] (getItem ov iv) := by intro _ _; rfl) :
    Ev c (.Subscript o e pos) (· = v) := fun s Q E hW h => by
  refine ev_sub (T := "dict") slot_dict_getitem.lookup (ho s _ _ hW fun s1 v1 e1 W1 => ?_) hs
  subst e1
  refine he s1 _ _ W1 fun s2 v2 e2 W2 => ⟨(dc_at W2.st hm).typeIs, ?_⟩
  exact wpAny_getItem_of (knd := intKind c.prog c.w) (isKey e2) (dc_at W2.st hm).mapOf hv (h _ _ rfl (W2.tok _))
theorem EvT.isNone {l : Expr} {v : Value} {k : Nat} {p pos : Pos} (hl : Ev c l (· = v)) : EvT c (.Compare l [.Is] [.Constant .none k p] pos) (v == .none) :=
  Ev.cmp (P' := (· = .none)) hl (fun s Q E hW h => wpAny_Constant_none (h s _ rfl hW)) (fun s Q E a b e1 e2 hW k => by subst e1 e2; exact is_none_gen (k s hW))
theorem EvT.isNotNone {l : Expr} {v : Value} {k : Nat} {p pos : Pos} (hl : Ev c l (· = v)) (hp : plainIs v .none = true := by rfl) : EvT c (.Compare l [.IsNot] [.Constant .none k p] pos) (!(v == .none)) :=
  Ev.cmp (P' := (· = .none)) hl (fun s Q E hW h => wpAny_Constant_none (h s _ rfl hW)) (fun s Q E a b e1 e2 hW k => by subst e1 e2; exact wpAny_isNot_plain hp (k s hW))
end

/-! the sorter's objects -/
def NdP (t np : Int) (sa da : Addr) : As := fun o => ∃ k1 k2, o = ⟨.ref 40, some da, .plain, #[some (.int t k1), some (.int np k2), some (.ref sa)]⟩
def SsP (ss : List Int) : As := fun o => ∃ vs, LsP vs o ∧ F2 (RInt emptyH) vs ss
structure Nd where
  t : Int
  np : Int
  ss : List Int
  ia : Addr
  da : Addr
  sa : Addr
def ndLed (l : List Nd) : Led := l.flatMap fun d => [(d.ia, NdP d.t d.np d.sa d.da), (d.sa, SsP d.ss)]
def prs (l : List Nd) : List (Int × Value) := l.map fun d => (d.t, .ref d.ia)
def DaOk (B : Heap) (l : List Nd) : Prop := ∀ d ∈ l, B.get? d.da = some emptyDict
abbrev soK (n2 rd po nf : Value) : List (Str × Value) := [(Str.ofString "_node2info", n2), (Str.ofString "_ready_nodes", rd), (Str.ofString "_npassedout", po), (Str.ofString "_nfinished", nf)]

section
variable {prog : Program} {w : World} {A : Around} {E : Value → Shared → Prop} {s₀ s : Shared} {B : Heap} {X Y pre post : Led} {env : Env} {mg mb : Str → Option Value} {x dx C L d : Addr} {m : Str → Option Value}

/-- a call of a def that takes *rest -/
theorem call_fnV {K : Frag} {fd : FuncData} {body : List Stmt} {oc : Value} {od : Option Addr} {osl : Array (Option Value)} {f : Addr} {args vs : List Value} {binds : Value → List (Str × Value)} {Q : Value → Shared → Prop}
    (hG : G K mg mb B) (hW : W s₀ B X s) (ho : K.lookup f = some ⟨oc, od, .func fd, osl⟩) (hcd : codeIn K fd.code fd.qualname = true) (hbody : fd.body = .stmts body) (hroom : A.depth < recursionLimit)
    (hbind : bindArgs fd ⟨args, []⟩ = (newTuple vs >>= fun T => pure (binds T))) (hz : vs.length ≤ 1000) (hcell : ∀ x ∈ fd.scope.names, x.2 ≠ .cell) (hloc : ∀ T, ∀ x ∈ binds T, fd.scope.names.lookup x.1 = some .local)
    (hco : fd.scope.isCoroutine = false) (hgen : fd.scope.isGenerator = false) (hk : fd.scope.kind = .function)
    (h : ∀ B' L T s', Sub B B' → B'.IsTuple T vs.toArray → W s₀ B' ((L, NsP fun x => (binds (.ref T)).reverse.lookup x) :: X) s' →
      wpAny (model prog w) (A.deeper (callEnv fd L f)) (execs body (callEnv fd L f)) (fun fl s'' => Q (match fl with | .ret v => v | _ => .none) s'') NoE s') :
    wpAny (model prog w) A (call (.ref f) args) Q E s := by
  refine wpAny_call (codeAny_call_function hroom (hW.st.sub _ _ (hG.kin _ _ ho)) rfl hco hgen hbody (codeRec_of (hG.kin.keeps hW.st.sub) hcd) ?_)
  rw [hbind]
  refine wpAny_bind (wpAny_newObj_type (wpAny_pure ?_) (by unfold sizeOk; simp [sizeLine_eq]; omega))
  have W1 := hW.to (tk := s.toks) (hW.st.new (o := { cls := .type "tuple", data := .seq vs.toArray }) rfl (P := ObjP { cls := .type "tuple", data := .seq vs.toArray }) rfl)
  obtain ⟨B1, oT, hs1, hoT, pT, H1⟩ := W1.st.freeze
  have hT : B1.IsTuple s.heap.objs.size vs.toArray := ⟨oT, hoT, by rw [pT], _, by rw [pT]⟩
  have W2 : W s₀ B1 X { s with heap := s.heap.push { cls := .type "tuple", data := .seq vs.toArray } } := W1.re H1
  generalize hs2 : ({ s with heap := s.heap.push { cls := .type "tuple", data := .seq vs.toArray } } : Shared) = s2 at W2
  refine wpAny_newFunctionEnv hcell (hloc _) (fun h₁ hns hsb => ⟨((hG.lim.keeps hs1).keeps W2.st.sub).fresh _ hsb, codeAny_func ?_⟩) hk
  have hk₁ : Sub s2.heap h₁ := fun b o e => hsb.extBut b o (Nat.ne_of_lt (Heap.lt_size e)) (Heap.get?_push_of_some _ e)
  refine wpAny_mono (h B1 s2.heap.objs.size s.heap.objs.size _ hs1 hT (W2.to (W2.st.add hk₁ (get_size _) (nsP_of hns) W2.st.notin))) (fun fl s'' hq => ?_) fun _ _ f => f.elim
  cases fl <;> exact hq
end
end Mine

end

section
open PySem PySem.W PyProof.Rows PySem.SeqAt
set_option Elab.async false
set_option linter.unusedVariables false
set_option maxRecDepth 100000
set_option maxHeartbeats 4000000
namespace Mine

abbrev SX (prog : Program) (w : World) (n2 dx : Addr) (rd po nf : Value) (l : List Nd) (Y : Led) : Led := (n2, DcP prog w (prs l)) :: (dx, DoP w (soK (.ref n2) rd po nf)) :: (ndLed l ++ Y)

theorem ndLed_app (l l' : List Nd) : ndLed (l ++ l') = ndLed l ++ ndLed l' := by simp [ndLed]
theorem ndLed_cons (d : Nd) (l : List Nd) : ndLed (d :: l) = (d.ia, NdP d.t d.np d.sa d.da) :: (d.sa, SsP d.ss) :: ndLed l := by simp [ndLed]
theorem W.perm {s₀ s : Shared} {B : Heap} {X Y : Led} (h : W s₀ B X s) (p : X.Perm Y) : W s₀ B Y s := h.re (h.st.perm p)
theorem W.ex {α : Type} {s₀ s : Shared} {B : Heap} {pre post : Led} {d : Addr} {R : α → Prop} {P : α → As} (pre : Led) (h : W s₀ B (pre ++ (d, fun o => ∃ v, R v ∧ P v o) :: post) s) : ∃ v, R v ∧ W s₀ B (pre ++ (d, P v) :: post) s := by
  obtain ⟨o, ho, v, r, p⟩ := h.st.at (a := d) (P := fun o => ∃ v, R v ∧ P v o) (by simp)
  refine ⟨v, r, h.re (St.back ?_)⟩
  have H := h.st.front
  refine ⟨H.sub, fun q hq => ?_, by simpa using H.nd⟩
  rcases List.mem_cons.mp hq with rfl | hq
  · exact ⟨⟨o, ho, p⟩, (H.xs _ (.head _)).2⟩
  · exact H.xs q (.tail _ hq)
theorem mem_nd {l : List Nd} {d : Nd} (h : d ∈ l) : (d.ia, NdP d.t d.np d.sa d.da) ∈ ndLed l ∧ (d.sa, SsP d.ss) ∈ ndLed l := by
  obtain ⟨l1, l2, rfl⟩ := List.append_of_mem h
  rw [ndLed_app, ndLed_cons]
  exact ⟨by simp, by simp⟩

section
variable {c : Cx} {mg mb : Str → Option Value} {t np : Int} {sa da i : Addr} {o : Expr} {pos : Pos}
theorem Ev.slot {P : As} {name : Str} {p j : Nat} {R : Value → Prop} (hG : G (KF c.w) mg mb c.B) (ho : Ev c o (· = .ref i)) (hm : (i, P) ∈ c.X) (hd : c.B.get? da = some emptyDict)
    (hP : ∀ ob, P ob → ∃ sl v, ob = ⟨.ref 40, some da, .plain, sl⟩ ∧ (sl[j]?).join = some v ∧ handedIn v = true ∧ R v)
    (hg : plainGet (KF c.w) 40 name = true) (ha : findIn (KF c.w) (.ref 40) name = some (some (.ref p))) (hn : specialIn (KF c.w) (.ref p) "__get__" = some (some (.builtin "member_descriptor.__get__"))) (ht : takesIn (KF c.w) (.ref p) = some true)
    (hp : slotIn (KF c.w) p 40 = some j) (hbase : attributeBase o name c.env (eval o c.env) = eval o c.env := by rfl) : Ev c (.Attribute o name pos) R := fun s Q E hW h =>
  ev_attr (ho s _ _ hW fun s1 v1 e W1 => by
    subst e
    obtain ⟨ob, hob, pob⟩ := W1.st.at hm
    obtain ⟨sl, v, rfl, h1, h2, h3⟩ := hP ob pob
    exact get_slot1 hG W1 hob hd hg (by kernel_rfl) ha hn ht hp h1 h2 fun s2 W2 => h s2 v h3 W2) hbase
theorem Ev.node (hG : G (KF c.w) mg mb c.B) (ho : Ev c o (· = .ref i)) (hm : (i, NdP t np sa da) ∈ c.X) (hd : c.B.get? da = some emptyDict) (hbase : attributeBase o "node" c.env (eval o c.env) = eval o c.env := by rfl) : Ev c (.Attribute o "node" pos) (IsI t) :=
  Ev.slot (p := 41) (j := 0) hG ho hm hd (fun ob ⟨k1, k2, e⟩ => ⟨_, .int t k1, e, rfl, rfl, k1, rfl⟩) (by kernel_rfl) (by kernel_rfl) (by kernel_rfl) (by kernel_rfl) (by kernel_rfl) hbase
theorem Ev.preds (hG : G (KF c.w) mg mb c.B) (ho : Ev c o (· = .ref i)) (hm : (i, NdP t np sa da) ∈ c.X) (hd : c.B.get? da = some emptyDict) (hbase : attributeBase o "npredecessors" c.env (eval o c.env) = eval o c.env := by rfl) : Ev c (.Attribute o "npredecessors" pos) (IsI np) :=
  Ev.slot (p := 42) (j := 1) hG ho hm hd (fun ob ⟨k1, k2, e⟩ => ⟨_, .int np k2, e, rfl, rfl, k2, rfl⟩) (by kernel_rfl) (by kernel_rfl) (by kernel_rfl) (by kernel_rfl) (by kernel_rfl) hbase
theorem Ev.succ (hG : G (KF c.w) mg mb c.B) (ho : Ev c o (· = .ref i)) (hm : (i, NdP t np sa da) ∈ c.X) (hd : c.B.get? da = some emptyDict) (hbase : attributeBase o "successors" c.env (eval o c.env) = eval o c.env := by rfl) : Ev c (.Attribute o "successors" pos) (· = .ref sa) :=
  Ev.slot (p := 43) (j := 2) hG ho hm hd (fun ob ⟨k1, k2, e⟩ => ⟨_, .ref sa, e, rfl, rfl, rfl⟩) (by kernel_rfl) (by kernel_rfl) (by kernel_rfl) (by kernel_rfl) (by kernel_rfl) hbase
end

section
variable {prog : Program} {w : World} {A : Around} {E : Value → Shared → Prop} {s₀ s : Shared} {B : Heap} {X Y Z pre post : Led} {env : Env} {mg mb : Str → Option Value} {x dx n2 C L d : Addr} {m : Str → Option Value} {rd po nf : Value} {l l1 l2 : List Nd}

/-- info.npredecessors = v -/
theorem set_np0 {t np t' : Int} {v : Value} {sa da i : Addr} {Q : Unit → Shared → Prop} (pre : Led) (hG : G (KF w) mg mb B) (hW : W s₀ B (pre ++ (i, NdP t np sa da) :: post) s) (hL : (L, NsP m) ∈ pre ++ post) (hd : B.get? da = some emptyDict) (hv : IsI t' v)
    (h : ∀ s', W s₀ B (pre ++ (i, NdP t t' sa da) :: post) s' → Q () s') : wpAny (model prog w) A (setAttr (.ref i) "npredecessors" v) Q E s := by
  obtain ⟨ob, hob, k1, k2, rfl⟩ := hW.st.at (a := i) (P := NdP t np sa da) (by simp)
  obtain ⟨k, rfl⟩ := hv
  exact set_slot1 (p := 42) (i := 1) pre hG hW hL hob hd (by kernel_rfl) (by kernel_rfl) (by kernel_rfl) (by kernel_rfl) (by kernel_rfl) (by decide) ⟨k1, k, rfl⟩ h
theorem set_np {d : Nd} {t' : Int} {v : Value} {Q : Unit → Shared → Prop} (Z : Led) (hG : G (KF w) mg mb B) (hW : W s₀ B (Z ++ SX prog w n2 dx rd po nf (l1 ++ d :: l2) Y) s) (hL : (L, NsP m) ∈ Z ++ Y) (hd : B.get? d.da = some emptyDict) (hv : IsI t' v)
    (h : ∀ s', W s₀ B (Z ++ SX prog w n2 dx rd po nf (l1 ++ { d with np := t' } :: l2) Y) s' → Q () s') : wpAny (model prog w) A (setAttr (.ref d.ia) "npredecessors" v) Q E s := by
  have e : ∀ d' : Nd, d'.t = d.t → d'.ia = d.ia → d'.sa = d.sa → d'.ss = d.ss → d'.da = d.da → Z ++ SX prog w n2 dx rd po nf (l1 ++ d' :: l2) Y = (Z ++ (n2, DcP prog w (prs (l1 ++ d :: l2))) :: (dx, DoP w (soK (.ref n2) rd po nf)) :: ndLed l1) ++ (d.ia, NdP d.t d'.np d.sa d.da) :: ((d.sa, SsP d.ss) :: (ndLed l2 ++ Y)) := by
    intro d' e1 e2 e3 e4 e5
    have : prs (l1 ++ d' :: l2) = prs (l1 ++ d :: l2) := by simp [prs, e1, e2]
    simp [SX, this, ndLed_app, ndLed_cons, e1, e2, e3, e4, e5]
  rw [e d rfl rfl rfl rfl rfl] at hW
  refine set_np0 (L := L) (m := m) _ hG hW ?_ hd hv fun s' W' => h s' ?_
  · simp only [List.mem_append, List.mem_cons] at hL ⊢
    rcases hL with h | h
    · exact .inl (.inl h)
    · exact .inr (.inr (.inr h))
  · rw [e { d with np := t' } rfl rfl rfl rfl rfl]; exact W'

/-- _NodeInfo(v) -/
theorem mk_node {t : Int} {v : Value} {Q : Value → Shared → Prop} (hG : G (KF w) mg mb B) (hW : W s₀ B X s) (hR : Rm A 2 10) (hv : IsI t v)
    (h : ∀ B' i da sa s', Sub B B' → B'.get? da = some emptyDict → W s₀ B' ((i, NdP t 0 sa da) :: (sa, SsP []) :: X) s' → Q (.ref i) s') : wpAny (model prog w) A (call (.ref 40) [v]) Q E s := by
  obtain ⟨k, rfl⟩ := hv
  refine make1 (fI := 36) hG hW (by kernel_rfl) (by kernel_rfl) (by kernel_rfl) fun x dx s1 W1 => ?_
  refine code_fn (binds := [(Str.ofString "self", .ref x), (Str.ofString "node", .int t k)]) hG W1 (by with_unfolding_all rfl) (by with_unfolding_all rfl) (by with_unfolding_all rfl) (by show A.depth + 1 < _; have := hR.d; omega) (BindsTo.of_eq (by with_unfolding_all rfl)) (by decide) ?_ (by with_unfolding_all rfl) (by with_unfolding_all rfl) (by with_unfolding_all rfl) ?_
  · intro y hy
    simp only [List.mem_cons, List.not_mem_nil, or_false] at hy
    rcases hy with rfl | rfl <;> with_unfolding_all rfl
  intro L s2 W2
  obtain ⟨m, hms, hmn, W2⟩ : Ex3 (fun m : Str → Option Value => m (Str.ofString "self") = some (.ref x)) (fun m : Str → Option Value => m (Str.ofString "node") = some (.int t k)) (fun m : Str → Option Value => W s₀ B ((L, NsP m) :: (x, ObjP (instObj 40 dx)) :: (dx, ObjP emptyDict) :: X) s2) := ⟨_, by with_unfolding_all rfl, by with_unfolding_all rfl, W2⟩
  obtain ⟨B1, ob, hs1, hob, pob, H1⟩ := W2.st.freezeAt [(L, NsP m), (x, ObjP (instObj 40 dx))]
  rw [show ob = emptyDict from pob] at hob
  have W3 := W2.re H1
  have hG1 := hG.mono hs1
  -- self.node = node
  refine wpAny_execs_cons (plainObj_wpAny_Assign_Attribute (ev_local W3 (m := m) (by k_mem) hmn (ev_local W3 (m := m) (by k_mem) hms ?_)))
  obtain ⟨o1, ho1, p1⟩ := W3.st.at (a := x) (P := ObjP (instObj 40 dx)) (by simp)
  rw [show o1 = instObj 40 dx from p1] at ho1
  refine set_slot1 (p := 41) (i := 0) (P' := ObjP ⟨.ref 40, some dx, .plain, #[some (.int t k)]⟩) (L := L) (m := m) [(L, NsP m)] hG1 W3 (by simp) ho1 hob (by kernel_rfl) (by kernel_rfl) (by kernel_rfl) (by kernel_rfl) (by kernel_rfl) (by decide) rfl fun s4 W4 => ?_
  -- self.npredecessors = 0
  refine wpAny_execs_cons (plainObj_wpAny_Assign_Attribute (wpAny_Constant_int ?_))
  have W5 := W4.tok (s4.toks + 1)
  refine ev_local W5 (m := m) (by k_mem) hms ?_
  obtain ⟨o2, ho2, p2⟩ := W5.st.at (a := x) (P := ObjP ⟨.ref 40, some dx, .plain, #[some (.int t k)]⟩) (by simp)
  rw [show o2 = _ from p2] at ho2
  refine set_slot1 (p := 42) (i := 1) (P' := ObjP ⟨.ref 40, some dx, .plain, #[some (.int t k), some (.int 0 s4.toks)]⟩) (L := L) (m := m) [(L, NsP m)] hG1 W5 (by simp) ho2 hob (by kernel_rfl) (by kernel_rfl) (by kernel_rfl) (by kernel_rfl) (by kernel_rfl) (by decide) rfl fun s6 W6 => ?_
  -- self.successors = []
  refine wpAny_execs_cons (plainObj_wpAny_Assign_Attribute (ev_nil W6 fun sa s7 W7 => ?_))
  refine ev_local W7 (m := m) (by k_mem) hms ?_
  obtain ⟨o3, ho3, p3⟩ := W7.st.at (a := x) (P := ObjP ⟨.ref 40, some dx, .plain, #[some (.int t k), some (.int 0 s4.toks)]⟩) (by simp)
  rw [show o3 = _ from p3] at ho3
  refine set_slot1 (p := 43) (i := 2) (P' := NdP t 0 sa dx) (L := L) (m := m) [(sa, LsP []), (L, NsP m)] hG1 W7 (by simp) ho3 hob (by kernel_rfl) (by kernel_rfl) (by kernel_rfl) (by kernel_rfl) (by kernel_rfl) (by decide) ⟨k, s4.toks, rfl⟩ fun s8 W8 => ?_
  refine wpAny_execs_nil ⟨rfl, h B1 x dx sa s8 hs1 hob ?_⟩
  have W9 := W8.re (W8.st.imp [] (P' := SsP []) fun o p => ⟨[], p, .nil⟩)
  have W10 := W9.re (W9.st.dropAt (pre := [(sa, SsP [])]))
  exact W10.perm (List.Perm.swap ..)

/-- TopologicalSorter() -/
theorem mk_sorter {Q : Value → Shared → Prop} (hG : G (KF w) mg mb B) (hW : W s₀ B X s) (hR : Rm A 2 10)
    (h : ∀ B' x dx n2 po nf s', Sub B B' → B'.get? x = some (instObj 137 dx) → (n2 == sysModules) = false → IsI 0 po → IsI 0 nf → W s₀ B' (SX prog w n2 dx .none po nf [] X) s' → Q (.ref x) s') : wpAny (model prog w) A (call (.ref 137) []) Q E s := by
  refine make1 (fI := 73) hG hW (by kernel_rfl) (by kernel_rfl) (by kernel_rfl) fun x dx s1 W1 => ?_
  refine code_fn (binds := [(Str.ofString "self", .ref x), (Str.ofString "graph", .none)]) hG W1 (by with_unfolding_all rfl) (by with_unfolding_all rfl) (by with_unfolding_all rfl) (by show A.depth + 1 < _; have := hR.d; omega) (kp_binds (hG.kin.keeps W1.st.sub) (fun S => by kernel_rfl)) (by decide) ?_ (by with_unfolding_all rfl) (by with_unfolding_all rfl) (by with_unfolding_all rfl) ?_
  · intro y hy
    simp only [List.mem_cons, List.not_mem_nil, or_false] at hy
    rcases hy with rfl | rfl <;> with_unfolding_all rfl
  intro L s2 W2
  obtain ⟨m, hms, hmg, W2⟩ : Ex3 (fun m : Str → Option Value => m (Str.ofString "self") = some (.ref x)) (fun m : Str → Option Value => m (Str.ofString "graph") = some .none) (fun m : Str → Option Value => W s₀ B ((L, NsP m) :: (x, ObjP (instObj 137 dx)) :: (dx, ObjP emptyDict) :: X) s2) := ⟨_, by with_unfolding_all rfl, by with_unfolding_all rfl, W2⟩
  obtain ⟨B1, ob, hs1, hob, pob, H1⟩ := W2.st.freezeAt [(L, NsP m)]
  rw [show ob = instObj 137 dx from pob] at hob
  have W3 := W2.re (H1.imp [(L, NsP m)] (P' := DoP w []) fun o p => ⟨[], 0, p, .nil⟩)
  have hG1 := hG.mono hs1
  -- self._node2info = {}
  refine wpAny_execs_cons (plainObj_wpAny_Assign_Attribute (ev_dict0 hG1 W3 fun n2 s4 hn2 W4 => ?_))
  refine ev_local W4 (m := m) (by k_mem) hms (set_own1 (L := L) (m := m) [(n2, DcP prog w []), (L, NsP m)] hG1 W4 (by simp) hob (by kernel_rfl) (by kernel_rfl) (by kernel_rfl) (by kernel_rfl) (Nat.le_of_ble_eq_true rfl) fun s5 W5 => ?_)
  -- self._ready_nodes = None
  refine wpAny_execs_cons (plainObj_wpAny_Assign_Attribute (wpAny_Constant_none ?_))
  refine ev_local W5 (m := m) (by k_mem) hms (set_own1 (L := L) (m := m) [(n2, DcP prog w []), (L, NsP m)] hG1 W5 (by simp) hob (by kernel_rfl) (by kernel_rfl) (by kernel_rfl) (by kernel_rfl) (Nat.le_of_ble_eq_true rfl) fun s6 W6 => ?_)
  -- self._npassedout = 0
  refine wpAny_execs_cons (plainObj_wpAny_Assign_Attribute (wpAny_Constant_int ?_))
  have W7 := W6.tok (s6.toks + 1)
  refine ev_local W7 (m := m) (by k_mem) hms (set_own1 (L := L) (m := m) [(n2, DcP prog w []), (L, NsP m)] hG1 W7 (by simp) hob (by kernel_rfl) (by kernel_rfl) (by kernel_rfl) (by kernel_rfl) (Nat.le_of_ble_eq_true rfl) fun s8 W8 => ?_)
  refine wpAny_execs_cons (plainObj_wpAny_Assign_Attribute (wpAny_Constant_int ?_))
  have W9 := W8.tok (s8.toks + 1)
  refine ev_local W9 (m := m) (by k_mem) hms (set_own1 (L := L) (m := m) [(n2, DcP prog w []), (L, NsP m)] hG1 W9 (by simp) hob (by kernel_rfl) (by kernel_rfl) (by kernel_rfl) (by kernel_rfl) (Nat.le_of_ble_eq_true rfl) fun s10 W10 => ?_)
  -- if graph is not None
  refine wpAny_execs_cons (wpAny_If ((EvT.isNotNone (c := ⟨prog, w, _, _, s₀, B1, _⟩) (Ev.local (m := m) (by k_mem) hmg)) s10 _ _ W10 fun s11 W11 => ?_))
  rw [if_neg (by decide)]
  refine wpAny_execs_nil (wpAny_execs_nil ⟨rfl, h B1 x dx n2 _ _ s11 hs1 hob hn2 ⟨s6.toks, rfl⟩ ⟨s8.toks, rfl⟩ ?_⟩)
  exact W11.re (W11.st.dropAt (pre := [(n2, DcP prog w [])]))
end
end Mine

end

section
open PySem PySem.W PyProof.Rows PySem.SeqAt
set_option Elab.async false
set_option linter.unusedVariables false
set_option maxRecDepth 100000
set_option maxHeartbeats 4000000
namespace Mine

theorem va_cases (l : List Nd) (t : Int) : (valueAt (prs l) t = none ∧ t ∉ l.map (·.t)) ∨ ∃ l1 d l2, l = l1 ++ d :: l2 ∧ d.t = t ∧ valueAt (prs l) t = some (.ref d.ia) := by
  induction l with
  | nil => exact .inl ⟨rfl, by simp⟩
  | cons e r ih =>
    by_cases h : e.t = t
    · exact .inr ⟨[], e, r, rfl, h, by simp [valueAt, prs, h]⟩
    · have hv : valueAt (prs (e :: r)) t = valueAt (prs r) t := by simp [valueAt, prs, h]
      rcases ih with ⟨h1, h2⟩ | ⟨l1, d, l2, h1, h2, h3⟩
      · exact .inl ⟨hv.trans h1, by simp only [List.map_cons, List.mem_cons, not_or]; exact ⟨fun q => h q.symm, h2⟩⟩
      · exact .inr ⟨e :: l1, d, l2, by rw [h1]; rfl, h2, hv.trans h3⟩
theorem stored_new {l : List Nd} {t : Int} {v : Value} (h : t ∉ l.map (·.t)) : stored (prs l) t v = prs l ++ [(t, v)] := by
  unfold stored
  rw [if_neg]
  simp only [prs, List.any_eq_true, not_exists]
  rintro p ⟨hp, hq⟩
  obtain ⟨d, hd, rfl⟩ := List.mem_map.mp hp
  exact h (List.mem_map.mpr ⟨d, hd, by simpa using hq⟩)

/-- what the look for an info leaves -/
inductive GotN (l : List Nd) (t : Int) : List Nd → Nd → Prop
  | old {l1 : List Nd} {d : Nd} {l2 : List Nd} : l = l1 ++ d :: l2 → d.t = t → GotN l t l d
  | new {d : Nd} : t ∉ l.map (·.t) → d.t = t → d.np = 0 → d.ss = [] → GotN l t (l ++ [d]) d

section
variable {prog : Program} {w : World} {A : Around} {E : Value → Shared → Prop} {s₀ s : Shared} {B : Heap} {X Y Z pre post : Led} {env : Env} {mg mb : Str → Option Value} {x dx n2 C L d : Addr} {m : Str → Option Value} {rd po nf : Value} {l l1 l2 : List Nd}

theorem W.toY {p : Addr × As} (h : W s₀ B (p :: SX prog w n2 dx rd po nf l Y) s) : W s₀ B (SX prog w n2 dx rd po nf l (p :: Y)) s :=
  h.perm (List.perm_middle (l₁ := (n2, DcP prog w (prs l)) :: (dx, DoP w (soK (.ref n2) rd po nf)) :: ndLed l)).symm
theorem W.ofY {p : Addr × As} (h : W s₀ B (SX prog w n2 dx rd po nf l (p :: Y)) s) : W s₀ B (p :: SX prog w n2 dx rd po nf l Y) s :=
  h.perm (List.perm_middle (l₁ := (n2, DcP prog w (prs l)) :: (dx, DoP w (soK (.ref n2) rd po nf)) :: ndLed l))

theorem gni_call {t : Int} {v : Value} {Q : Value → Shared → Prop} (hG : G (KF w) mg mb B) (hW : W s₀ B (SX prog w n2 dx rd po nf l Y) s) (hR : Rm A 4 30) (hx : B.get? x = some (instObj 137 dx)) (hn : (n2 == sysModules) = false) (hda : DaOk B l) (hlen : l.length ≤ 100) (hv : IsI t v)
    (h : ∀ B' l' d s', Sub B B' → DaOk B' l' → GotN l t l' d → W s₀ B' (SX prog w n2 dx rd po nf l' Y) s' → Q (.ref d.ia) s') : wpAny (model prog w) A (call (.ref 80) [.ref x, v]) Q E s := by
  refine call_fn (binds := [(Str.ofString "self", .ref x), (Str.ofString "node", v)]) hG hW (by with_unfolding_all rfl) (by with_unfolding_all rfl) (by with_unfolding_all rfl) (by have := hR.d; omega) (BindsTo.of_eq (by with_unfolding_all rfl)) (by decide) ?_ (by with_unfolding_all rfl) (by with_unfolding_all rfl) (by with_unfolding_all rfl) ?_
  · intro y hy
    simp only [List.mem_cons, List.not_mem_nil, or_false] at hy
    rcases hy with rfl | rfl <;> with_unfolding_all rfl
  intro L s1 W1
  obtain ⟨m, hms, hmn, W1⟩ : Ex3 (fun m : Str → Option Value => m (Str.ofString "self") = some (.ref x)) (fun m : Str → Option Value => m (Str.ofString "node") = some v) (fun m : Str → Option Value => W s₀ B ((L, NsP m) :: SX prog w n2 dx rd po nf l Y) s1) := ⟨_, by with_unfolding_all rfl, by with_unfolding_all rfl, W1⟩
  have R1 := hR.deeper (d := 3) (u := 27)
  have m1 : ∀ {r : Value} {y : Str} {u : Value}, y ≠ Str.ofString "result" → m y = some u → up m (Str.ofString "result") r y = some u := fun h1 h2 => (up_ne h1).trans h2
  refine wpAny_execs_cons (wpAny_If (wpAny_isTrue_Compare1 (wpAny_NamedExpr ((Ev.dget (c := ⟨prog, w, _, _, s₀, B, _⟩) (kvs := prs l) (t := t) (Ev.own (kvs := soK (.ref n2) rd po nf) (v := .ref n2) hG (Ev.local (m := m) (by k_mem) hms) hx (by k_mem) rfl) (Ev.imp (Ev.local (m := m) (by k_mem) hmn) fun u e => by rw [e]; exact hv) (by k_mem) hn) s1 _ _ W1 fun s2 v2 e2 W2 => ?_)) (by with_unfolding_all rfl)))
  refine as_name [] W2 fun s3 W3 => wpAny_Constant_none (is_none_gen (wpAny_truthy_bool ?_))
  rcases va_cases l t with ⟨hva, hnt⟩ | ⟨l1, d, l2, hl, hdt, hva⟩
  · rw [hva] at e2
    subst e2
    rw [if_pos (by rfl)]
    refine wpAny_execs_cons (wpAny_Assign_two ?_)
    refine wpAny_Call_NameR (ev_global hG W3 ?_ (v := .ref 40))
    refine cw_fn (s₀ := s₀) hG (by kernel_rfl) ?_
    refine Calls.spliced_cons (ev_local W3 (by k_mem) (m1 (by decide) hmn) (Calls.spliced_nil ⟨⟨B, _, Sub.refl _, W3⟩, ?_⟩))
    refine mk_node hG W3 ((R1 _).le (by decide) (by decide)) hv fun B4 i da sa s4 hs4 hda4 W4 => ?_
    have hG4 := hG.mono hs4
    refine as_sub ((Ev.own (c := ⟨prog, w, _, _, s₀, B4, _⟩) (kvs := soK (.ref n2) rd po nf) (v := .ref n2) hG4 (Ev.local (m := up m (Str.ofString "result") .none) (by k_mem) (m1 (by decide) hms)) (hs4 _ _ hx) (by k_mem) rfl) s4 _ _ W4 fun s5 v5 e5 W5 => ?_)
    subst e5
    refine ev_local W5 (m := up m (Str.ofString "result") .none) (by k_mem) (m1 (by decide) hmn) ?_
    refine set_key [(i, NdP t 0 sa da), (sa, SsP []), (L, NsP (up m (Str.ofString "result") .none))] W5 hv (by simp [prs]; omega) fun s6 W6 => ?_
    refine as_name [(i, NdP t 0 sa da), (sa, SsP [])] W6 fun s7 W7 => ?_
    refine wpAny_execs_nil ?_
    refine wpAny_execs_cons (wpAny_Return_some (ev_local W7 (m := up (up m (Str.ofString "result") .none) (Str.ofString "result") (.ref i)) (by k_mem) (up_self _ _ _) ?_))
    refine h B4 (l ++ [⟨t, 0, [], i, da, sa⟩]) ⟨t, 0, [], i, da, sa⟩ s7 hs4 ?_ (.new hnt rfl rfl rfl) ?_
    · intro e he
      rcases List.mem_append.mp he with he | he
      · exact hs4 _ _ (hda e he)
      · rw [List.mem_singleton.mp he]; exact hda4
    · have W8 := W7.re (W7.st.dropAt (pre := [(i, NdP t 0 sa da), (sa, SsP [])]))
      have W9 := W8.perm (List.perm_append_comm_assoc [(i, NdP t 0 sa da), (sa, SsP [])] ((n2, DcP prog w (stored (prs l) t (.ref i))) :: (dx, DoP w (soK (.ref n2) rd po nf)) :: ndLed l) Y)
      have e : prs (l ++ [⟨t, 0, [], i, da, sa⟩]) = stored (prs l) t (.ref i) := by rw [stored_new hnt]; simp [prs]
      show W s₀ B4 ((n2, DcP prog w (prs (l ++ [⟨t, 0, [], i, da, sa⟩]))) :: (dx, DoP w (soK (.ref n2) rd po nf)) :: (ndLed (l ++ [⟨t, 0, [], i, da, sa⟩]) ++ Y)) s7
      rw [e, ndLed_app, ndLed_cons]
      simpa [ndLed] using W9
  · rw [hva] at e2
    subst e2
    rw [if_neg (show ¬ ((some (Value.ref d.ia)).getD .none == .none) = true from by simp)]
    refine wpAny_execs_nil ?_
    refine wpAny_execs_cons (wpAny_Return_some (ev_local W3 (m := up m (Str.ofString "result") (.ref d.ia)) (by k_mem) (up_self _ _ _) ?_))
    exact h B l d s3 (Sub.refl _) hda (.old hl hdt) (W3.re W3.st.drop)
end
end Mine

end

section
open PySem PySem.W PyProof.Rows PySem.SeqAt
set_option Elab.async false
set_option linter.unusedVariables false
set_option maxRecDepth 100000
set_option maxHeartbeats 4000000
namespace Mine

/-- what the nodes hold: how many come before, how often each comes behind -/
structure Pl (l : List Nd) (np : Int → Int) (cn : Int → Int → Nat) (N : Nat) : Prop where
  nd : (l.map (·.t)).Nodup
  hp : ∀ d ∈ l, d.np = np d.t
  hc : ∀ d ∈ l, ∀ u, d.ss.count u = cn d.t u
  z : ∀ t, t ∉ l.map (·.t) → np t = 0 ∧ ∀ u, cn t u = 0
  sl : ∀ d ∈ l, d.ss.length ≤ N
theorem Pl.got {l l' : List Nd} {np cn N t} {d : Nd} (P : Pl l np cn N) (g : GotN l t l' d) : Pl l' np cn N ∧ ∃ l1 l2, l' = l1 ++ d :: l2 ∧ d.t = t ∧ (∀ u, u ∈ l'.map (·.t) ↔ u ∈ l.map (·.t) ∨ u = t) ∧ l'.length ≤ l.length + 1 := by
  cases g with
  | old hl hd =>
    refine ⟨P, _, _, hl, hd, fun u => ⟨.inl, fun h => h.elim id fun e => ?_⟩, by omega⟩
    rw [e, ← hd]; exact List.mem_map.mpr ⟨d, by rw [hl]; simp, rfl⟩
  | new hn hd h1 h2 =>
    refine ⟨⟨?_, ?_, ?_, ?_, ?_⟩, l, [], rfl, hd, fun u => by simp [hd], by simp⟩
    · rw [List.map_append, List.nodup_append]
      refine ⟨P.nd, by simp, fun a ha b hb e => hn ?_⟩
      simp only [List.map_cons, List.map_nil, List.mem_singleton] at hb
      rw [← hd, ← hb, ← e]; exact ha
    · intro e he
      rcases List.mem_append.mp he with he | he
      · exact P.hp e he
      · rw [List.mem_singleton.mp he, h1, hd, (P.z t hn).1]
    · intro e he u
      rcases List.mem_append.mp he with he | he
      · exact P.hc e he u
      · rw [List.mem_singleton.mp he, h2, hd, (P.z t hn).2 u]; rfl
    · intro u hu
      exact P.z u fun h => hu (by simp [List.map_append, h])
    · intro e he
      rcases List.mem_append.mp he with he | he
      · exact P.sl e he
      · rw [List.mem_singleton.mp he, h2]; exact Nat.zero_le _
theorem Pl.ne {l1 l2 : List Nd} {d e : Nd} {np cn N} (P : Pl (l1 ++ d :: l2) np cn N) (h : e ∈ l1 ++ l2) : e.t ≠ d.t := by
  have nd := (List.Perm.map (·.t) (List.perm_middle (a := d) (l₁ := l1) (l₂ := l2))).nodup_iff.mp P.nd
  rw [List.map_cons, List.nodup_cons] at nd
  exact fun q => nd.1 (q ▸ List.mem_map.mpr ⟨e, h, rfl⟩)
theorem Pl.upd {l1 l2 : List Nd} {d d' : Nd} {np np' cn cn' N N'} (P : Pl (l1 ++ d :: l2) np cn N) (ht : d'.t = d.t) (h1 : d'.np = np' d.t) (h2 : ∀ u, d'.ss.count u = cn' d.t u) (h3 : ∀ u, u ≠ d.t → np' u = np u ∧ cn' u = cn u) (hN : N ≤ N') (h4 : d'.ss.length ≤ N') :
    Pl (l1 ++ d' :: l2) np' cn' N' := by
  have ek : (l1 ++ d' :: l2).map (·.t) = (l1 ++ d :: l2).map (·.t) := by simp [ht]
  have key : ∀ e ∈ l1 ++ d' :: l2, e = d' ∨ (e ∈ l1 ++ l2 ∧ e ∈ l1 ++ d :: l2) := fun e he => by
    simp only [List.mem_append, List.mem_cons] at he ⊢
    rcases he with h | h | h
    · exact .inr ⟨.inl h, .inl h⟩
    · exact .inl h
    · exact .inr ⟨.inr h, .inr (.inr h)⟩
  refine ⟨by rw [ek]; exact P.nd, fun e he => ?_, fun e he u => ?_, fun t hn => ?_, fun e he => ?_⟩
  · rcases key e he with rfl | ⟨a, b⟩
    · rw [h1, ht]
    · rw [P.hp e b, (h3 _ (P.ne a)).1]
  · rcases key e he with rfl | ⟨a, b⟩
    · rw [h2, ht]
    · rw [P.hc e b, (h3 _ (P.ne a)).2]
  · rw [ek] at hn
    have hne : t ≠ d.t := fun q => hn (by rw [q]; simp)
    rw [(h3 t hne).1, (h3 t hne).2]
    exact P.z t hn
  · rcases key e he with rfl | ⟨a, b⟩
    · exact h4
    · exact Nat.le_trans (P.sl e b) hN

section
variable {prog : Program} {w : World} {A : Around} {E : Value → Shared → Prop} {s₀ s : Shared} {B : Heap} {X Y Z pre post : Led} {env : Env} {mg mb : Str → Option Value} {x dx n2 C L : Addr} {m : Str → Option Value} {rd po nf : Value} {l l1 l2 : List Nd}

theorem for_tup {T : Addr} {vs : List Value} {target iter : Expr} {body : List Stmt} {pos : Pos} {Q : Flow → Shared → Prop} (hh : A.handled = none) (J : List Value → Heap → Led → Prop) (hT : B.IsTuple T vs.toArray)
    (hit : wpAny (model prog w) A (eval iter env) (fun xv s₁ => xv = .ref T ∧ W s₀ B X s₁) E s) (h0 : J [] B X)
    (turn : ∀ pre v post I As B' X' s', vs = pre ++ v :: post → Sub B B' → J pre B' X' → W s₀ B' ((I, As) :: X') s' →
        wpAny (model prog w) A (assign target env v) (fun _ s₂ => wpAny (model prog w) A (execs body env) (fun f s₃ => match f with
          | .next | .cont => ∃ B'' X'', Sub B' B'' ∧ J (pre ++ [v]) B'' X'' ∧ W s₀ B'' ((I, As) :: X'') s₃
          | .brk => Q .next s₃
          | .ret v => Q (.ret v) s₃) NoE s₂) NoE s')
    (fin : ∀ B' X' s', Sub B B' → J vs B' X' → W s₀ B' X' s' → Q .next s')
    (hs : ∀ x, foldedSetIterable iter env x = pure x := by intro _; rfl) :
    wpAny (model prog w) A (exec (.For target iter body [] pos) env) Q E s := by
  refine wpAny_For (wpAny_mono hit (fun xv s₁ h₁ => ?_) fun _ _ e => e) hs
  obtain ⟨rfl, hW⟩ := h₁
  have up : ∀ {h : Heap}, Sub B h → h.IsTuple T vs.toArray := fun hs => let ⟨o, ho, r⟩ := hT; ⟨o, hs _ _ ho, r⟩
  refine wpAny_pyIter_tuple (up hW.st.sub) ?_
  refine for_it (s₀ := s₀) (B := B) (X := X) (it_tuple hh s₁.heap.objs.size T vs) (fun i B' X' => J (vs.take i) B' X') (fun i B' X' h hsub hJ H => up (hsub.trans H.sub)) ?_ (by simpa using h0) ?_ ?_
  · exact hW.to (tk := s₁.toks) (hW.st.new rfl ⟨rfl, rfl⟩)
  · intro i v B' X' s' hi hP hsub hJ hW'
    have e : vs = vs.take i ++ v :: vs.drop (i + 1) := by
      have := List.take_append_drop i vs
      rw [List.drop_eq_getElem_cons hi] at this
      have hv : vs[i] = v := by rw [List.getElem?_eq_getElem hi] at hP; exact Option.some.inj hP
      rw [hv] at this
      exact this.symm
    refine wpAny_mono (turn _ v _ _ _ B' X' s' e hsub hJ hW') (fun _ s₂ h₂ => wpAny_mono h₂ (fun f s₃ h₃ => ?_) fun _ _ f => f) fun _ _ f => f
    have et : vs.take (i + 1) = vs.take i ++ [v] := by rw [List.take_add_one, hP]; rfl
    cases f with
    | next => rw [et]; exact h₃
    | cont => rw [et]; exact h₃
    | brk => exact h₃
    | ret v => exact h₃
  · intro B' X' s' hsub hJ hW'
    exact fin B' X' s' hsub (by simpa using hJ) hW'

theorem get_np {t np : Int} {sa da i : Addr} {expr : Bool} {Q : Value → Shared → Prop} (hG : G (KF w) mg mb B) (hW : W s₀ B X s) (hm : (i, NdP t np sa da) ∈ X) (hd : B.get? da = some emptyDict)
    (h : ∀ s' v, IsI np v → W s₀ B X s' → Q v s') : wpAny (model prog w) A (getAttr (.ref i) "npredecessors" expr) Q E s := by
  obtain ⟨ob, hob, k1, k2, rfl⟩ := hW.st.at hm
  exact get_slot1 (p := 42) (i := 1) hG hW hob hd (by kernel_rfl) (by kernel_rfl) (by kernel_rfl) (by kernel_rfl) (by kernel_rfl) (by kernel_rfl) (v := .int np k2) rfl rfl fun s2 W2 => h s2 _ ⟨k2, rfl⟩ W2

/-- info.successors.append(e) -/
theorem app_succ {o e : Expr} {apos pos p' : Pos} {d : Nd} {t : Int} {Q : Flow → Shared → Prop} (Z : Led) (hW : W s₀ B (Z ++ SX prog w n2 dx rd po nf (l1 ++ d :: l2) Y) s)
    (ho : Ev ⟨prog, w, A, env, s₀, B, Z ++ SX prog w n2 dx rd po nf (l1 ++ d :: l2) Y⟩ o (· = .ref d.sa)) (he : Ev ⟨prog, w, A, env, s₀, B, Z ++ SX prog w n2 dx rd po nf (l1 ++ d :: l2) Y⟩ e (IsI t)) (hz : d.ss.length ≤ 1000)
    (h : ∀ s', W s₀ B (Z ++ SX prog w n2 dx rd po nf (l1 ++ { d with ss := d.ss ++ [t] } :: l2) Y) s' → Q .next s')
    (hbase : attributeBase o "append" env (eval o env) = eval o env := by rfl)
    (hns : starEach [e] env = [(false, eval e env)] := by rfl)
    (hline : (apos.endLine == pos.line) = true := by rfl)
    (hi : interactive env = false := by rfl) (hs : swapsWith (.Call (.Attribute o "append" apos) [e] [] pos) none p'.line env = pure false := by rfl) :
    wpAny (model prog w) A (exec (.Expr (.Call (.Attribute o "append" apos) [e] [] pos) p') env) Q E s := by
  have eq : ∀ ss : List Int, Z ++ SX prog w n2 dx rd po nf (l1 ++ { d with ss := ss } :: l2) Y = (Z ++ (n2, DcP prog w (prs (l1 ++ d :: l2))) :: (dx, DoP w (soK (.ref n2) rd po nf)) :: (ndLed l1 ++ [(d.ia, NdP d.t d.np d.sa d.da)])) ++ (d.sa, SsP ss) :: (ndLed l2 ++ Y) := by
    intro ss
    have : prs (l1 ++ { d with ss := ss } :: l2) = prs (l1 ++ d :: l2) := by simp [prs]
    simp [SX, this, ndLed_app, ndLed_cons]
  have hm : (d.sa, SsP d.ss) ∈ Z ++ SX prog w n2 dx rd po nf (l1 ++ d :: l2) Y := by
    have := eq d.ss
    rw [this]; simp
  refine wpAny_Expr ?_ hi hs
  refine wpAny_Call_append hbase (by rw [hns]; rfl) hline (by rw [hns]; rfl) (ho s _ _ hW fun s₁ v ev W1 => ?_)
  subst ev
  obtain ⟨oD, hoD, us, ⟨n, pD⟩, f⟩ := W1.st.at hm
  refine ⟨d.sa, us.toArray, rfl, ⟨oD, n, hoD, by rw [pD], by rw [pD], by rw [pD]⟩, he s₁ _ _ W1 fun s₂ v2 e2 W2 => ?_⟩
  obtain ⟨oD2, hoD2, us2, pD2, f2⟩ := W2.st.at hm
  have := f2.length
  refine wpAny_list_append_plain (items := us2.toArray) (pD2.plain hoD2) (fun h' hl' hs' => ?_) (by rw [sizeLine_eq]; simp; omega)
  refine h _ ?_
  have W3 := W2
  rw [show l1 ++ d :: l2 = l1 ++ { d with ss := d.ss } :: l2 from rfl, eq d.ss] at W3
  rw [eq]
  refine W3.to (tk := s₂.toks) (W3.st.upd _ hs' ?_)
  obtain ⟨oD3, h3, p3⟩ := LsP.of (vs := us2 ++ [v2]) (by simpa using hl')
  exact ⟨oD3, h3, us2 ++ [v2], p3, f2.append (.cons e2 .nil)⟩

theorem len_tup {T : Addr} {vs : List Value} {a : Expr} {p pos : Pos} {K : Frag} {c : Cx} (hG : G K mg mb c.B) (hl : Ev c a (· = .ref T)) (hT : c.B.IsTuple T vs.toArray) (hz : vs.length < 2 ^ 60)
    (hns : starEach [a] c.env = [(false, eval a c.env)] := by rfl)
    (e : nsIn K mainGlobals "len" = some none := by with_unfolding_all rfl)
    (hg : c.env.globals = mainGlobals := by rfl) (hb : c.env.builtins = builtinsNs := by rfl) (hk : c.env.scope.kind = .function := by rfl) (hx : c.env.kindOf "len" = some .globalImplicit := by rfl) :
    Ev c (.Call (.Name "len" p) [a] [] pos) (IsI vs.length) := fun s Q E hW h => by
  refine wpAny_Call_NameR (ev_builtin hG hW boot_len ?_ e (by decide) hg hb hk hx)
  rw [hns]
  refine Calls.callWith_builtin rfl (Calls.evalArgs_plain (Calls.spliced_cons (hl s _ _ hW fun s1 v1 e1 W1 => Calls.spliced_nil ?_)))
  subst e1
  obtain ⟨o, ho, r⟩ := hT
  refine len_tuple ⟨o, W1.st.sub _ _ ho, r⟩ (by simp; omega) ?_
  simpa using h _ _ ⟨_, rfl⟩ (W1.tok _)

theorem add_binds (w : World) (x v : Value) (vs : List Value) : ∃ oc od fd osl, (KF w).lookup 87 = some ⟨oc, od, .func fd, osl⟩ ∧ bindArgs fd ⟨x :: v :: vs, []⟩ = (newTuple vs >>= fun T => pure [(Str.ofString "self", x), (Str.ofString "node", v), (Str.ofString "predecessors", T)]) := by
  refine ⟨_, _, _, _, by with_unfolding_all rfl, ?_⟩
  rcases vs with _ | ⟨a, r⟩ <;> kernel_rfl
end
end Mine

end

section
open PySem PySem.W PyProof.Rows PySem.SeqAt
set_option Elab.async false
set_option linter.unusedVariables false
set_option maxRecDepth 100000
set_option maxHeartbeats 4000000
namespace Mine
inductive AdJ (prog : Program) (w : World) (n2 dx x L : Addr) (po nf : Value) (l : List Nd) (Y : Led) (np : Int → Int) (cn : Int → Int → Nat) (N : Nat) (t : Int) (v : Value) (ps : List Int) (B4 : Heap) (pr : List Value) (B' : Heap) (X' : Led) : Prop
  | mk (m : Str → Option Value) (l' : List Nd) (hX : X' = (L, NsP m) :: SX prog w n2 dx .none po nf l' Y) (h1 : Sub B4 B') (h2 : DaOk B' l') (h3 : m (Str.ofString "self") = some (.ref x)) (h4 : m (Str.ofString "node") = some v)
      (h5 : Pl l' (fun u => np u + if u = t then (ps.length : Int) else 0) (fun u u' => cn u u' + if u' = t then (ps.take pr.length).count u else 0) (N + pr.length)) (h6 : ∀ u, u ∈ l'.map (·.t) ↔ (u ∈ l.map (·.t) ∨ u = t) ∨ u ∈ ps.take pr.length) (h7 : l'.length ≤ l.length + 1 + pr.length) : AdJ prog w n2 dx x L po nf l Y np cn N t v ps B4 pr B' X'
section
variable {prog : Program} {w : World} {A : Around} {E : Value → Shared → Prop} {s₀ s : Shared} {B : Heap} {X Y Z pre post : Led} {env : Env} {mg mb : Str → Option Value} {x dx n2 C L : Addr} {m : Str → Option Value} {rd po nf : Value} {l l1 l2 : List Nd}

theorem DaOk.mono {B B' : Heap} {l : List Nd} (h : DaOk B l) (hs : Sub B B') : DaOk B' l := fun d hd => hs _ _ (h d hd)
theorem DaOk.upd {l1 l2 : List Nd} {d d' : Nd} (h : DaOk B (l1 ++ d :: l2)) (e : d'.da = d.da) : DaOk B (l1 ++ d' :: l2) := fun x hx => by
  simp only [List.mem_append, List.mem_cons] at hx
  rcases hx with hx | rfl | hx
  · exact h x (by simp [hx])
  · rw [e]; exact h d (by simp)
  · exact h x (by simp [hx])

/-- a call of a def that takes *rest, as code -/
theorem code_fnV {K : Frag} {fd : FuncData} {body : List Stmt} {oc : Value} {od : Option Addr} {osl : Array (Option Value)} {f : Addr} {args vs : List Value} {binds : Value → List (Str × Value)} {R : Result → Shared → Prop}
    (hG : G K mg mb B) (hW : W s₀ B X s) (ho : K.lookup f = some ⟨oc, od, .func fd, osl⟩) (hcd : codeIn K fd.code fd.qualname = true) (hbody : fd.body = .stmts body) (hroom : A.depth < recursionLimit)
    (hbind : bindArgs fd ⟨args, []⟩ = (newTuple vs >>= fun T => pure (binds T))) (hz : vs.length ≤ 1000) (hcell : ∀ x ∈ fd.scope.names, x.2 ≠ .cell) (hloc : ∀ T, ∀ x ∈ binds T, fd.scope.names.lookup x.1 = some .local)
    (hco : fd.scope.isCoroutine = false) (hgen : fd.scope.isGenerator = false) (hk : fd.scope.kind = .function)
    (h : ∀ B' L T s', Sub B B' → B'.IsTuple T vs.toArray → W s₀ B' ((L, NsP fun x => (binds (.ref T)).reverse.lookup x) :: X) s' →
      wpAny (model prog w) (A.deeper (callEnv fd L f)) (execs body (callEnv fd L f)) (fun fl s'' => R (.ok (.ret (match fl with | .ret v => v | _ => .none))) s'') NoE s') :
    codeAny (model prog w) A (.call (.ref f) ⟨args, []⟩) R s := by
  refine codeAny_call_function hroom (hW.st.sub _ _ (hG.kin _ _ ho)) rfl hco hgen hbody (codeRec_of (hG.kin.keeps hW.st.sub) hcd) ?_
  rw [hbind]
  refine wpAny_bind (wpAny_newObj_type (wpAny_pure ?_) (by unfold sizeOk; simp [sizeLine_eq]; omega))
  have W1 := hW.to (tk := s.toks) (hW.st.new (o := { cls := .type "tuple", data := .seq vs.toArray }) rfl (P := ObjP { cls := .type "tuple", data := .seq vs.toArray }) rfl)
  obtain ⟨B1, oT, hs1, hoT, pT, H1⟩ := W1.st.freeze
  have hT : B1.IsTuple s.heap.objs.size vs.toArray := ⟨oT, hoT, by rw [pT], _, by rw [pT]⟩
  have W2 : W s₀ B1 X { s with heap := s.heap.push { cls := .type "tuple", data := .seq vs.toArray } } := W1.re H1
  generalize hs2 : ({ s with heap := s.heap.push { cls := .type "tuple", data := .seq vs.toArray } } : Shared) = s2 at W2
  refine wpAny_newFunctionEnv hcell (hloc _) (fun h₁ hns hsb => ⟨((hG.lim.keeps hs1).keeps W2.st.sub).fresh _ hsb, codeAny_func ?_⟩) hk
  have hk₁ : Sub s2.heap h₁ := fun b o e => hsb.extBut b o (Nat.ne_of_lt (Heap.lt_size e)) (Heap.get?_push_of_some _ e)
  exact wpAny_mono (h B1 s2.heap.objs.size s.heap.objs.size _ hs1 hT (W2.to (W2.st.add hk₁ (get_size _) (nsP_of hns) W2.st.notin))) (fun fl s'' hq => hq) fun _ _ f => f.elim

theorem add_code {t : Int} {v : Value} {vs : List Value} {ps : List Int} {np : Int → Int} {cn : Int → Int → Nat} {N : Nat} {R : Result → Shared → Prop} (hG : G (KF w) mg mb B) (hW : W s₀ B (SX prog w n2 dx .none po nf l Y) s) (hR : Rm A 5 50) (hx : B.get? x = some (instObj 137 dx)) (hn : (n2 == sysModules) = false)
    (hda : DaOk B l) (hlen : l.length + ps.length ≤ 90) (hv : IsI t v) (fv : F2 (RInt emptyH) vs ps) (P : Pl l np cn N) (hN : N + ps.length ≤ 500)
    (h : ∀ B' l' s', Sub B B' → DaOk B' l' → Pl l' (fun u => np u + if u = t then (ps.length : Int) else 0) (fun u u' => cn u u' + if u' = t then ps.count u else 0) (N + ps.length) → (∀ u, u ∈ l'.map (·.t) ↔ (u ∈ l.map (·.t) ∨ u = t) ∨ u ∈ ps) →
      l'.length ≤ l.length + 1 + ps.length → W s₀ B' (SX prog w n2 dx .none po nf l' Y) s' → R (.ok (.ret .none)) s') : codeAny (model prog w) A (.call (.ref 87) ⟨.ref x :: v :: vs, []⟩) R s := by
  have fl := fv.length
  refine code_fnV (vs := vs) (binds := fun T => [(Str.ofString "self", .ref x), (Str.ofString "node", v), (Str.ofString "predecessors", T)]) hG hW (by with_unfolding_all rfl) (by with_unfolding_all rfl) (by with_unfolding_all rfl) (by have := hR.d; omega) (by rcases vs with _ | ⟨a, r⟩ <;> kernel_rfl) (by omega) (by decide) ?_ (by with_unfolding_all rfl) (by with_unfolding_all rfl) (by with_unfolding_all rfl) ?_
  · intro T y hy
    simp only [List.mem_cons, List.not_mem_nil, or_false] at hy
    rcases hy with rfl | rfl | rfl <;> with_unfolding_all rfl
  intro B1 L T s1 hs1 hT W1
  obtain ⟨m, hms, hmn, hmp, W1⟩ : Ex4 (fun m : Str → Option Value => m (Str.ofString "self") = some (.ref x)) (fun m : Str → Option Value => m (Str.ofString "node") = some v) (fun m : Str → Option Value => m (Str.ofString "predecessors") = some (.ref T)) (fun m : Str → Option Value => W s₀ B1 ((L, NsP m) :: SX prog w n2 dx .none po nf l Y) s1) := ⟨_, by with_unfolding_all rfl, by with_unfolding_all rfl, by with_unfolding_all rfl, W1⟩
  have R1 := hR.deeper (d := 4) (u := 47)
  have hG1 := hG.mono hs1
  have hx1 := hs1 _ _ hx
  -- if self._ready_nodes is not None
  refine wpAny_execs_cons (wpAny_If ((EvT.isNotNone (c := ⟨prog, w, _, _, s₀, B1, _⟩) (v := .none) (Ev.own (kvs := soK (.ref n2) .none po nf) hG1 (Ev.local (m := m) (by k_mem) hms) hx1 (by k_mem) rfl)) s1 _ _ W1 fun s2 W2 => ?_))
  rw [if_neg (by decide)]
  refine wpAny_execs_nil ?_
  -- nodeinfo = self._get_nodeinfo(node)
  refine wpAny_execs_cons (wpAny_Assign_Name (call_meth (kvs := soK (.ref n2) .none po nf) (f := 80) hG1 W2 (Ev.local (m := m) (by k_mem) hms) hx1 (by k_mem) rfl (by kernel_rfl) (by kernel_rfl) (by kernel_rfl) fun s3 W3 => ?_))
  refine cw_fn (s₀ := s₀) hG1 (by kernel_rfl) (Calls.spliced_cons (ev_local W3 (m := m) (by k_mem) hmn (Calls.spliced_nil ⟨⟨B1, _, Sub.refl _, W3⟩, ?_⟩)))
  refine gni_call hG1 W3.toY ((R1 _).le (by decide) (by decide)) hx1 hn (hda.mono hs1) (by omega) hv fun B4 l4 d4 s4 hs4 hda4 g4 W4 => ?_
  obtain ⟨P4, la, lb, e4, ht4, hk4, hl4⟩ := P.got g4
  subst e4
  have hG4 := hG1.mono hs4
  have hx4 := hs4 _ _ hx1
  refine st_local [] W4.ofY fun s5 W5 => ?_
  have m1 : ∀ {y : Str} {u : Value}, y ≠ Str.ofString "nodeinfo" → m y = some u → up m (Str.ofString "nodeinfo") (.ref d4.ia) y = some u := fun h1 h2 => (up_ne h1).trans h2
  have md := mem_nd (l := la ++ d4 :: lb) (d := d4) (by simp)
  -- nodeinfo.npredecessors += len(predecessors)
  refine wpAny_execs_cons (wpAny_AugAssign_AttributeAny (ev_local W5 (m := up m (Str.ofString "nodeinfo") (.ref d4.ia)) (by k_mem) (up_self _ _ _) ?_))
  refine get_np hG4 W5 (t := d4.t) (np := d4.np) (sa := d4.sa) (da := d4.da) (by simp [md.1]) (hda4 d4 (by simp)) fun s6 v6 e6 W6 => ?_
  have hT4 : B4.IsTuple T vs.toArray := let ⟨o, ho, r⟩ := hT; ⟨o, hs4 _ _ ho, r⟩
  refine (len_tup (c := ⟨prog, w, _, _, s₀, B4, _⟩) (T := T) (vs := vs) hG4 (Ev.local (m := up m (Str.ofString "nodeinfo") (.ref d4.ia)) (by k_mem) (m1 (by decide) hmp)) hT4 (by omega)) s6 _ _ W6 fun s7 v7 e7 W7 => ?_
  obtain ⟨k6, rfl⟩ := e6
  obtain ⟨k7, rfl⟩ := e7
  refine wpAny_iadd_int ?_
  refine set_np (L := L) (m := up m (Str.ofString "nodeinfo") (.ref d4.ia)) (t' := d4.np + vs.length) [(L, NsP (up m (Str.ofString "nodeinfo") (.ref d4.ia)))] hG4 (W7.tok _) (by simp) (hda4 d4 (by simp)) ⟨_, rfl⟩ fun s8 W8 => ?_
  have P8 : Pl (la ++ { d4 with np := d4.np + vs.length } :: lb) (fun u => np u + if u = t then (ps.length : Int) else 0) cn N := by
    refine P4.upd (d' := { d4 with np := d4.np + vs.length }) rfl ?_ (P4.hc d4 (by simp)) (fun u hu => ⟨?_, rfl⟩) (Nat.le_refl _) (P4.sl d4 (by simp))
    · show d4.np + (vs.length : Int) = _
      rw [P4.hp d4 (by simp), ht4, if_pos rfl, fl]
    · rw [if_neg (by rw [← ht4]; exact hu), Int.add_zero]
  have hda8 : DaOk B4 (la ++ { d4 with np := d4.np + vs.length } :: lb) := hda4.upd (d' := { d4 with np := d4.np + vs.length }) rfl
  have hk8 : ∀ u, u ∈ (la ++ { d4 with np := d4.np + vs.length } :: lb).map (·.t) ↔ u ∈ l.map (·.t) ∨ u = t := fun u => by rw [← hk4]; simp
  have hl8 : (la ++ { d4 with np := d4.np + vs.length } :: lb).length ≤ l.length + 1 := by simpa using hl4
  generalize la ++ { d4 with np := d4.np + vs.length } :: lb = l8 at W8 P8 hda8 hk8 hl8
  obtain ⟨m8, hms8, hmn8, hmp8, W8⟩ : Ex4 (fun m : Str → Option Value => m (Str.ofString "self") = some (.ref x)) (fun m : Str → Option Value => m (Str.ofString "node") = some v) (fun m : Str → Option Value => m (Str.ofString "predecessors") = some (.ref T)) (fun m : Str → Option Value => W s₀ B4 ((L, NsP m) :: SX prog w n2 dx .none po nf l8 Y) s8) := ⟨_, m1 (by decide) hms, m1 (by decide) hmn, m1 (by decide) hmp, W8⟩
  -- for pred in predecessors
  refine wpAny_execs_cons (for_tup (s₀ := s₀) (R1 _).h (AdJ prog w n2 dx x L po nf l Y np cn N t v ps B4)
    hT4 (ev_local W8 (m := m8) (by k_mem) hmp8 ⟨rfl, W8⟩) ⟨m8, l8, rfl, Sub.refl _, hda8, hms8, hmn8, by simpa using P8, by simpa using hk8, by simpa using hl8⟩ ?_ ?_)
  · rintro pr pv post I As B9 X9 s9 hvs hs9 ⟨m, l9, rfl, _, hda9, hms, hmn, P9, hk9, hl9⟩ W9
    have hgt : vs[pr.length]? = some pv := by rw [hvs]; simp
    obtain ⟨p, ep, hp⟩ := fv.get hgt
    have htake : ps.take (pr ++ [pv]).length = ps.take pr.length ++ [p] := by rw [List.length_append, List.length_singleton, List.take_add_one, ep]; rfl
    have hlt : pr.length < ps.length := by
      rcases Nat.lt_or_ge pr.length ps.length with q | q
      · exact q
      · rw [List.getElem?_eq_none q] at ep; cases ep
    refine abs_turn fun Qt hQt => ?_
    refine as_name [(I, As)] W9 fun s10 W10 => ?_
    have hG9 := hG4.mono hs9
    have hx9 := hs9 _ _ hx4
    have m1 : ∀ {y : Str} {u : Value}, y ≠ Str.ofString "pred" → m y = some u → up m (Str.ofString "pred") pv y = some u := fun h1 h2 => (up_ne h1).trans h2
    refine wpAny_execs_cons (wpAny_Assign_Name (call_meth (kvs := soK (.ref n2) .none po nf) (f := 80) hG9 W10 (Ev.local (m := up m (Str.ofString "pred") pv) (by k_mem) (m1 (by decide) hms)) hx9 (by k_mem) rfl (by kernel_rfl) (by kernel_rfl) (by kernel_rfl) fun s11 W11 => ?_))
    refine cw_fn (s₀ := s₀) hG9 (by kernel_rfl) (Calls.spliced_cons (ev_local W11 (m := up m (Str.ofString "pred") pv) (by k_mem) (up_self _ _ _) (Calls.spliced_nil ⟨⟨B9, _, Sub.refl _, W11⟩, ?_⟩)))
    have W12 : W s₀ B9 (SX prog w n2 dx .none po nf l9 ((I, As) :: (L, NsP (up m (Str.ofString "pred") pv)) :: Y)) s11 := (W11.perm (List.perm_middle (l₁ := (I, As) :: (n2, DcP prog w (prs l9)) :: (dx, DoP w (soK (.ref n2) .none po nf)) :: ndLed l9) |>.symm |> List.Perm.trans (List.Perm.swap _ _ _))).toY
    refine gni_call hG9 W12 ((R1 _).le (by decide) (by decide)) hx9 hn hda9 (by omega) (show IsI p pv from hp) fun B13 l13 d13 s13 hs13 hda13 g13 W13 => ?_
    obtain ⟨P13, la, lb, e13, ht13, hk13, hl13⟩ := P9.got g13
    subst e13
    have hG13 := hG9.mono hs13
    have md := mem_nd (l := la ++ d13 :: lb) (d := d13) (by simp)
    have W14 : W s₀ B13 ((I, As) :: (L, NsP (up m (Str.ofString "pred") pv)) :: SX prog w n2 dx .none po nf (la ++ d13 :: lb) Y) s13 := by
      have := W13.ofY
      exact this.perm (List.Perm.cons _ (List.perm_middle (l₁ := (n2, DcP prog w (prs (la ++ d13 :: lb))) :: (dx, DoP w (soK (.ref n2) .none po nf)) :: ndLed (la ++ d13 :: lb))))
    refine st_local [(I, As)] W14 fun s15 W15 => ?_
    have m2 : ∀ {y : Str} {u : Value}, y ≠ Str.ofString "pred" → y ≠ Str.ofString "pred_info" → m y = some u → up (up m (Str.ofString "pred") pv) (Str.ofString "pred_info") (.ref d13.ia) y = some u := fun h1 h2 h3 => (up_ne h2).trans (m1 h1 h3)
    refine wpAny_execs_cons (app_succ (t := t) [(I, As), (L, NsP (up (up m (Str.ofString "pred") pv) (Str.ofString "pred_info") (.ref d13.ia)))] W15 (Ev.succ hG13 (Ev.local (m := up (up m (Str.ofString "pred") pv) (Str.ofString "pred_info") (.ref d13.ia)) (by k_mem) (up_self _ _ _)) (t := d13.t) (np := d13.np) (da := d13.da) (by simp [md.1]) (hda13 d13 (by simp))) (Ev.imp (Ev.local (m := up (up m (Str.ofString "pred") pv) (Str.ofString "pred_info") (.ref d13.ia)) (by k_mem) (m2 (by decide) (by decide) hmn)) fun u e => by rw [e]; exact hv) (by have := P13.sl d13 (by simp); omega) fun s16 W16 => ?_)
    refine wpAny_execs_nil (hQt .next _ ⟨B13, _, hs13, ⟨_, _, rfl, hs9.trans hs13, hda13.upd (d' := { d13 with ss := d13.ss ++ [t] }) rfl, m2 (by decide) (by decide) hms, m2 (by decide) (by decide) hmn, ?_, fun u => ?_, ?_⟩, W16⟩)
    · refine P13.upd (d' := { d13 with ss := d13.ss ++ [t] }) rfl (P13.hp d13 (by simp)) (fun u => ?_) (fun u hu => ⟨rfl, ?_⟩) (by simp <;> omega) ?_
      · show (d13.ss ++ [t]).count u = _
        rw [List.count_append, P13.hc d13 (by simp) u, htake, List.count_append, ht13]
        by_cases e : u = t
        · subst e; simp; omega
        · rw [if_neg e, if_neg e, List.count_singleton, if_neg (by simpa using fun q => e q.symm)]
      · funext u'
        rw [htake, List.count_append, List.count_singleton, if_neg (show ¬ (p == u) = true from by simp; intro q; exact hu (q ▸ ht13.symm)), Nat.add_zero]
      · have := P13.sl d13 (by simp)
        simp; omega
    · rw [htake]
      have e : (la ++ { d13 with ss := d13.ss ++ [t] } :: lb).map (·.t) = (la ++ d13 :: lb).map (·.t) := by simp
      rw [e, hk13, hk9]
      simp only [List.mem_append, List.mem_singleton]
      constructor
      · rintro ((h | h) | h)
        · exact .inl h
        · exact .inr (.inl h)
        · exact .inr (.inr h)
      · rintro (h | h | h)
        · exact .inl (.inl h)
        · exact .inl (.inr h)
        · exact .inr h
    · have : (la ++ { d13 with ss := d13.ss ++ [t] } :: lb).length = (la ++ d13 :: lb).length := by simp
      simp only [List.length_append, List.length_singleton, List.length_cons] at this hl13 ⊢
      omega
  · rintro B9 X9 s9 hs9 ⟨m, l9, rfl, _, hda9, hms, hmn, P9, hk9, hl9⟩ W9
    rw [fl, List.take_length] at P9 hk9
    refine wpAny_execs_nil (h B9 l9 s9 (hs1.trans (hs4.trans hs9)) hda9 P9 hk9 (by omega) (W9.re W9.st.drop))
end
end Mine

end

section
set_option Elab.async false
set_option linter.unusedVariables false
set_option maxRecDepth 100000
set_option maxHeartbeats 4000000
open PySem PySem.W PyProof.Rows PySem.SeqAt Builtin Builtin.ObjectAttr
namespace Mine

theorem slot_ga : Slot "list_iterator" "__getattribute__" "object.__getattribute__" :=
  .of (owner := "object") (n := "__getattribute__") (by rw [typeLookup_type, builtinLookup_eq_fast]; kernel_rfl) (by decide +kernel) (by decide +kernel) (by decide +kernel)
    (by first | exact .inl (by decide +kernel) | exact .inr (by decide +kernel)) (by rw [isSubtype_type]; kernel_rfl)
theorem entry_ga : entryFor table "object.__getattribute__" = some Builtin.«object.__getattribute__» := entryFor_of_tree (by kernel_rfl)
theorem args_ga (a b : Value) : argsOk "object.__getattribute__" ⟨[a, b], []⟩ := by unfold argsOk; kernel_rfl
theorem slot_wg : Slot "wrapper_descriptor" "__get__" "wrapper_descriptor.__get__" :=
  .of (owner := "wrapper_descriptor") (n := "__get__") (by rw [typeLookup_type, builtinLookup_eq_fast]; kernel_rfl) (by decide +kernel) (by decide +kernel) (by decide +kernel)
    (by first | exact .inl (by decide +kernel) | exact .inr (by decide +kernel)) (by rw [isSubtype_type]; kernel_rfl)
theorem entry_wg : entryFor table "wrapper_descriptor.__get__" = some Builtin.«wrapper_descriptor.__get__» := entryFor_of_tree (by kernel_rfl)
theorem args_wg (a b c : Value) : argsOk "wrapper_descriptor.__get__" ⟨[a, b, c], []⟩ := by unfold argsOk; kernel_rfl
theorem type_lin : typeOf (.builtin "list_iterator.__next__") = pure (.type "wrapper_descriptor") := by show builtinType _ = _; rw [builtinType_eq_fast]; kernel_rfl
section
variable {prog : Program} {w : World} {A : Around} {E : Value → Shared → Prop} {s : Shared} {it l : Addr} {i : Nat}
abbrev liObj (l : Addr) (i : Nat) : Obj := { cls := .type "list_iterator", data := .fields #[.ref l, .int i 0] }
abbrev mwObj (it : Addr) : Obj := { cls := .type "method-wrapper", data := .fields #[.builtin "list_iterator.__next__", .ref it] }
theorem find_next {M : Model} {h : Heap} (ho : h.get? it = some (liObj l i)) : Looks M h (find (.ref it) (.type "list_iterator") "__next__") (.bind (.builtin "wrapper_descriptor.__get__") (.builtin "list_iterator.__next__")) := by
  have L1 : Looks M h (typeLookup (.type "list_iterator") "__next__") (some (.builtin "list_iterator.__next__")) := Looks.of_pure slot_listiter_next.lookup
  have X0 : Frag.In ([] : Frag) h := fun _ _ e => nomatch e
  have g1 : Looks M h (getOf (some (.builtin "list_iterator.__next__"))) (some (.builtin "wrapper_descriptor.__get__")) := looks_specialIn X0 (by kernel_rfl)
  have g2 : Looks M h (takesStores (.builtin "list_iterator.__next__")) false := looks_takesIn X0 (by kernel_rfl)
  have g3 : Looks M h (dataDescriptor? (some (.builtin "list_iterator.__next__")) (some (.builtin "wrapper_descriptor.__get__"))) none := g2.andThen .now
  have own : Looks M h (inOwnDict "__next__" (.ref it)) none := by
    intro A Q E s k q
    refine wpAny_bind (wpAny_bind (wpAny_loadPart (k _ _ ho) ?_))
    unfold instanceDict
    refine wpAny_bind (wpAny_loadPart (k _ _ ho) ?_)
    exact wpAny_pure (wpAny_pure q)
  refine L1.andThen (g1.andThen (g3.andThen (own.andThen ?_)))
  exact Looks.now.andThen (Looks.tag .now)
theorem next_attr {Q : Value → Shared → Prop} (ho : s.heap.get? it = some (liObj l i)) (h : Q (.ref s.heap.objs.size) { s with heap := s.heap.push (mwObj it), toks := s.toks + 1 }) :
    wpAny (model prog w) A (getAttr (.ref it) "__next__" true) Q E s := by
  obtain ⟨hp, g, d, tk, os⟩ := s
  have L0 : Looks (model prog w) hp (typeOf (.ref it)) (.type "list_iterator") := (Looks.ld ho).andThen .now
  have L1 : Looks (model prog w) hp (typeLookup (.type "list_iterator") "__getattribute__") (some (.builtin "object.__getattribute__")) := Looks.of_pure slot_ga.lookup
  have hT : (⟨hp, g, d, tk + 1, os⟩ : Shared).TypeIs (.ref it) "list_iterator" := ⟨_, ho, rfl⟩
  unfold getAttr getAttrBy
  refine wpAny_bind (wpAny_mkText (wpAny_holding (wpAny_bind (L0.at (wpAny_bind (L1.at ?_))))))
  show wpAny _ _ (getAttrByItsOwn _ _ _ _ _ _) _ _ _
  unfold getAttrByItsOwn
  refine wpAny_bind (wpAny_pure (wpAny_bind (wpAny_attempt (wpAny_holding ?_))))
  show wpAny _ _ (boundAndCalled _ _ _) _ _ _
  unfold boundAndCalled
  rw [slot_ga.bind]
  refine wpAny_bind (wpAny_pure ?_)
  refine wpAny_call_entry slot_ga hT entry_ga ?_ (args_ga _ _)
  show wpAny _ _ (Builtin.«object.__getattribute__» ⟨[.ref it, .str "__next__" tk], []⟩) _ _ (⟨hp, g, d, tk + 1, os⟩ : Shared)
  unfold Builtin.«object.__getattribute__»
  refine wpAny_bind (wpAny_of_eq (a := (Value.ref it, [Value.str "__next__" tk])) (by first | rfl | kernel_rfl) ?_)
  dsimp only
  refine wpAny_bind (wpAny_of_eq (a := Str.ofString "__next__") (by first | rfl | kernel_rfl) ?_)
  refine wpAny_bind (L0.at (wpAny_bind ((find_next ho).at ?_)))
  show wpAny _ _ (holding [_] (call _ _) >>= ret) _ _ _
  refine wpAny_bind (wpAny_holding ?_)
  have hT2 : (⟨hp, g, d, tk + 1, os⟩ : Shared).TypeIs (.builtin "list_iterator.__next__") "wrapper_descriptor" := by first | exact type_lin | exact ⟨_, type_lin⟩ | (unfold Shared.TypeIs; exact type_lin)
  refine wpAny_call_entry slot_wg hT2 entry_wg ?_ (args_wg _ _ _)
  have L2 : Looks (model prog w) hp (isSubtype (.type "list_iterator") (.type "list_iterator")) true := Looks.of_pure (by rw [isSubtype_type]; kernel_rfl)
  have L3 : Looks (model prog w) hp (isInstance (.ref it) (.type "list_iterator")) true := L0.andThen L2
  unfold Builtin.«wrapper_descriptor.__get__»
  show wpAny _ _ _ _ _ (⟨hp, g, d, tk + 1, os⟩ : Shared)
  unfold isInstance at L3
  repeat lk
  exact ⟨_, rfl, wpAny_pure ⟨_, rfl, wpAny_pure h⟩⟩
end
end Mine

end

section
set_option Elab.async false
set_option linter.unusedVariables false
set_option maxRecDepth 100000
set_option maxHeartbeats 4000000
open PySem PySem.W PyProof.Rows PySem.SeqAt
namespace Mine
theorem bound_next (it : Value) : checkBoundCall "list_iterator.__next__" ⟨[it], []⟩ = pure () := by kernel_rfl
theorem plain_next : plainId "list_iterator.__next__" = true := by decide +kernel

section
variable {prog : Program} {w : World} {A : Around} {E : Value → Shared → Prop} {s₀ s : Shared} {B : Heap} {X Y Z pre post : Led} {env : Env} {it l q : Addr} {i : Nat} {vs : List Value} {v : Value}

theorem call_mw {R : Result → Shared → Prop} (hq : s.heap.get? q = some (mwObj it)) (h : wpAny (model prog w) A.in1 (Builtin.«list_iterator.__next__» ⟨[.ref it], []⟩) (fun fin s' => match fin with | .done f => R (.ok f) s' | .again c' => c'.quiet = true ∧ codeAny (model prog w) A c' R s') (fun e s' => R (.error e) s') s) :
    codeAny (model prog w) A (.call (.ref q) ⟨[], []⟩) R s := by
  refine codeAny_of_tree ?_
  show wpAny _ _ (callAny (.ref q) _) _ _ _
  refine nd_load hq ?_
  show wpAny _ _ (checkBoundCall "list_iterator.__next__" ⟨[.ref it], []⟩ >>= fun _ => again (.builtin "list_iterator.__next__" ⟨[.ref it], []⟩)) _ _ _
  rw [bound_next]
  refine wpAny_bind (wpAny_pure (wpAny_pure ⟨plainId_quiet plain_next _, codeAny_builtin entry_listiter_next ?_⟩))
  rw [Around.under_plainId plain_next _]
  exact h

theorem call_next_item {Q : Value → Shared → Prop} (pre : Led) (hW : W s₀ B (pre ++ (it, LIterP l i) :: post) s) (hq : B.get? q = some (mwObj it)) (hl : s.heap.IsList l vs.toArray) (hx : vs[i]? = some v)
    (h : ∀ s', W s₀ B (pre ++ (it, LIterP l (i + 1)) :: post) s' → Q v s') : wpAny (model prog w) A (call (.ref q) []) Q E s := by
  obtain ⟨o, ho, hc, hd⟩ := hW.st.at (a := it) (P := LIterP l i) (by simp)
  obtain ⟨ol, hol, _, nl, hdl⟩ := hl
  refine wpAny_call (call_mw (hW.st.sub _ _ hq) ?_)
  show wpAny _ _ (field (.ref it) 0 >>= _) _ _ s
  refine wpAny_bind (wpAny_field ho hd (x := .ref l) rfl ?_)
  show wpAny _ _ (if (Value.ref l == Value.none) = true then _ else _) _ _ s
  rw [if_neg (show ¬ ((Value.ref l == Value.none) = true) from Bool.false_ne_true)]
  show wpAny _ _ (field (.ref it) 1 >>= _) _ _ s
  refine wpAny_bind (wpAny_field ho hd (x := .int i 0) rfl ?_)
  show wpAny _ _ (seqItems? (.ref l) >>= _) _ _ s
  refine wpAny_bind (wpAny_seqItems hol hdl ?_)
  have hx' : vs.toArray[i]? = some v := by simpa using hx
  simp only [Int.toNat_natCast, hx']
  refine wpAny_bind (wpAny_setField ho hd (by simp) (wpAny_pure (h _ (hW.to (tk := s.toks) (hW.st.upd pre (Heap.SameBut.update ..) ?_)))))
  exact ⟨_, Heap.get?_update_self _ ho (Obj.isFreed_of_fields (Obj.data_mapFields hd _)), (Obj.cls_mapFields ..).trans hc, by
    rw [Obj.data_mapFields hd]; simp [rawInt]⟩

theorem call_next_end {Q : Value → Shared → Prop} (hh : A.handled = none) (pre : Led) (hW : W s₀ B (pre ++ (it, LIterP l i) :: post) s) (hq : B.get? q = some (mwObj it)) (hl : s.heap.IsList l vs.toArray) (hx : vs[i]? = none)
    (h : ∀ e s', W s₀ B ((e, ExP "StopIteration" .none .none) :: (pre ++ (it, fun _ => True) :: post)) s' → E (.ref e) s') : wpAny (model prog w) A (call (.ref q) []) Q E s := by
  obtain ⟨o, ho, hc, hd⟩ := hW.st.at (a := it) (P := LIterP l i) (by simp)
  obtain ⟨ol, hol, _, nl, hdl⟩ := hl
  refine wpAny_call (call_mw (hW.st.sub _ _ hq) ?_)
  show wpAny _ _ (field (.ref it) 0 >>= _) _ _ s
  refine wpAny_bind (wpAny_field ho hd (x := .ref l) rfl ?_)
  show wpAny _ _ (if (Value.ref l == Value.none) = true then _ else _) _ _ s
  rw [if_neg (show ¬ ((Value.ref l == Value.none) = true) from Bool.false_ne_true)]
  show wpAny _ _ (field (.ref it) 1 >>= _) _ _ s
  refine wpAny_bind (wpAny_field ho hd (x := .int i 0) rfl ?_)
  show wpAny _ _ (seqItems? (.ref l) >>= _) _ _ s
  refine wpAny_bind (wpAny_seqItems hol hdl ?_)
  have hx' : vs.toArray[i]? = none := by simpa using hx
  simp only [Int.toNat_natCast, hx']
  refine wpAny_bind (wpAny_rule (wpAny_bind (wpAny_setField ho hd (by simp) ?_)))
  have W1 : W s₀ B (pre ++ (it, fun _ => True) :: post) { s with heap := s.heap.update it (·.mapFields (·.setIfInBounds 0 .none)) } :=
    hW.to (tk := s.toks) (hW.st.upd pre (Heap.SameBut.update ..) ⟨_, Heap.get?_update_self _ ho (Obj.isFreed_of_fields (Obj.data_mapFields hd _)), trivial⟩)
  generalize hs1 : ({ s with heap := s.heap.update it (·.mapFields (·.setIfInBounds 0 .none)) } : Shared) = s1 at W1
  show wpAny _ _ (newExc (.type "StopIteration") [] >>= _) _ _ s1
  refine wpAny_bind ?_
  simp only [newExc, newTuple]
  refine wpAny_bind (wpAny_newObj_type ?_ (by size_fits))
  refine wpAny_bind (m := firstArgMember _ _) (wpAny_of_eq (a := Value.none) (by first | rfl | (simp only [firstArgMember]; rfl)) ?_)
  refine wpAny_newObj_type ?_ (by size_fits)
  simp only [raiseNew]
  refine wpAny_bind (wpAny_handled ?_)
  rw [show A.in1.handled = none from hh]
  refine wpAny_bind (wpAny_pure (wpAny_throw ?_))
  have W2 := W1.to (tk := s1.toks) (W1.st.push { cls := .type "tuple", data := .seq ([] : List Value).toArray })
  exact h _ _ (W2.to (tk := s1.toks) (W2.st.new rfl ⟨rfl, _, rfl, rfl, rfl⟩))
end
end Mine

end

section
set_option Elab.async false
set_option linter.unusedVariables false
set_option maxRecDepth 100000
set_option maxHeartbeats 4000000
open PySem PySem.W PyProof.Rows PySem.SeqAt
namespace Mine
def StP (prog : Program) (w : World) (S : Int → Bool) (n : Nat) : As := fun o => ∃ es ep t, o.ExactSet ∧ o.data = .set es ep t ∧ ElemsOf (intKind prog w) es.toList ∧ (∀ k, S k = true ↔ ∃ e ∈ es.toList, (intKind prog w).is k e.2 = true)
    ∧ es.size < scanBound ∧ t.fits es.size = true ∧ es.size = n
def DcE (prog : Program) (w : World) (kvs : List (Int × Value)) (ep : Nat) : As := fun o => ∃ es, o.ExactDict ∧ o.data = .dict es ep ∧ KeysOf (intKind prog w) es ∧ Pairs (intKind prog w) es.toList kvs ∧ (kvs.map (·.1)).Nodup
theorem DcE.dcP {prog : Program} {w : World} {kvs : List (Int × Value)} {ep : Nat} {o : Obj} (h : DcE prog w kvs ep o) : DcP prog w kvs o := let ⟨es, r⟩ := h; ⟨es, ep, r⟩
section
variable {prog : Program} {w : World} {A : Around} {E : Value → Shared → Prop} {s₀ s : Shared} {B : Heap} {X Y pre post : Led} {env : Env} {K : Frag} {mg mb : Str → Option Value} {a d : Addr} {S : Int → Bool} {n : Nat} {kvs : List (Int × Value)}
theorem st_at {h : Heap} (H : St B X h) (hm : (a, StP prog w S n) ∈ X) : h.SetOf (intKind prog w) a S n := let ⟨o, ho, es, ep, t, r⟩ := H.at hm; ⟨o, es, ep, t, ho, r⟩
theorem st_of {h : Heap} (x : h.SetOf (intKind prog w) a S n) : ∃ o, h.get? a = some o ∧ StP prog w S n o := let ⟨o, es, ep, t, ho, r⟩ := x; ⟨o, ho, es, ep, t, r⟩
theorem de_at {h : Heap} {ep : Nat} (H : St B X h) (hm : (d, DcE prog w kvs ep) ∈ X) : h.DictAt (intKind prog w) d kvs ep := let ⟨o, ho, es, r⟩ := H.at hm; ⟨o, es, ho, r⟩

/-- set() -/
theorem ev_set0 {p pos : Pos} {Q : Value → Shared → Prop} (hG : G K mg mb B) (hW : W s₀ B X s) (h : ∀ D s', W s₀ B ((D, StP prog w (fun _ => false) 0) :: X) s' → Q (.ref D) s')
    (e : nsIn K mainGlobals "set" = some none := by with_unfolding_all rfl) (hg : env.globals = mainGlobals := by rfl) (hb : env.builtins = builtinsNs := by rfl) (hk : env.scope.kind = .function := by rfl) (hx : env.kindOf "set" = some .globalImplicit := by rfl) :
    wpAny (model prog w) A (eval (.Call (.Name "set" p) [] [] pos) env) Q E s := by
  refine wpAny_Call_NameR (ev_builtin hG hW boot_set (callWith_type0 (call_set_0 fun led => ?_)) e (by decide) hg hb hk hx)
  refine h _ _ (hW.to (tk := s.toks) (hW.st.new rfl ⟨#[], 0, _, ⟨rfl, rfl, rfl⟩, rfl, fun x hx => by simp at hx, fun k => by simp, by decide, ?_, rfl⟩))
  cases led <;> rfl
/-- e in a set -/
theorem EvT.inS {c : Cx} {l r : Expr} {pos : Pos} {t : Int} {a : Addr} {S : Int → Bool} {n : Nat} (hl : Ev c l (IsI t)) (hr : Ev c r (· = .ref a)) (hm : (a, StP c.prog c.w S n) ∈ c.X) (hb : behindInMarks .In r = false := by with_unfolding_all rfl) : EvT c (.Compare l [.In] [r] pos) (S t) :=
  Ev.cmp hl hr (fun s Q E v v' e1 e2 hW k => by
    subst e2
    obtain ⟨u, rfl⟩ := e1
    exact wpAny_inSet_of (knd := intKind c.prog c.w) (isKey ⟨u, rfl⟩) rfl (st_at hW.st hm) (k _ (hW.tok _))) hb
/-- e in a dict -/
theorem EvT.inD {c : Cx} {l r : Expr} {pos : Pos} {t : Int} {d : Addr} {kvs : List (Int × Value)} (hl : Ev c l (IsI t)) (hr : Ev c r (· = .ref d)) (hm : (d, DcP c.prog c.w kvs) ∈ c.X) (hd : (d == sysModules) = false) (hb : behindInMarks .In r = false := by with_unfolding_all rfl) : EvT c (.Compare l [.In] [r] pos) (valueAt kvs t).isSome :=
  Ev.cmp hl hr (fun s Q E v v' e1 e2 hW k => by
    subst e2
    exact wpAny_in_of (knd := intKind c.prog c.w) (isKey e1) hd (dc_at hW.st hm).mapOf (k _ (hW.tok _))) hb
/-- seen.add(e) -/
theorem add_set {o e : Expr} {apos pos p' : Pos} {t : Int} {Q : Flow → Shared → Prop} (pre : Led) (hW : W s₀ B (pre ++ (a, StP prog w S n) :: post) s) (ho : Ev ⟨prog, w, A, env, s₀, B, pre ++ (a, StP prog w S n) :: post⟩ o (· = .ref a)) (he : Ev ⟨prog, w, A, env, s₀, B, pre ++ (a, StP prog w S n) :: post⟩ e (IsI t)) (hn : n < 1000)
    (h : ∀ s', W s₀ B (pre ++ (a, StP prog w (fun k => S k || decide (k = t)) (if S t then n else n + 1)) :: post) s' → Q .next s')
    (hbase : attributeBase o "add" env (eval o env) = eval o env := by rfl) (hline : (apos.endLine == pos.line) = true := by rfl) (htrees : backTo pos (starEach [e] env) = [(false, eval e env)] := by rfl)
    (hi : interactive env = false := by rfl) (hs : swapsWith (.Call (.Attribute o "add" apos) [e] [] pos) none p'.line env = pure false := by rfl) :
    wpAny (model prog w) A (exec (.Expr (.Call (.Attribute o "add" apos) [e] [] pos) p') env) Q E s := by
  refine wpAny_Expr ?_ hi hs
  refine wpAny_Call_method1_late hbase hline htrees (ho s _ _ hW fun s1 v1 e1 W1 => ?_)
  subst e1
  have D := st_at (prog := prog) (w := w) (S := S) (n := n) W1.st (a := a) (by simp)
  refine ⟨"set", "set.add", F.plainAttrs_set, F.slot_set_add, F.type_set_add, D.typeIs, D.noDict, ?_⟩
  refine Calls.callWith_builtin rfl (Calls.evalArgs_plain (Calls.spliced_cons (he s1 _ _ W1 fun s2 v2 e2 W2 => Calls.spliced_nil ?_)))
  obtain ⟨u, rfl⟩ := e2
  exact call_set_add (knd := intKind prog w) (isKey ⟨u, rfl⟩) rfl (st_at W2.st (by simp)) (by show n + 1 < 4096; omega) fun h' hsb hS => h _ (W2.to (W2.st.upd pre hsb (st_of hS)))

/-- xs.pop() -/
theorem ev_pop {o : Expr} {apos pos : Pos} {us : List Value} {v : Value} {Q : Value → Shared → Prop} (pre : Led) (hW : W s₀ B (pre ++ (a, LsP (us ++ [v])) :: post) s) (ho : Ev ⟨prog, w, A, env, s₀, B, pre ++ (a, LsP (us ++ [v])) :: post⟩ o (· = .ref a)) (hz : us.length ≤ 1000)
    (h : ∀ s', W s₀ B (pre ++ (a, LsP us) :: post) s' → Q v s')
    (hbase : attributeBase o "pop" env (eval o env) = eval o env := by rfl) (hline : (apos.endLine == pos.line) = true := by rfl) :
    wpAny (model prog w) A (eval (.Call (.Attribute o "pop" apos) [] [] pos) env) Q E s := by
  refine wpAny_Call_method0_late hbase hline (ho s _ _ hW fun s1 v1 e1 W1 => ?_)
  subst e1
  obtain ⟨ob, hob, n, rfl⟩ := W1.st.at (a := a) (P := LsP (us ++ [v])) (by simp)
  have hT : s1.TypeIs (.ref a) "list" := ⟨_, hob, rfl⟩
  refine ⟨"list", "list.pop", F.plainAttrs_list, F.slot_list_pop, F.type_list_pop, hT, fun b e => by injection e with e; subst e; exact ⟨_, hob, rfl⟩, ?_⟩
  refine callWith_method0 (env := env) (call_meets F.slot_list_pop hT F.entry_list_pop (F.args_list_pop_1 _) (PySem.MeetsSeq.list_pop_last a (us ++ [v]).toArray n v (by simp) (by rw [sizeLine_eq]; simp; omega)) ⟨hob, ?_⟩)
  refine h _ (W1.to (tk := s1.toks) (W1.st.upd pre (Heap.SameBut.update ..) ⟨_, Heap.get?_update_self _ hob rfl, n + 1, ?_⟩))
  simp [Obj.mapSeq, List.eraseIdx_append_of_length_le]
/-- del d[e] of a made value -/
theorem del_key {t : Int} {k : Value} {Q : Unit → Shared → Prop} (pre : Led) (hW : W s₀ B (pre ++ (d, DcP prog w kvs) :: post) s) (hk : IsI t k) (hz : kvs.length ≤ 1000) (hv : (valueAt kvs t).isSome = true)
    (h : ∀ s', W s₀ B (pre ++ (d, DcP prog w (without kvs t)) :: post) s' → Q () s') : wpAny (model prog w) A (delItem (.ref d) k) Q E s := by
  have hD := dc_at (prog := prog) (w := w) (kvs := kvs) (d := d) hW.st (by simp)
  unfold delItem
  try with_reducible refine wpAny_holding ?_
  refine wpAny_bind (wpAny_sequenceKey hD.typeIs (by decide) ?_)
  refine wpAny_bind (wpAny_callSpecial?_slot (name := Str.ofString "__delitem__") hD.typeIs PySem.F.slot_dict_delitem
    (call_meetsIn PySem.F.slot_dict_delitem hD.typeIs PySem.F.entry_dict_delitem (PySem.F.args_dict_delitem_2 _ _) (meets_dict_delitem_pairs (intKind prog w) d (isKey hk)) ⟨kvs, hD, by rw [sizeLine_eq]; omega, hv, fun h' hmm hs => ?_⟩))
  exact wpAny_pure (h _ (hW.to (hW.st.upd pre hs (dc_of hmm))))
/-- iter(xs) -/
theorem call_iter {vs : List Value} {Q : Value → Shared → Prop} (hl : s.heap.IsList a vs.toArray) (h : Q (.ref s.heap.objs.size) { s with heap := s.heap.push (liObj a 0) }) : wpAny (model prog w) A (call (.builtin "iter") [.ref a]) Q E s := by
  refine Calls.call_function_entry (by decide +kernel) (by decide +kernel) kdk_entry_iter (kdk_args_iter _) ?_
  unfold Builtin.«iter»
  refine wpAny_bind (wpAny_of_eq (a := [Value.ref a]) (by first | rfl | kernel_rfl) ?_)
  show wpAny _ _ (pyIter (.ref a) >>= _) _ _ _
  exact wpAny_bind (wpAny_pyIter_list hl (wpAny_pure ⟨_, rfl, h⟩))
/-- f() of an item -/
theorem eval_CallSub (o i : Expr) (p pos : Pos) (env : Env) : eval (.Call (.Subscript o i p) [] [] pos) env = (do
    let f ← eval (.Subscript o i p) env
    callWith pos f [] [] []) := rfl
theorem ev_callSub {o i : Expr} {p pos : Pos} {Q : Value → Shared → Prop} (h : wpAny (model prog w) A (eval (.Subscript o i p) env) (fun f s₁ => (∃ q it, f = .ref q ∧ s₁.heap.get? q = some (mwObj it)) ∧ wpAny (model prog w) A (call f []) Q E s₁) E s) :
    wpAny (model prog w) A (eval (.Call (.Subscript o i p) [] [] pos) env) Q E s := by
  rw [eval_CallSub]
  refine wpAny_bind (wpAny_mono h (fun f s₁ h₁ => ?_) fun _ _ x => x)
  obtain ⟨⟨q, it, rfl, hq⟩, hc⟩ := h₁
  refine callWith_of (P := fun h => h.get? q = some (mwObj it)) rfl (fun h hp => ⟨.machine, .inr (.inl rfl), (Looks.ld (part := none) hp).andThen .now⟩) (evalArgs_nil3 ⟨hq, hc⟩)
/-- xs[-1] -/
theorem ev_last {o : Expr} {k : Nat} {p1 p2 pos : Pos} {us : List Value} {v : Value} {Q : Value → Shared → Prop} (hW : W s₀ B X s) (ho : Ev ⟨prog, w, A, env, s₀, B, X⟩ o (· = .ref a)) (hm : (a, LsP (us ++ [v])) ∈ X) (h : ∀ s', W s₀ B X s' → Q v s') :
    wpAny (model prog w) A (eval (.Subscript o (.UnaryOp .USub (.Constant (.int 1) k p1) p2) pos) env) Q E s := by
  refine ev_sub (T := "list") slot_list_getitem.lookup (ho s _ _ hW fun s1 v1 e1 W1 => ?_)
  subst e1
  refine UnaryOp_ (wpAny_Constant_int (neg_int ?_))
  have W2 := (W1.tok (s1.toks + 1)).tok (s1.toks + 1 + 1)
  obtain ⟨ob, hob, pb⟩ := W2.st.at hm
  have hl := pb.isList hob
  refine ⟨hl.typeIs, wpAny_getItem_list_neg hl (by decide) (by simp; omega) (by decide) ?_ (h _ W2)⟩
  have e : ((-1 : Int) + ((us ++ [v]).toArray.size : Int)).toNat = us.length := by simp; omega
  rw [e]
  simp
theorem truthy_ls {vs : List Value} {Q : Bool → Shared → Prop} (hW : W s₀ B X s) (hm : (a, LsP vs) ∈ X) (hz : vs.length ≤ 1000) (h : ∀ s', W s₀ B X s' → Q (!vs.isEmpty) s') : wpAny (model prog w) A (truthy (.ref a)) Q E s := by
  obtain ⟨ob, hob, pb⟩ := hW.st.at hm
  refine wpAny_truthy_list (pb.isList hob) (by simp; omega) ?_
  have := h _ ((hW.tok (s.toks + 1)).tok (s.toks + 1 + 1))
  simpa using this

/-! the dict's iterators -/
def DkP (kind : String) (d : Addr) (n ep : Nat) (i : Nat) : As := fun o => o.cls = .type kind ∧ o.data = .fields #[.ref d, .int i 0, .int n 0, .int ep 0]
theorem it_keys (hh : A.handled = none) (I d : Addr) (kvs : List (Int × Value)) (ep : Nat) : It prog w A I kvs.length (fun i v => ∃ t u, kvs[i]? = some (t, u) ∧ IsI t v) (DkP "dict_keyiterator" d kvs.length ep) (fun h => h.DictAt (intKind prog w) d kvs ep) where
  item := fun i s Q E hi hc hr hQ => by
    refine wpAny_pyNext_dict_item (knd := intKind prog w) (i := i) hc hr (k := kvs[i].1) (v := kvs[i].2) (by simp [hi]) fun key h' hk hit' hs' => ?_
    exact hQ _ h' s.toks ⟨kvs[i].1, kvs[i].2, by simp [hi], Value.isInt_shape hk⟩ hit' hs'
  done := fun s Q E hc hr hQ => wpAny_pyNext_dict_end (knd := intKind prog w) hh (i := kvs.length) hc hr (by simp) fun h' he' => hQ h' s.toks he'
  self := fun i s Q E hc hr h => wpAny_pyIter_keyiter hc h
  lot := fun target i v s Q E hc h => by
    obtain ⟨o, ho, hc⟩ := hc
    exact lot_any ho hc.1 (by decide) h
theorem it_vals (hh : A.handled = none) (I d : Addr) (kvs : List (Int × Value)) (ep : Nat) : It prog w A I kvs.length (fun i v => ∃ t, kvs[i]? = some (t, v)) (DkP "dict_valueiterator" d kvs.length ep) (fun h => h.DictAt (intKind prog w) d kvs ep) where
  item := fun i s Q E hi hc hr hQ => by
    refine wpAny_pyNext_values_item (knd := intKind prog w) (i := i) hc hr (k := kvs[i].1) (v := kvs[i].2) (by simp [hi]) fun h' hit' hs' => ?_
    exact hQ _ h' s.toks ⟨kvs[i].1, by simp [hi]⟩ hit' hs'
  done := fun s Q E hc hr hQ => wpAny_pyNext_values_end (knd := intKind prog w) hh (i := kvs.length) hc hr (by simp) fun h' he' => hQ h' s.toks he'
  self := fun i s Q E hc hr h => wpAny_pyIter_valiter hc h
  lot := fun target i v s Q E hc h => by
    obtain ⟨o, ho, hc⟩ := hc
    exact lot_any ho hc.1 (by decide) h
end
end Mine

end

section
set_option Elab.async false
set_option linter.unusedVariables false
set_option maxRecDepth 100000
set_option maxHeartbeats 4000000
open PySem PySem.W PyProof.Rows PySem.SeqAt
namespace Mine
theorem boot_StopIteration : bootBuiltins "StopIteration" = some (.type "StopIteration") := by decide +kernel

structure Fk where
  d : Nd
  it : Addr
  q : Addr
  i : Nat
def itLed (fs : List Fk) : Led := fs.map fun f => (f.it, LIterP f.d.sa f.i)
def sumU (l : List Nd) (S : Int → Bool) : Nat := (l.map fun d => if S d.t then 0 else d.ss.length + 1).sum
def mu (fs : List Fk) (l : List Nd) (S : Int → Bool) : Nat := (fs.map fun f => f.d.ss.length - f.i).sum + sumU l S
theorem sumU_app (l l' : List Nd) (S : Int → Bool) : sumU (l ++ l') S = sumU l S + sumU l' S := by simp [sumU]
theorem sumU_cons (d : Nd) (l : List Nd) (S : Int → Bool) : sumU (d :: l) S = (if S d.t then 0 else d.ss.length + 1) + sumU l S := by simp [sumU]
theorem sumU_same {l : List Nd} {S : Int → Bool} {t : Int} (h : ∀ e ∈ l, e.t ≠ t) : sumU l (fun k => S k || decide (k = t)) = sumU l S := by
  unfold sumU
  congr 1
  refine List.map_congr_left fun e he => ?_
  simp [h e he]
theorem sumU_add {la lb : List Nd} {d : Nd} {S : Int → Bool} (nd : ((la ++ d :: lb).map (·.t)).Nodup) (h : S d.t = false) : sumU (la ++ d :: lb) (fun k => S k || decide (k = d.t)) + (d.ss.length + 1) = sumU (la ++ d :: lb) S := by
  have nd' := (List.Perm.map (·.t) (List.perm_middle (a := d) (l₁ := la) (l₂ := lb))).nodup_iff.mp nd
  rw [List.map_cons, List.nodup_cons] at nd'
  have h1 : ∀ e ∈ la ++ lb, e.t ≠ d.t := fun e he q => nd'.1 (q ▸ List.mem_map.mpr ⟨e, he, rfl⟩)
  rw [sumU_app, sumU_app, sumU_cons, sumU_cons, sumU_same fun e he => h1 e (List.mem_append_left _ he), sumU_same fun e he => h1 e (List.mem_append_right _ he)]
  simp [h]
  omega

structure FcI (B : Heap) (l : List Nd) (S : Int → Bool) (n : Nat) (kvs : List (Int × Value)) (fs : List Fk) (vs : List Value) : Prop where
  fv : F2 (RInt B) vs (fs.map (·.d.t))
  ok : ∀ f ∈ fs, B.get? f.q = some (mwObj f.it) ∧ f.d ∈ l ∧ f.i ≤ f.d.ss.length
  ks : kvs.map (·.1) = fs.map (·.d.t)
  inc : (fs.map (·.d.t)).Pairwise (· < ·)
  nn : n + sumU l S ≤ 500
  fl : fs.length + sumU l S ≤ 500
structure FcM (m : Str → Option Value) (n2 sk ik se ns : Addr) : Prop where
  mn : m (Str.ofString "n2i") = some (.ref n2)
  ms : m (Str.ofString "stack") = some (.ref sk)
  mi : m (Str.ofString "itstack") = some (.ref ik)
  me : m (Str.ofString "seen") = some (.ref se)
  md : m (Str.ofString "node2stacki") = some (.ref ns)
theorem FcM.node {m : Str → Option Value} {n2 sk ik se ns : Addr} {v : Value} (h : FcM m n2 sk ik se ns) : FcM (up m (Str.ofString "node") v) n2 sk ik se ns :=
  ⟨(up_ne (by decide)).trans h.mn, (up_ne (by decide)).trans h.ms, (up_ne (by decide)).trans h.mi, (up_ne (by decide)).trans h.me, (up_ne (by decide)).trans h.md⟩
abbrev qsOf (fs : List Fk) : List Value := fs.map fun f => .ref f.q
abbrev RX (prog : Program) (w : World) (n2 dx : Addr) (ep : Nat) (rd po nf : Value) (l : List Nd) (Y : Led) : Led := (n2, DcE prog w (prs l) ep) :: (dx, DoP w (soK (.ref n2) rd po nf)) :: (ndLed l ++ Y)
abbrev FcX (prog : Program) (w : World) (L sk ik se ns : Addr) (m : Str → Option Value) (vs qs : List Value) (S : Int → Bool) (n : Nat) (kvs : List (Int × Value)) (Z R : Led) : Led :=
  (L, NsP m) :: (sk, LsP vs) :: (ik, LsP qs) :: (se, StP prog w S n) :: (ns, DcP prog w kvs) :: (Z ++ R)
theorem itLed_snoc (fs : List Fk) (f : Fk) (R : Led) : itLed (fs ++ [f]) ++ R = itLed fs ++ (f.it, LIterP f.d.sa f.i) :: R := by simp [itLed]
theorem va_isSome (kvs : List (Int × Value)) (t : Int) : (valueAt kvs t).isSome = true ↔ t ∈ kvs.map (·.1) := by
  unfold valueAt
  rw [Option.isSome_map, List.find?_isSome]
  simp only [decide_eq_true_eq, List.mem_map]
theorem without_last {kvs : List (Int × Value)} {ts : List Int} {t : Int} (h : kvs.map (·.1) = ts ++ [t]) (hn : t ∉ ts) : (without kvs t).map (·.1) = ts := by
  unfold without
  have e : (kvs.filter fun kv => decide (kv.1 ≠ t)).map (·.1) = (kvs.map (·.1)).filter fun k => decide (k ≠ t) := by
    rw [List.filter_map]; rfl
  rw [e, h, List.filter_append]
  have h1 : ts.filter (fun k => decide (k ≠ t)) = ts := List.filter_eq_self.mpr fun a ha => by simpa using fun (q : a = t) => hn (q ▸ ha)
  rw [h1]; simp
theorem stored_new' {kvs : List (Int × Value)} {t : Int} {v : Value} (h : t ∉ kvs.map (·.1)) : stored kvs t v = kvs ++ [(t, v)] := by
  unfold stored
  rw [if_neg]
  simp only [List.any_eq_true, not_exists]
  rintro p ⟨hp, hq⟩
  exact h (List.mem_map.mpr ⟨p, hp, by simpa using hq⟩)
theorem Ev.ditemP {c : Cx} {P : As} {d : Addr} {kvs : List (Int × Value)} {t : Int} {v : Value} {o e : Expr} {pos : Pos} (ho : Ev c o (· = .ref d)) (he : Ev c e (IsI t)) (hm : (d, P) ∈ c.X) (hP : ∀ ob, P ob → DcP c.prog c.w kvs ob) (hv : valueAt kvs t = some v)
    (hs : ∀ ov iv, subscripted e false ov iv = operate [ov, iv] (getItem ov iv) := by intro _ _; rfl) :
    Ev c (.Subscript o e pos) (· = v) := fun s Q E hW h => by
  refine ev_sub (T := "dict") slot_dict_getitem.lookup (ho s _ _ hW fun s1 v1 e1 W1 => ?_) hs
  subst e1
  refine he s1 _ _ W1 fun s2 v2 e2 W2 => ?_
  obtain ⟨ob, hob, pb⟩ := W2.st.at hm
  obtain ⟨es, ep, r⟩ := hP ob pb
  have D : s2.heap.DictOf (intKind c.prog c.w) d kvs := ⟨ob, es, ep, hob, r⟩
  exact ⟨D.typeIs, wpAny_getItem_of (knd := intKind c.prog c.w) (isKey e2) D.mapOf hv (h _ _ rfl (W2.tok _))⟩

theorem F2.snoc {α β : Type} {R : α → β → Prop} {m : List β} {l : List α} {b : β} (x : F2 R l (m ++ [b])) : ∃ l0 a, l = l0 ++ [a] ∧ F2 R l0 m ∧ R a b := by
  induction m generalizing l with
  | nil => cases x with | cons h r => cases r; exact ⟨[], _, rfl, .nil, h⟩
  | cons c m ih => cases x with | cons h r => obtain ⟨l0, a, rfl, f, g⟩ := ih r; exact ⟨_ :: l0, a, rfl, .cons h f, g⟩
theorem fc_perm {prog : Program} {w : World} {L sk ik se ns n2 dx : Addr} {m : Str → Option Value} {vs qs : List Value} {S : Int → Bool} {n ep : Nat} {kvs : List (Int × Value)} {Z Y : Led} {rd po nf : Value} {l : List Nd} (p : Addr × As) :
    (p :: FcX prog w L sk ik se ns m vs qs S n kvs Z (RX prog w n2 dx ep rd po nf l Y)).Perm (FcX prog w L sk ik se ns m vs qs S n kvs Z (RX prog w n2 dx ep rd po nf l (p :: Y))) := by
  have e : ∀ Y : Led, FcX prog w L sk ik se ns m vs qs S n kvs Z (RX prog w n2 dx ep rd po nf l Y) = ((L, NsP m) :: (sk, LsP vs) :: (ik, LsP qs) :: (se, StP prog w S n) :: (ns, DcP prog w kvs) :: (Z ++ ((n2, DcE prog w (prs l) ep) :: (dx, DoP w (soK (.ref n2) rd po nf)) :: ndLed l))) ++ Y := by intro Y; simp
  rw [e, e]
  exact List.perm_middle.symm

inductive FcJ (prog : Program) (w : World) (L sk ik se ns n2 dx : Addr) (ep : Nat) (rd po nf : Value) (l : List Nd) (Y : Led) (i : Nat) (B' : Heap) (X' : Led) : Prop
  | mk (m : Str → Option Value) (S : Int → Bool) (n : Nat) (hX : X' = FcX prog w L sk ik se ns m [] [] S n [] (itLed []) (RX prog w n2 dx ep rd po nf l Y)) (h1 : FcM m n2 sk ik se ns) (h2 : n + sumU l S ≤ 500) (h3 : sumU l S ≤ 400) : FcJ prog w L sk ik se ns n2 dx ep rd po nf l Y i B' X'
inductive FcK (prog : Program) (w : World) (L sk ik se ns n2 dx : Addr) (ep : Nat) (rd po nf : Value) (l : List Nd) (Y : Led) (k : Nat) (B' : Heap) (X' : Led) : Prop
  | mk (m : Str → Option Value) (S : Int → Bool) (n : Nat) (kvs : List (Int × Value)) (fs : List Fk) (vs : List Value) (t : Int) (tk : Tok) (hX : X' = FcX prog w L sk ik se ns m vs (qsOf fs) S n kvs (itLed fs) (RX prog w n2 dx ep rd po nf l Y)) (h1 : FcM m n2 sk ik se ns) (h2 : m (Str.ofString "node") = some (.int t tk))
      (h3 : FcI B' l S n kvs fs vs) (h4 : ∀ f ∈ fs, f.d.t < t) (h5 : t ∈ l.map (·.t)) (h6 : sumU l S ≤ 400) (h7 : k = mu fs l S) : FcK prog w L sk ik se ns n2 dx ep rd po nf l Y k B' X'
inductive FcN (prog : Program) (w : World) (L sk ik se ns n2 dx : Addr) (ep : Nat) (rd po nf : Value) (l : List Nd) (Y : Led) (s₀ : Shared) (mx : Nat) (B2 : Heap) (s' : Shared) : Prop
  | mk (B3 : Heap) (m : Str → Option Value) (S : Int → Bool) (n : Nat) (kvs : List (Int × Value)) (fs : List Fk) (vs : List Value) (h1 : Sub B2 B3) (h2 : FcM m n2 sk ik se ns) (h3 : FcI B3 l S n kvs fs vs) (h4 : mu fs l S ≤ mx) (h5 : sumU l S ≤ 400)
      (h6 : W s₀ B3 (FcX prog w L sk ik se ns m vs (qsOf fs) S n kvs (itLed fs) (RX prog w n2 dx ep rd po nf l Y)) s') : FcN prog w L sk ik se ns n2 dx ep rd po nf l Y s₀ mx B2 s'
inductive FcL (prog : Program) (w : World) (L sk ik se ns n2 dx : Addr) (ep : Nat) (rd po nf : Value) (l : List Nd) (Y : Led) (s₀ : Shared) (mx : Nat) (B3 : Heap) (j : Nat) (s' : Shared) : Prop
  | mk (B4 : Heap) (m : Str → Option Value) (S : Int → Bool) (n : Nat) (kvs : List (Int × Value)) (fs : List Fk) (vs : List Value) (h1 : Sub B3 B4) (h2 : FcM m n2 sk ik se ns) (h3 : FcI B4 l S n kvs fs vs) (h4 : mu fs l S ≤ mx) (h5 : sumU l S ≤ 400) (h6 : j = fs.length)
      (h7 : W s₀ B4 (FcX prog w L sk ik se ns m vs (qsOf fs) S n kvs (itLed fs) (RX prog w n2 dx ep rd po nf l Y)) s') : FcL prog w L sk ik se ns n2 dx ep rd po nf l Y s₀ mx B3 j s'
section
variable {prog : Program} {w : World} {A : Around} {E : Value → Shared → Prop} {s₀ s : Shared} {B : Heap} {X Y Z pre post : Led} {env : Env} {mg mb : Str → Option Value} {x dx n2 : Addr} {rd po nf : Value} {l : List Nd}
/-- _find_cycle, where all arcs lead upward -/
theorem fc_call {np : Int → Int} {cn : Int → Int → Nat} {N : Nat} {Q : Value → Shared → Prop} (hG : G (KF w) mg mb B) (hW : W s₀ B (SX prog w n2 dx rd po nf l Y) s) (hR : Rm A 2 30) (hF : FS A Y) (hx : B.get? x = some (instObj 137 dx)) (hn : (n2 == sysModules) = false) (hda : DaOk B l) (P : Pl l np cn N)
    (hup : ∀ d ∈ l, ∀ u ∈ d.ss, d.t < u ∧ u ∈ l.map (·.t)) (hsum : sumU l (fun _ => false) ≤ 400)
    (h : ∀ B' s', Sub B B' → W s₀ B' (SX prog w n2 dx rd po nf l Y) s' → Q .none s') : wpAny (model prog w) A (call (.ref 127) [.ref x]) Q E s := by
  obtain ⟨outer, hfr0, hok0⟩ := hF
  refine call_fn (binds := [(Str.ofString "self", .ref x)]) hG hW (by with_unfolding_all rfl) (by with_unfolding_all rfl) (by with_unfolding_all rfl) (by have := hR.d; omega) (BindsTo.of_eq (by with_unfolding_all rfl)) (by decide) ?_ (by with_unfolding_all rfl) (by with_unfolding_all rfl) (by with_unfolding_all rfl) ?_
  · intro y hy
    rcases List.mem_singleton.mp hy with rfl
    with_unfolding_all rfl
  intro L s1 W1
  obtain ⟨m, hms, W1⟩ : Ex2 (fun m : Str → Option Value => m (Str.ofString "self") = some (.ref x)) (fun m : Str → Option Value => W s₀ B ((L, NsP m) :: SX prog w n2 dx rd po nf l Y) s1) := ⟨_, by with_unfolding_all rfl, W1⟩
  have R1 := hR.deeper (d := 1) (u := 27)
  have hfr : ∀ env : Env, (A.deeper env).frames = some (env :: outer) := fun env => by show A.frames.map _ = _; rw [hfr0]; rfl
  have hok : ∀ (env : Env) (Z : Led) (m : Str → Option Value), env.scope.kind = .function → env.frame = some L → (L, NsP m) ∈ Z → (∀ p ∈ Y, p ∈ Z) → FrOk (env :: outer) Z := fun env Z m hk hf hm hs e he => by
    rcases List.mem_cons.mp he with rfl | he
    · exact ⟨by rw [hk]; decide, L, m, hf, hm⟩
    · exact hok0.sub hs e he
  -- n2i = self._node2info
  refine wpAny_execs_cons (wpAny_Assign_Name ((Ev.own (c := ⟨prog, w, _, _, s₀, B, _⟩) (kvs := soK (.ref n2) rd po nf) (v := .ref n2) hG (Ev.local (m := m) (by k_mem) hms) hx (by k_mem) rfl) s1 _ _ W1 fun s2 v2 e2 W2 => ?_))
  subst e2
  refine st_local [] W2 fun s3 W3 => ?_
  -- stack = []; itstack = []; seen = set(); node2stacki = {}
  refine wpAny_execs_cons (wpAny_Assign_Name (ev_nil W3 fun sk s4 W4 => st_local [(sk, LsP [])] W4 fun s5 W5 => ?_))
  refine wpAny_execs_cons (wpAny_Assign_Name (ev_nil W5 fun ik s6 W6 => st_local [(ik, LsP []), (sk, LsP [])] W6 fun s7 W7 => ?_))
  refine wpAny_execs_cons (wpAny_Assign_Name (ev_set0 hG W7 fun se s8 W8 => st_local [(se, StP prog w (fun _ => false) 0), (ik, LsP []), (sk, LsP [])] W8 fun s9 W9 => ?_))
  refine wpAny_execs_cons (wpAny_Assign_Name (ev_dict0 hG W9 fun ns s10 hns W10 => st_local [(ns, DcP prog w []), (se, StP prog w (fun _ => false) 0), (ik, LsP []), (sk, LsP [])] W10 fun s11 W11 => ?_))
  obtain ⟨m1, hm1, W11⟩ : Ex2 (fun m : Str → Option Value => FcM m n2 sk ik se ns) (fun m : Str → Option Value => W s₀ B ((ns, DcP prog w []) :: (se, StP prog w (fun _ => false) 0) :: (ik, LsP []) :: (sk, LsP []) :: (L, NsP m) :: SX prog w n2 dx rd po nf l Y) s11) :=
    ⟨_, ⟨(up_ne (by decide)).trans ((up_ne (by decide)).trans ((up_ne (by decide)).trans ((up_ne (by decide)).trans (up_self _ _ _)))), (up_ne (by decide)).trans ((up_ne (by decide)).trans ((up_ne (by decide)).trans (up_self _ _ _))), (up_ne (by decide)).trans ((up_ne (by decide)).trans (up_self _ _ _)), (up_ne (by decide)).trans (up_self _ _ _), up_self _ _ _⟩, W11⟩
  have W12 : W s₀ B ((L, NsP m1) :: (sk, LsP []) :: (ik, LsP []) :: (se, StP prog w (fun _ => false) 0) :: (ns, DcP prog w []) :: SX prog w n2 dx rd po nf l Y) s11 := W11.perm (by
    refine List.Perm.trans (List.Perm.append_right (l₁ := [(ns, DcP prog w []), (se, StP prog w (fun _ => false) 0), (ik, LsP []), (sk, LsP []), (L, NsP m1)]) (l₂ := [(L, NsP m1), (sk, LsP []), (ik, LsP []), (se, StP prog w (fun _ => false) 0), (ns, DcP prog w [])]) _ ?_) (List.Perm.refl _)
    exact (List.reverse_perm [(L, NsP m1), (sk, LsP []), (ik, LsP []), (se, StP prog w (fun _ => false) 0), (ns, DcP prog w [])]))
  obtain ⟨ep, -, W13⟩ := W.ex (pre := []) (R := fun _ => True) (P := DcE prog w (prs l)) [(L, NsP m1), (sk, LsP []), (ik, LsP []), (se, StP prog w (fun _ => false) 0), (ns, DcP prog w [])] (W12.re (W12.st.imp [(L, NsP m1), (sk, LsP []), (ik, LsP []), (se, StP prog w (fun _ => false) 0), (ns, DcP prog w [])] (P' := fun o => ∃ ep, True ∧ DcE prog w (prs l) ep o) fun o ⟨es, ep, r⟩ => ⟨ep, trivial, es, r⟩))
  have hlen : l.length ≤ 400 := by
    have : ∀ l : List Nd, l.length ≤ sumU l (fun _ => false) := fun l => by
      induction l with
      | nil => simp
      | cons d r ih => rw [sumU_cons]; simp; omega
    have := this l; omega
  -- for node in n2i
  refine wpAny_execs_cons (wpAny_For (ev_local W13 (m := m1) (by k_mem) hm1.mn ?_))
  refine wpAny_pyIter_dict (knd := intKind prog w) hn (de_at W13.st (ep := ep) (kvs := prs l) (by simp)) ?_
  refine for_it (s₀ := s₀) (B := B) (X := FcX prog w L sk ik se ns m1 [] [] (fun _ => false) 0 [] (itLed []) (RX prog w n2 dx ep rd po nf l Y)) (it_keys (R1 _).h s11.heap.objs.size n2 (prs l) ep)
    (FcJ prog w L sk ik se ns n2 dx ep rd po nf l Y) ?_ ?_ ?_ ?_ ?_
  · rintro i B' X' h hs ⟨m, S, n, rfl, -⟩ H
    exact de_at H (by simp [itLed])
  · exact W13.to (tk := s11.toks) (W13.st.new rfl ⟨rfl, rfl⟩)
  · exact ⟨m1, _, 0, rfl, hm1, by omega, hsum⟩
  · rintro i v B1 X1 s12 hi ⟨t, u, hkv, tk, rfl⟩ hs1 ⟨m, S, n, rfl, hm, hnn, hsu⟩ W14
    have htl : t ∈ l.map (·.t) := by
      have := List.mem_map_of_mem (f := (·.1)) (List.mem_of_getElem? hkv)
      simpa [prs] using this
    generalize hI : (s11.heap.objs.size, DkP "dict_keyiterator" n2 (prs l).length ep (i + 1)) = pI at W14
    have hG1 := hG.mono hs1
    have hda1 := hda.mono hs1
    refine abs_turn fun Qt hQt => ?_
    refine as_name [pI] W14 fun s13 W15 => ?_
    have hm2 : FcM (up m (Str.ofString "node") (.int t tk)) n2 sk ik se ns := hm.node
    have hmt := up_self m (Str.ofString "node") (.int t tk)
    generalize up m (Str.ofString "node") (.int t tk) = m2 at W15 hm2 hmt
    have W16 := W15.perm (fc_perm pI)
    refine wpAny_execs_cons (wpAny_If ((EvT.inS (c := ⟨prog, w, _, _, s₀, B1, _⟩) (t := t) (S := S) (n := n) (Ev.imp (Ev.local (m := m2) (by k_mem) hmt) fun u e => ⟨tk, e⟩) (Ev.local (m := m2) (by k_mem) hm2.me) (by k_mem)) s13 _ _ W16 fun s14 W17 => ?_))
    cases hSt : S t with
    | true =>
      rw [if_pos rfl]
      exact wpAny_execs_cons (wpAny_Continue (hQt .cont _ ⟨B1, _, Sub.refl _, ⟨m2, S, n, rfl, hm2, hnn, hsu⟩, W17.perm (fc_perm pI).symm⟩))
    | false =>
      rw [if_neg Bool.false_ne_true]
      refine wpAny_execs_nil ?_
      refine wpAny_execs_cons (while_it (FcK prog w L sk ik se ns n2 dx ep rd po nf l (pI :: Y)) (mu [] l S) W17 ⟨m2, S, n, [], [], [], t, tk, rfl, hm2, hmt, ⟨.nil, (fun _ h => nomatch h), rfl, .nil, hnn, by simp; omega⟩, (fun _ h => nomatch h), htl, hsu, rfl⟩ ?_)
      rintro k B2 X2 hs2 ⟨m, S, n, kvs, fs, vs, t, tk, rfl, hm, hmt, I1, hlt, htl, hsu, rfl⟩
      refine ⟨true, fun s Q E hW k => wpAny_isTrue_value (wpAny_Constant_bool (wpAny_truthy_bool (k s hW))), fun _ s15 W18 => ?_, fun q => (Bool.noConfusion q)⟩
      refine abs_post fun Qb hQb => ?_
      have hG2 := hG1.mono hs2
      have hda2 := hda1.mono hs2
      refine wpAny_execs_cons (wpAny_mono (Q := fun f s' => f = .next ∧ FcN prog w L sk ik se ns n2 dx ep rd po nf l (pI :: Y) s₀ (mu fs l S) B2 s') (E := NoE) ?_ ?_ (fun _ _ f => f.elim))
      · -- the node
        refine abs_post fun Qn hQn => ?_
        refine wpAny_If ((EvT.inS (c := ⟨prog, w, _, _, s₀, B2, _⟩) (t := t) (S := S) (n := n) (Ev.imp (Ev.local (m := m) (by k_mem) hmt) fun u e => ⟨tk, e⟩) (Ev.local (m := m) (by k_mem) hm.me) (by k_mem)) s15 _ _ W18 fun s16 W19 => ?_)
        have hnk : t ∉ kvs.map (·.1) := by
          rw [I1.ks]
          intro hm'
          obtain ⟨f, hf, e⟩ := List.mem_map.mp hm'
          exact absurd (hlt f hf) (by rw [e]; omega)
        cases hSt : S t with
        | true =>
          rw [if_pos rfl]
          refine wpAny_execs_cons (wpAny_If ((EvT.inD (c := ⟨prog, w, _, _, s₀, B2, _⟩) (t := t) (kvs := kvs) (Ev.imp (Ev.local (m := m) (by k_mem) hmt) fun u e => ⟨tk, e⟩) (Ev.local (m := m) (by k_mem) hm.md) (by k_mem) hns) s16 _ _ W19 fun s17 W20 => ?_))
          rw [if_neg (by rw [va_isSome]; exact hnk)]
          exact wpAny_execs_nil (wpAny_execs_nil (hQn _ _ ⟨rfl, B2, m, S, n, kvs, fs, vs, Sub.refl _, hm, I1, Nat.le_refl _, hsu, W20⟩))
        | false =>
          rw [if_neg Bool.false_ne_true]
          rcases va_cases l t with ⟨_, hno⟩ | ⟨la, d, lb, hl, hdt, hva⟩
          · exact absurd htl hno
          have hdl : d ∈ l := by rw [hl]; simp
          have md := mem_nd hdl
          have hsa := sumU_add (la := la) (lb := lb) (d := d) (S := S) (by rw [← hl]; exact P.nd) (by rw [hdt]; exact hSt)
          rw [← hl, hdt] at hsa
          have nn1 := I1.nn
          have fl1 := I1.fl
          have fvl := I1.fv.length
          rw [List.length_map] at fvl
          have hvt : ∀ {c : Cx} {p : Pos}, (c.env.locals, NsP m) ∈ c.X → c.env.scope.kind = .function → c.env.kindOf (Str.ofString "node") = some .local → Ev c (.Name (Str.ofString "node") p) (IsI t) := fun h1 h2 h3 => Ev.imp (Ev.local h1 hmt h2 h3) fun u e => ⟨tk, e⟩
          -- seen.add(node)
          refine wpAny_execs_cons (add_set (t := t) [(L, NsP m), (sk, LsP vs), (ik, LsP (qsOf fs))] W19 (Ev.local (m := m) (by k_mem) hm.me) (hvt (by k_mem) rfl rfl) (by omega) fun s17 W20 => ?_)
          rw [hSt, if_neg Bool.false_ne_true] at W20
          -- itstack.append(iter(n2i[node].successors).__next__)
          refine wpAny_execs_cons (append_stmt (D := ik) (us := qsOf fs) [(L, NsP m), (sk, LsP vs)] W20 (Ev.local (m := m) (by k_mem) hm.mi) (by simp; omega) fun s18 W21 => ?_)
          have W21 : W s₀ B2 (FcX prog w L sk ik se ns m vs (qsOf fs) (fun k => S k || decide (k = t)) (n + 1) kvs (itLed fs) (RX prog w n2 dx ep rd po nf l (pI :: Y))) s18 := W21
          refine ev_attr (call_b1 hG2 W21 boot_iter ((Ev.succ (c := ⟨prog, w, _, _, s₀, B2, FcX prog w L sk ik se ns m vs (qsOf fs) (fun k => S k || decide (k = t)) (n + 1) kvs (itLed fs) (RX prog w n2 dx ep rd po nf l (pI :: Y))⟩) hG2 (Ev.ditemP (P := DcE prog w (prs l) ep) (kvs := prs l) (t := t) (v := .ref d.ia) (Ev.local (m := m) (by k_mem) hm.mn) (hvt (by k_mem) rfl rfl) (by simp) (fun ob hb => hb.dcP) hva) (t := d.t) (np := d.np) (sa := d.sa) (da := d.da) (by simp [md.1]) (hda2 d hdl)) s18 _ _ W21 fun s19 v19 e19 W22 => ?_))
          subst e19
          obtain ⟨oS, hoS, us', pS, fS⟩ := W22.st.at (a := d.sa) (P := SsP d.ss) (by simp [md.2])
          refine call_iter (pS.isList hoS) ?_
          have W23 := W22.to (tk := s19.toks) (W22.st.new (o := liObj d.sa 0) rfl (P := LIterP d.sa 0) ⟨rfl, rfl⟩)
          refine next_attr (s := { s19 with heap := s19.heap.push (liObj d.sa 0) }) (Heap.get?_push_size _ rfl) ?_
          have W24 := W23.to (tk := s19.toks + 1) (W23.st.new (o := mwObj s19.heap.objs.size) rfl (P := ObjP (mwObj s19.heap.objs.size)) rfl)
          obtain ⟨B3, oq, hs3, hoq, pq, H24⟩ := W24.st.freeze
          rw [show oq = mwObj s19.heap.objs.size from pq] at hoq
          have W25 := W24.re H24
          have hG3 := hG2.mono hs3
          refine ⟨B3, [(s19.heap.objs.size, LIterP d.sa 0), (L, NsP m), (sk, LsP vs)], _, W25, fun s20 W26 => ?_⟩
          generalize hqa : ({ s19 with heap := s19.heap.push (liObj d.sa 0) } : Shared).heap.objs.size = qa at W26 hoq
          generalize hia : s19.heap.objs.size = ia at W26 hoq
          -- node2stacki[node] = len(stack)
          refine wpAny_execs_cons (wpAny_Assign_Subscript ((Ev.len (c := ⟨prog, w, _, _, s₀, B3, _⟩) (vs := vs) (a := sk) hG3 (Ev.local (m := m) (by k_mem) hm.ms) (.inr (by simp)) (by omega)) s20 _ _ W26 fun s21 v21 e21 W27 => ?_))
          refine ev_local W27 (m := m) (by k_mem) hm.md (ev_local W27 (m := m) (by k_mem) hmt ?_)
          have kl : kvs.length = fs.length := by have := congrArg List.length I1.ks; simpa using this
          refine set_key [(ia, LIterP d.sa 0), (L, NsP m), (sk, LsP vs), (ik, LsP (qsOf fs ++ [.ref qa])), (se, StP prog w (fun k => S k || decide (k = t)) (n + 1))] W27 ⟨tk, rfl⟩ (by omega) fun s22 W28 => ?_
          -- stack.append(node)
          refine wpAny_execs_cons (append_stmt (D := sk) (us := vs) [(ia, LIterP d.sa 0), (L, NsP m)] W28 (Ev.local (m := m) (by k_mem) hm.ms) (by omega) fun s23 W29 => ev_local W29 (m := m) (by k_mem) hmt ⟨B3, [(ia, LIterP d.sa 0), (L, NsP m)], _, W29, fun s24 W30 => ?_⟩)
          have e1 : (fs ++ [(⟨d, ia, qa, 0⟩ : Fk)]).map (fun f : Fk => f.d.t) = fs.map (·.d.t) ++ [t] := by simp [hdt]
          refine wpAny_execs_nil (hQn _ _ ⟨rfl, B3, m, (fun k => S k || decide (k = t)), n + 1, stored kvs t v21, fs ++ [⟨d, ia, qa, 0⟩], vs ++ [.int t tk], hs3, hm, ⟨?_, ?_, ?_, ?_, by omega, by simp; omega⟩, ?_, by omega, ?_⟩)
          · rw [e1]; exact (I1.fv.mono mono_int hs3).append (.cons ⟨tk, rfl⟩ .nil)
          · intro f hf
            rcases List.mem_append.mp hf with hf | hf
            · obtain ⟨a, b, c⟩ := I1.ok f hf; exact ⟨hs3 _ _ a, b, c⟩
            · rw [List.mem_singleton.mp hf]; exact ⟨hoq, hdl, Nat.zero_le _⟩
          · rw [e1, stored_new' hnk, List.map_append, I1.ks]; rfl
          · rw [e1, List.pairwise_append]
            refine ⟨I1.inc, by simp, fun a ha b hb => ?_⟩
            obtain ⟨f, hf, rfl⟩ := List.mem_map.mp ha
            rw [List.mem_singleton.mp hb]; exact hlt f hf
          · unfold mu
            simp only [List.map_append, List.sum_append, List.map_cons, List.map_nil, List.sum_cons, List.sum_nil]
            omega
          · refine W30.perm ?_
            have e2 : qsOf (fs ++ [⟨d, ia, qa, 0⟩]) = qsOf fs ++ [.ref qa] := by simp
            show List.Perm _ (FcX prog w L sk ik se ns m (vs ++ [.int t tk]) (qsOf (fs ++ [⟨d, ia, qa, 0⟩])) (fun k => S k || decide (k = t)) (n + 1) (stored kvs t v21) (itLed (fs ++ [⟨d, ia, qa, 0⟩])) (RX prog w n2 dx ep rd po nf l (pI :: Y)))
            rw [e2]
            unfold FcX
            rw [itLed_snoc]
            exact (List.perm_middle (a := (ia, LIterP d.sa 0)) (l₁ := (L, NsP m) :: (sk, LsP (vs ++ [.int t tk])) :: (ik, LsP (qsOf fs ++ [.ref qa])) :: (se, StP prog w (fun k => S k || decide (k = t)) (n + 1)) :: (ns, DcP prog w (stored kvs t v21)) :: itLed fs)).symm
      · rintro f s' ⟨rfl, B3, m, S', n', kvs', fs', vs', hs3, hm, I3, hmu, hsu3, W20⟩
        refine wpAny_execs_cons (wpAny_While (codeAny_whileLoop (FcL prog w L sk ik se ns n2 dx ep rd po nf l (pI :: Y) s₀ (mu fs' l S') B3) ?_ fs'.length ⟨B3, m, S', n', kvs', fs', vs', Sub.refl _, hm, I3, Nat.le_refl _, hsu3, rfl, W20⟩))
        clear hm I3 W20 W18 hmt hlt htl I1 hsu
        rintro j s'' ⟨B4, m, S1, n1, kvs, fs1, vs, hs4, hm, I4, hmu4, hsu4, rfl, W21⟩
        have hG4 := (hG2.mono hs3).mono hs4
        have fvl := I4.fv.length
        have fl4 := I4.fl
        rw [List.length_map] at fvl
        refine wpAny_isTrue_value (ev_local W21 (m := m) (by k_mem) hm.ms (truthy_ls (vs := vs) W21 (by simp) (by omega) fun s22 W22 => ?_))
        have hcs : fs1 = [] ∨ ∃ (fs0 : List Fk) (f : Fk), fs1 = fs0 ++ [f] := by
          rcases List.eq_nil_or_concat fs1 with h0 | ⟨a, b, h0⟩
          · exact .inl h0
          · exact .inr ⟨a, b, by rw [h0, List.concat_eq_append]⟩
        rcases hcs with rfl | ⟨fs0, f, rfl⟩
        · have hv0 : vs = [] := List.eq_nil_of_length_eq_zero fvl
          have hk0 : kvs = [] := by have := I4.ks; simpa using this
          subst hv0 hk0
          rw [if_neg (by simp)]
          refine wpAny_execs_cons (wpAny_Break ?_)
          exact hQb .brk _ (wpAny_execs_nil (hQt .next _ ⟨B4, _, hs2.trans (hs3.trans hs4), ⟨m, S1, n1, rfl, hm, I4.nn, hsu4⟩, W22.perm (fc_perm pI).symm⟩))
        · have e1 : (fs0 ++ [f]).map (·.d.t) = fs0.map (·.d.t) ++ [f.d.t] := by simp
          have e2 : qsOf (fs0 ++ [f]) = qsOf fs0 ++ [.ref f.q] := by simp
          obtain ⟨hq, hfd, hfi⟩ := I4.ok f (by simp)
          have md := mem_nd hfd
          have fvx := I4.fv
          rw [e1] at fvx
          obtain ⟨vs0, v, hvs, fv0, hv⟩ := fvx.snoc
          subst hvs
          rw [if_pos (by simp)]
          have inc4 := I4.inc
          rw [e1, List.pairwise_append] at inc4
          rw [e2] at W22
          have eL : FcX prog w L sk ik se ns m (vs0 ++ [v]) (qsOf fs0 ++ [.ref f.q]) S1 n1 kvs (itLed (fs0 ++ [f])) (RX prog w n2 dx ep rd po nf l (pI :: Y)) =
              ((L, NsP m) :: (sk, LsP (vs0 ++ [v])) :: (ik, LsP (qsOf fs0 ++ [.ref f.q])) :: (se, StP prog w S1 n1) :: (ns, DcP prog w kvs) :: itLed fs0) ++ (f.it, LIterP f.d.sa f.i) :: RX prog w n2 dx ep rd po nf l (pI :: Y) := by
            unfold FcX; rw [itLed_snoc]; rfl
          refine wpAny_execs_cons (wpAny_Try_except (wpAny_mono
            (Q := fun f' s' => f' = .brk ∧ ∃ u ku, u ∈ f.d.ss ∧ f.i < f.d.ss.length ∧
              W s₀ B4 (FcX prog w L sk ik se ns (up m (Str.ofString "node") (.int u ku)) (vs0 ++ [v]) (qsOf fs0 ++ [.ref f.q]) S1 n1 kvs (itLed (fs0 ++ [{ f with i := f.i + 1 }])) (RX prog w n2 dx ep rd po nf l (pI :: Y))) s')
            (E := fun ev s' => ∃ e, ev = .ref e ∧ W s₀ B4 ((e, ExP "StopIteration" .none .none) :: (((L, NsP m) :: (sk, LsP (vs0 ++ [v])) :: (ik, LsP (qsOf fs0 ++ [.ref f.q])) :: (se, StP prog w S1 n1) :: (ns, DcP prog w kvs) :: itLed fs0) ++ (f.it, fun _ => True) :: RX prog w n2 dx ep rd po nf l (pI :: Y))) s' ∧ f.i = f.d.ss.length)
            ?_ ?_ ?_))
          · refine abs_both fun Qy Ey hQy hEy => ?_
            refine wpAny_execs_cons (wpAny_Assign_Name (ev_callSub (ev_last (a := ik) (us := qsOf fs0) (v := .ref f.q) W22 (Ev.local (m := m) (by k_mem) hm.mi) (by simp) fun s23 W23 => ⟨⟨f.q, f.it, rfl, W23.st.sub _ _ hq⟩, ?_⟩)))
            obtain ⟨oS, hoS, us', pS, fS⟩ := W23.st.at (a := f.d.sa) (P := SsP f.d.ss) (by simp [md.2])
            have W24 := W23
            rw [eL] at W24
            have fSl := fS.length
            by_cases hlt : f.i < f.d.ss.length
            · obtain ⟨v', hx, ku, rfl⟩ := fS.get' (i := f.i) (b := f.d.ss[f.i]) (by simp [hlt])
              refine call_next_item (vs := us') _ W24 hq (pS.isList hoS) hx fun s25 W25 => ?_
              refine st_local [] W25 fun s26 W26 => ?_
              refine wpAny_execs_cons (wpAny_Break (hQy _ _ ⟨rfl, _, ku, List.getElem_mem hlt, hlt, ?_⟩))
              unfold FcX; rw [itLed_snoc]; exact W26
            · refine call_next_end (vs := us') (R1 _).h _ W24 hq (pS.isList hoS) (by rw [List.getElem?_eq_none]; omega) fun e s25 W25 => hEy _ _ ⟨e, rfl, W25, by omega⟩
          · rintro f' s' ⟨rfl, u, ku, hu, hlt, W23⟩
            obtain ⟨hu1, hu2⟩ := hup f.d hfd u hu
            have e3 : (fs0 ++ [({ f with i := f.i + 1 } : Fk)]).map (fun g : Fk => g.d.t) = fs0.map (·.d.t) ++ [f.d.t] := by simp
            have hmu5 : mu (fs0 ++ [{ f with i := f.i + 1 }]) l S1 + 1 = mu (fs0 ++ [f]) l S1 := by
              unfold mu
              simp only [List.map_append, List.sum_append, List.map_cons, List.map_nil, List.sum_cons, List.sum_nil]
              omega
            refine wpAny_execs_nil (hQb .next _ ⟨mu (fs0 ++ [{ f with i := f.i + 1 }]) l S1, B4, _, by omega, hs3.trans hs4, ⟨_, S1, n1, kvs, fs0 ++ [{ f with i := f.i + 1 }], vs0 ++ [v], u, ku, ?_, hm.node, up_self _ _ _, ⟨?_, ?_, ?_, ?_, I4.nn, by simpa using I4.fl⟩, ?_, hu2, hsu4, rfl⟩, W23⟩)
            · simp
            · rw [e3]; exact fv0.append (.cons hv .nil)
            · intro g hg
              rcases List.mem_append.mp hg with hg | hg
              · exact I4.ok g (by simp [hg])
              · rw [List.mem_singleton.mp hg]; exact ⟨hq, hfd, hlt⟩
            · rw [e3, I4.ks, e1]
            · rw [e3, ← e1]; exact I4.inc
            · intro g hg
              rcases List.mem_append.mp hg with hg | hg
              · have := inc4.2.2 g.d.t (List.mem_map.mpr ⟨g, hg, rfl⟩) f.d.t (by simp)
                omega
              · rw [List.mem_singleton.mp hg]; exact hu1
          · rintro ev s' ⟨e, rfl, W23, hend⟩
            refine note_fresh (hfr _) (hok _ _ m rfl rfl (by simp) (fun p hp => by simp [hp])) rfl W23 fun T s25 W25 => ?_
            refine set_flight W25 fun s26 W26 => ?_
            refine wpAny_handleBy_builtin (T := "StopIteration") (X := "StopIteration") (b := true) (by with_unfolding_all rfl) (by with_unfolding_all rfl) (by with_unfolding_all rfl) ?_
            refine ev_builtin hG4 W26 boot_StopIteration ⟨rfl, ?_, ?_⟩
            · obtain ⟨o, ho, hc, _⟩ := W26.st.at (.tail _ (.head _))
              exact ⟨o, ho, hc⟩
            rw [if_pos rfl]
            refine set_flight W26 fun s27 W27 => ?_
            have W28 := W27.re W27.st.drop.drop
            have W29 := W28.re (W28.st.dropAt (pre := (L, NsP m) :: (sk, LsP (vs0 ++ [v])) :: (ik, LsP (qsOf fs0 ++ [.ref f.q])) :: (se, StP prog w S1 n1) :: (ns, DcP prog w kvs) :: itLed fs0))
            have kl : kvs.length = (fs0 ++ [f]).length := by have := congrArg List.length I4.ks; simpa using this
            have hfl : fs0.length + 1 ≤ 500 := by have : (fs0 ++ [f]).length ≤ 500 := by omega
                                                  simpa using this
            have hnf : f.d.t ∉ fs0.map (·.d.t) := fun hm' => by
              have := inc4.2.2 _ hm' f.d.t (by simp)
              omega
            have v0l := fv0.length
            rw [List.length_map] at v0l
            -- del node2stacki[stack.pop()]
            refine wpAny_execs_cons (wpAny_Delete (wpAny_deleteEach_cons (wpAny_delete_Subscript (ev_local W29 (m := m) (by k_mem) hm.md ?_))))
            refine ev_pop [(L, NsP m)] W29 (Ev.local (m := m) (by k_mem) hm.ms) (by omega) fun s30 W30 => ?_
            refine del_key [(L, NsP m), (sk, LsP vs0), (ik, LsP (qsOf fs0 ++ [.ref f.q])), (se, StP prog w S1 n1)] W30 hv (by rw [kl]; simp; omega) ((va_isSome _ _).mpr (by rw [I4.ks, e1]; simp)) fun s31 W31 => ?_
            refine wpAny_deleteEach_nil ?_
            -- itstack.pop()
            refine wpAny_execs_cons (wpAny_Expr_any (ev_pop [(L, NsP m), (sk, LsP vs0)] W31 (Ev.local (m := m) (by k_mem) hm.mi) (by simp; omega) fun s32 W32 => ?_))
            have hmu6 : mu fs0 l S1 ≤ mu (fs0 ++ [f]) l S1 := by
              unfold mu
              simp only [List.map_append, List.sum_append, List.map_cons, List.map_nil, List.sum_cons, List.sum_nil]
              omega
            have fl5 := I4.fl
            simp only [List.length_append, List.length_singleton] at fl5
            refine wpAny_execs_nil (wpAny_execs_nil ⟨fs0.length, by simp, B4, m, S1, n1, without kvs f.d.t, fs0, vs0, hs4, hm, ⟨fv0, fun g hg => I4.ok g (by simp [hg]), ?_, inc4.1, I4.nn, by omega⟩, by omega, hsu4, rfl, W32⟩)
            exact without_last (by rw [I4.ks, e1]) hnf
  · rintro B1 X1 s12 hs1 ⟨m, S, n, rfl, hm, -⟩ W14
    refine wpAny_execs_cons (wpAny_Return_some (wpAny_Constant_none (h B1 s12 hs1 ?_)))
    have W15 := W14.re (W14.st.imp ((L, NsP m) :: (sk, LsP []) :: (ik, LsP []) :: (se, StP prog w S n) :: (ns, DcP prog w []) :: itLed []) (P' := DcP prog w (prs l)) fun o ho => ho.dcP)
    exact W15.re W15.st.drop.drop.drop.drop.drop
end
end Mine

end

section
set_option Elab.async false
set_option linter.unusedVariables false
set_option maxRecDepth 100000
set_option maxHeartbeats 4000000
open PySem PySem.W PyProof.Rows PySem.SeqAt
namespace Mine
section
variable {prog : Program} {w : World} {A : Around} {E : Value → Shared → Prop} {s₀ s : Shared} {B : Heap} {X Y Z pre post : Led} {env : Env} {mg mb : Str → Option Value} {x dx n2 : Addr} {rd po nf : Value} {l : List Nd}
def zeros (l : List Nd) : List Int := (l.filter fun d => decide (d.np = 0)).map (·.t)
theorem zeros_snoc (l : List Nd) (d : Nd) : zeros (l ++ [d]) = zeros l ++ (if d.np = 0 then [d.t] else []) := by
  unfold zeros
  by_cases h : d.np = 0 <;> simp [h]

theorem prep_call {np : Int → Int} {cn : Int → Int → Nat} {N : Nat} {Q : Value → Shared → Prop} (hG : G (KF w) mg mb B) (hW : W s₀ B (SX prog w n2 dx .none po nf l Y) s) (hR : Rm A 4 60) (hF : FS A Y) (hx : B.get? x = some (instObj 137 dx)) (hn : (n2 == sysModules) = false) (hda : DaOk B l) (P : Pl l np cn N)
    (hup : ∀ d ∈ l, ∀ u ∈ d.ss, d.t < u ∧ u ∈ l.map (·.t)) (hsum : sumU l (fun _ => false) ≤ 400)
    (h : ∀ B' rA s', Sub B B' → W s₀ B' (SX prog w n2 dx (.ref rA) po nf l ((rA, SsP (zeros l)) :: Y)) s' → Q .none s') : wpAny (model prog w) A (call (.ref 92) [.ref x]) Q E s := by
  have hlen : l.length ≤ 400 := by
    have : ∀ l : List Nd, l.length ≤ sumU l (fun _ => false) := fun l => by
      induction l with
      | nil => simp
      | cons d r ih => rw [sumU_cons]; simp; omega
    have := this l; omega
  refine call_fn (binds := [(Str.ofString "self", .ref x)]) hG hW (by with_unfolding_all rfl) (by with_unfolding_all rfl) (by with_unfolding_all rfl) (by have := hR.d; omega) (BindsTo.of_eq (by with_unfolding_all rfl)) (by decide) ?_ (by with_unfolding_all rfl) (by with_unfolding_all rfl) (by with_unfolding_all rfl) ?_
  · intro y hy
    rcases List.mem_singleton.mp hy with rfl
    with_unfolding_all rfl
  intro L s1 W1
  obtain ⟨m, hms, W1⟩ : Ex2 (fun m : Str → Option Value => m (Str.ofString "self") = some (.ref x)) (fun m : Str → Option Value => W s₀ B ((L, NsP m) :: SX prog w n2 dx .none po nf l Y) s1) := ⟨_, by with_unfolding_all rfl, W1⟩
  have R1 := hR.deeper (d := 3) (u := 57)
  refine wpAny_execs_cons (wpAny_If ((EvT.isNotNone (c := ⟨prog, w, _, _, s₀, B, _⟩) (v := .none) (Ev.own (kvs := soK (.ref n2) .none po nf) hG (Ev.local (m := m) (by k_mem) hms) hx (by k_mem) rfl)) s1 _ _ W1 fun s2 W2 => ?_))
  rw [if_neg (by decide)]
  refine wpAny_execs_nil ?_
  obtain ⟨ep, -, W3⟩ := W.ex (pre := []) (R := fun _ => True) (P := DcE prog w (prs l)) [(L, NsP m)] (W2.re (W2.st.imp [(L, NsP m)] (P' := fun o => ∃ ep, True ∧ DcE prog w (prs l) ep o) fun o ⟨es, ep, r⟩ => ⟨ep, trivial, es, r⟩))
  -- self._ready_nodes = [..]
  refine wpAny_execs_cons (plainObj_wpAny_Assign_Attribute ?_)
  refine ev_comp_it (s₀ := s₀) (cl := []) (by with_unfolding_all rfl) (by decide) rfl (by decide) ?_
  refine wpAny_Call_method0_late rfl rfl ((Ev.own (c := ⟨prog, w, _, _, s₀, B, (L, NsP m) :: RX prog w n2 dx ep .none po nf l Y⟩) (kvs := soK (.ref n2) .none po nf) (v := .ref n2) hG (Ev.local (m := m) (by k_mem) hms) hx (by k_mem) rfl) s2 _ _ W3 fun s4 v4 e4 W4 => ?_)
  subst e4
  have D4 := de_at W4.st (prog := prog) (w := w) (d := n2) (kvs := prs l) (ep := ep) (by simp)
  refine ⟨"dict", "dict.values", F.plainAttrs_dict, F.slot_dict_values, F.type_dict_values, D4.dictOf.typeIs, D4.dictOf.mapOf.noDict, ?_⟩
  refine callWith_method0 (env := default) (call_meetsIn F.slot_dict_values D4.dictOf.typeIs F.entry_dict_values (F.args_dict_values_1 _) (meets_dict_values (intKind prog w) n2 hn) ⟨⟨_, D4.dictOf⟩, ?_⟩)
  have W5 := W4.to (tk := s4.toks) (W4.st.push { cls := .type "dict_values", data := .fields #[.ref n2] })
  refine wpAny_pyIter_values (knd := intKind prog w) (d := n2) (kvs := prs l) (ep := ep) ⟨_, Heap.get?_push_size _ rfl, rfl, rfl⟩ (de_at W5.st (by simp)) ?_
  generalize hs5 : ({ s4 with heap := s4.heap.push { cls := .type "dict_values", data := .fields #[.ref n2] } } : Shared) = s5 at W5
  refine ⟨s5.heap.objs.size, (prs l).length, _, _, _, B, (L, NsP m) :: RX prog w n2 dx ep .none po nf l Y, fun i us B' => F2 (RInt emptyH) us (zeros (l.take i)), rfl, it_vals (R1 _).h _ n2 (prs l) ep, fun B' h hs H => de_at H (by simp), by rw [sizeLine_eq]; simp [prs]; omega, W5.to (tk := s5.toks) (W5.st.new rfl ⟨rfl, rfl⟩), ?_, ?_, ?_⟩
  · exact .nil
  · rintro i v us B' mc Cn D s6 hi ⟨t, hkv⟩ hs hJ W6
    obtain ⟨d, hd, he⟩ : ∃ d, l[i]? = some d ∧ v = .ref d.ia := by
      simp only [prs, List.getElem?_map, Option.map_eq_some_iff] at hkv
      obtain ⟨d, hd, e⟩ := hkv
      cases e; exact ⟨d, hd, rfl⟩
    subst he
    have hdl := List.mem_of_getElem? hd
    have md := mem_nd hdl
    have hG' := hG.mono hs
    have ez : zeros (l.take (i + 1)) = zeros (l.take i) ++ (if d.np = 0 then [d.t] else []) := by rw [List.take_add_one, hd]; exact zeros_snoc _ _
    refine as_name [] W6 fun s7 W7 => ?_
    refine wpAny_tests_one ((Ev.eqI (c := ⟨prog, w, _, _, s₀, B', _⟩) (a := d.np) (b := 0) (Ev.preds (t := d.t) (np := d.np) (sa := d.sa) (da := d.da) hG' (Ev.local (m := up mc (Str.ofString "i") (.ref d.ia)) (.head _) (up_self _ _ _)) (by simp [md.1]) (hs _ _ (hda d hdl))) Ev.int) s7 _ _ W7 fun s8 W8 => ?_)
    by_cases hz : d.np = 0
    · rw [if_pos (by simpa using hz)]
      refine (Ev.node (c := ⟨prog, w, _, _, s₀, B', _⟩) (t := d.t) (np := d.np) (sa := d.sa) (da := d.da) hG' (Ev.local (m := up mc (Str.ofString "i") (.ref d.ia)) (.head _) (up_self _ _ _)) (by simp [md.1]) (hs _ _ (hda d hdl))) s8 _ _ W8 fun s9 v9 e9 W9 => ⟨B', _, Sub.refl _, ?_, W9⟩
      show F2 (RInt emptyH) _ (zeros (l.take (i + 1)))
      rw [ez, if_pos hz]; exact hJ.append (.cons e9 .nil)
    · rw [if_neg (by simpa using hz)]
      refine ⟨B', _, Sub.refl _, ?_, W8⟩
      show F2 (RInt emptyH) _ (zeros (l.take (i + 1)))
      rw [ez, if_neg hz, List.append_nil]; exact hJ
  · intro D Cn us B' mc s6 hle hs hJ W6 h' hsb
    have hJ : F2 (RInt emptyH) us (zeros l) := by
      have e : (prs l).length = l.length := by simp [prs]
      rw [e, List.take_length] at hJ; exact hJ
    have W7 := W6.to (tk := s6.toks) (W6.st.extBut hsb.extBut)
    have hG' := hG.mono hs
    have hx' := hs _ _ hx
    refine ev_local W7 (m := m) (by k_mem) hms ?_
    refine set_own1 (L := L) (m := m) (kvs := soK (.ref n2) .none po nf) [(D, LsP us), (L, NsP m), (n2, DcE prog w (prs l) ep)] hG' W7 (by simp) hx' (by kernel_rfl) (by kernel_rfl) (by kernel_rfl) (by kernel_rfl) (Nat.le_of_ble_eq_true rfl) fun s8 W8 => ?_
    have W9 := W8.re (W8.st.imp [(D, LsP us), (L, NsP m)] (P' := DcP prog w (prs l)) fun o ho => ho.dcP)
    have W10 := W9.re (W9.st.imp [] (P' := SsP (zeros l)) fun o ho => ⟨us, ho, hJ⟩)
    have W11 : W s₀ B' ((D, SsP (zeros l)) :: (L, NsP m) :: SX prog w n2 dx (.ref D) po nf l Y) s8 := W10
    -- cycle = self._find_cycle()
    refine wpAny_execs_cons (wpAny_Assign_Name (call_meth (kvs := soK (.ref n2) (.ref D) po nf) (f := 127) hG' W11 (Ev.local (m := m) (by k_mem) hms) hx' (by k_mem) rfl (by kernel_rfl) (by kernel_rfl) (by kernel_rfl) fun s12 W12 => ?_))
    refine cw_fn0 hG' W12 (by kernel_rfl) ?_
    have W13 : W s₀ B' (SX prog w n2 dx (.ref D) po nf l ((L, NsP m) :: (D, SsP (zeros l)) :: Y)) s12 := ((W12.perm (List.perm_middle (a := (D, SsP (zeros l))) (l₁ := (L, NsP m) :: (n2, DcP prog w (prs l)) :: (dx, DoP w (soK (.ref n2) (.ref D) po nf)) :: ndLed l) (l₂ := Y)).symm)).toY
    refine fc_call hG' W13 ((R1 _).le (by decide) (by decide)) (hF.deeper (L := L) (m := m) (fun p hp => by simp [hp]) (by simp) rfl rfl) hx' hn (hda.mono hs) P hup hsum fun B2 s14 hs2 W14 => ?_
    have W15 := W14.ofY
    refine st_local [] W15 fun s16 W16 => ?_
    refine wpAny_execs_cons (wpAny_If (wpAny_isTrue_value (ev_local W16 (m := up m (Str.ofString "cycle") .none) (by k_mem) (up_self _ _ _) (truthy_none ?_))))
    rw [if_neg Bool.false_ne_true]
    refine wpAny_execs_nil (wpAny_execs_nil (h B2 D s16 (hs.trans hs2) (W16.re W16.st.drop)))
end
end Mine

end

section
set_option Elab.async false
set_option linter.unusedVariables false
set_option maxRecDepth 100000
set_option maxHeartbeats 4000000
open PySem PySem.W PyProof.Rows PySem.SeqAt
namespace Mine
theorem Ev.glob {c : Cx} {K : Frag} {mg mb : Str → Option Value} {x : Str} {pos : Pos} {v : Value} (hG : G K mg mb c.B) (e : nsIn K mainGlobals x = some (some v))
    (hg : c.env.globals = mainGlobals := by rfl) (hk : c.env.scope.kind = .function := by rfl) (hx : c.env.kindOf x = some .globalImplicit := by rfl) (hd : (x == ("__debug__" : Str)) = false := by decide) : Ev c (.Name x pos) (· = v) :=
  fun s Q E hW h => ev_global hG hW (h s v rfl hW) e hg hk hx hd
inductive RdJ (prog : Program) (w : World) (n2 dx rA x T L : Addr) (po nf : Value) (l : List Nd) (Y : Led) (np : Int → Int) (cn : Int → Int → Nat) (N : Nat) (rs : List Int) (pr : List Value) (B' : Heap) (X' : Led) : Prop
  | mk (m : Str → Option Value) (l' : List Nd) (hX : X' = (L, NsP m) :: SX prog w n2 dx (.ref rA) po nf l' ((rA, SsP rs) :: Y)) (h1 : DaOk B' l') (h2 : m (Str.ofString "self") = some (.ref x)) (h3 : m (Str.ofString "result") = some (.ref T)) (h4 : m (Str.ofString "n2i") = some (.ref n2))
      (h5 : Pl l' (fun u => if u ∈ rs.take pr.length then -1 else np u) cn N) (h6 : l'.map (·.t) = l.map (·.t)) : RdJ prog w n2 dx rA x T L po nf l Y np cn N rs pr B' X'
section
variable {prog : Program} {w : World} {A : Around} {E : Value → Shared → Prop} {s₀ s : Shared} {B : Heap} {X Y Z pre post : Led} {env : Env} {mg mb : Str → Option Value} {x dx n2 rA : Addr} {rd po nf : Value} {l : List Nd} {np : Int → Int} {cn : Int → Int → Nat} {N : Nat} {rs : List Int}

theorem append_ss {o e : Expr} {apos pos p' : Pos} {D : Addr} {us : List Int} {t : Int} {Q : Flow → Shared → Prop} (pre : Led) (hW : W s₀ B (pre ++ (D, SsP us) :: post) s)
    (ho : Ev ⟨prog, w, A, env, s₀, B, pre ++ (D, SsP us) :: post⟩ o (· = .ref D)) (he : Ev ⟨prog, w, A, env, s₀, B, pre ++ (D, SsP us) :: post⟩ e (IsI t)) (hz : us.length ≤ 1000)
    (h : ∀ s', W s₀ B (pre ++ (D, SsP (us ++ [t])) :: post) s' → Q .next s')
    (hbase : attributeBase o "append" env (eval o env) = eval o env := by rfl)
    (hns : starEach [e] env = [(false, eval e env)] := by rfl)
    (hline : (apos.endLine == pos.line) = true := by rfl)
    (hi : interactive env = false := by rfl) (hs : swapsWith (.Call (.Attribute o "append" apos) [e] [] pos) none p'.line env = pure false := by rfl) :
    wpAny (model prog w) A (exec (.Expr (.Call (.Attribute o "append" apos) [e] [] pos) p') env) Q E s := by
  refine wpAny_Expr ?_ hi hs
  refine wpAny_Call_append hbase (by rw [hns]; rfl) hline (by rw [hns]; rfl) (ho s _ _ hW fun s₁ v ev W1 => ?_)
  subst ev
  obtain ⟨oD, hoD, vs, ⟨n, pD⟩, f⟩ := W1.st.at (a := D) (P := SsP us) (by simp)
  refine ⟨D, vs.toArray, rfl, ⟨oD, n, hoD, by rw [pD], by rw [pD], by rw [pD]⟩, he s₁ _ _ W1 fun s₂ v2 e2 W2 => ?_⟩
  obtain ⟨oD2, hoD2, vs2, pD2, f2⟩ := W2.st.at (a := D) (P := SsP us) (by simp)
  have := f2.length
  refine wpAny_list_append_plain (items := vs2.toArray) (pD2.plain hoD2) (fun h' hl' hs' => ?_) (by rw [sizeLine_eq]; simp; omega)
  refine h _ (W2.to (tk := s₂.toks) (W2.st.upd pre hs' ?_))
  obtain ⟨oD3, h3, p3⟩ := LsP.of (vs := vs2 ++ [v2]) (by simpa using hl')
  exact ⟨oD3, h3, vs2 ++ [v2], p3, f2.append (.cons e2 .nil)⟩

theorem it_ss (hh : A.handled = none) (I sa : Addr) (ss : List Int) : It prog w A I ss.length (fun i v => ∃ u, ss[i]? = some u ∧ IsI u v) (LIterP sa) (fun h => ∃ vs, h.IsList sa vs.toArray ∧ F2 (RInt emptyH) vs ss) where
  item := fun i s Q E hi hc hr hQ => by
    obtain ⟨o, ho, hc⟩ := hc
    obtain ⟨vs, hl, f⟩ := hr
    obtain ⟨v, hv, r⟩ := f.get' (i := i) (b := ss[i]) (by simp [hi])
    refine wpAny_pyNext_list_item (i := i) ⟨o, ho, hc⟩ hl (x := v) (by simpa using hv) fun h' hit' hs' => ?_
    exact hQ _ h' s.toks ⟨_, by simp [hi], r⟩ hit' hs'
  done := fun s Q E hc hr hQ => by
    obtain ⟨o, ho, hc⟩ := hc
    obtain ⟨vs, hl, f⟩ := hr
    exact wpAny_pyNext_list_end hh (i := ss.length) ⟨o, ho, hc⟩ hl (by simp [f.length]) fun h' he' => hQ h' s.toks he'
  self := fun i s Q E hc hr h => by
    obtain ⟨o, ho, hc⟩ := hc
    exact wpAny_pyIter_listiter (i := i) ⟨o, ho, hc⟩ h
  lot := fun target i v s Q E hc h => by
    obtain ⟨o, ho, hc⟩ := hc
    exact lot_any ho hc.1 (by decide) h

theorem va_of (P : Pl l np cn N) {t : Int} (h : t ∈ l.map (·.t)) : ∃ l1 d l2, l = l1 ++ d :: l2 ∧ d.t = t ∧ valueAt (prs l) t = some (.ref d.ia) := by
  rcases va_cases l t with ⟨_, hno⟩ | r
  · exact absurd h hno
  · exact r

theorem ready_call {Q : Value → Shared → Prop} (hG : G (KF w) mg mb B) (hW : W s₀ B (SX prog w n2 dx (.ref rA) po nf l ((rA, SsP rs) :: Y)) s) (hR : Rm A 2 30) (hx : B.get? x = some (instObj 137 dx)) (hn : (n2 == sysModules) = false) (hda : DaOk B l) (P : Pl l np cn N)
    (hpo : ∃ k, IsI k po) (hrs : ∀ u ∈ rs, u ∈ l.map (·.t)) (hrl : rs.length ≤ 500)
    (h : ∀ B' l' po' T vs s', Sub B B' → DaOk B' l' → Pl l' (fun u => if u ∈ rs then -1 else np u) cn N → l'.map (·.t) = l.map (·.t) → (∃ k, IsI k po') → B'.get? T = some { cls := .type "tuple", data := .seq vs.toArray } → F2 (RInt emptyH) vs rs →
      W s₀ B' (SX prog w n2 dx (.ref rA) po' nf l' ((rA, SsP []) :: Y)) s' → Q (.ref T) s') : wpAny (model prog w) A (call (.ref 99) [.ref x]) Q E s := by
  refine call_fn (binds := [(Str.ofString "self", .ref x)]) hG hW (by with_unfolding_all rfl) (by with_unfolding_all rfl) (by with_unfolding_all rfl) (by have := hR.d; omega) (BindsTo.of_eq (by with_unfolding_all rfl)) (by decide) ?_ (by with_unfolding_all rfl) (by with_unfolding_all rfl) (by with_unfolding_all rfl) ?_
  · intro y hy
    rcases List.mem_singleton.mp hy with rfl
    with_unfolding_all rfl
  intro L s1 W1
  obtain ⟨m, hms, W1⟩ : Ex2 (fun m : Str → Option Value => m (Str.ofString "self") = some (.ref x)) (fun m : Str → Option Value => W s₀ B ((L, NsP m) :: SX prog w n2 dx (.ref rA) po nf l ((rA, SsP rs) :: Y)) s1) := ⟨_, by with_unfolding_all rfl, W1⟩
  have R1 := hR.deeper (d := 1) (u := 27)
  refine wpAny_execs_cons (wpAny_If ((EvT.isNone (c := ⟨prog, w, _, _, s₀, B, _⟩) (v := .ref rA) (Ev.own (kvs := soK (.ref n2) (.ref rA) po nf) hG (Ev.local (m := m) (by k_mem) hms) hx (by k_mem) rfl)) s1 _ _ W1 fun s2 W2 => ?_))
  rw [if_neg (by simp)]
  refine wpAny_execs_nil ?_
  -- result = tuple(self._ready_nodes)
  refine wpAny_execs_cons (wpAny_Assign_Name (wpAny_Call_NameR (ev_builtin hG W2 PyProof.Rows.boot_tuple (PyProof.Rows.callWith_type1 ?_))))
  refine Calls.spliced_cons ((Ev.own (c := ⟨prog, w, _, _, s₀, B, (L, NsP m) :: SX prog w n2 dx (.ref rA) po nf l ((rA, SsP rs) :: Y)⟩) (kvs := soK (.ref n2) (.ref rA) po nf) (v := .ref rA) hG (Ev.local (m := m) (by k_mem) hms) hx (by k_mem) rfl) s2 _ _ W2 fun s3 v3 e3 W3 => Calls.spliced_nil ?_)
  subst e3
  obtain ⟨oR, hoR, vs, pR, fR⟩ := W3.st.at (a := rA) (P := SsP rs) (by simp)
  have vl := fR.length
  refine call_tuple_list (pR.isList hoR) (fun h' hk => ?_) (by rw [sizeLine_eq]; simp; omega)
  have W4 := W3.to (tk := s3.toks) (W3.st.grow hk)
  have W5 := W4.to (tk := s3.toks) (W4.st.new (o := { cls := .type "tuple", data := .seq vs.toArray }) rfl (P := ObjP { cls := .type "tuple", data := .seq vs.toArray }) rfl)
  obtain ⟨B1, oT, hs1, hoT, pT, H1⟩ := W5.st.freeze
  have W6 := W5.re H1
  have hT : B1.IsTuple h'.objs.size vs.toArray := ⟨oT, hoT, by rw [show oT = _ from pT], _, by rw [show oT = _ from pT]⟩
  rw [show oT = { cls := .type "tuple", data := .seq vs.toArray } from pT] at hoT
  generalize h'.objs.size = T at hT hoT
  have hG1 := hG.mono hs1
  have hx1 := hs1 _ _ hx
  have hda1 := hda.mono hs1
  refine st_local [] W6 fun s7 W7 => ?_
  have m1 : ∀ {y : Str} {u : Value}, y ≠ Str.ofString "result" → m y = some u → up m (Str.ofString "result") (.ref T) y = some u := fun h1 h2 => (up_ne h1).trans h2
  -- n2i = self._node2info
  refine wpAny_execs_cons (wpAny_Assign_Name ((Ev.own (c := ⟨prog, w, _, _, s₀, B1, _⟩) (kvs := soK (.ref n2) (.ref rA) po nf) (v := .ref n2) hG1 (Ev.local (m := up m (Str.ofString "result") (.ref T)) (by k_mem) (m1 (by decide) hms)) hx1 (by k_mem) rfl) s7 _ _ W7 fun s8 v8 e8 W8 => ?_))
  subst e8
  refine st_local [] W8 fun s9 W9 => ?_
  obtain ⟨m2, hms2, hmr2, hmn2, W9⟩ : Ex4 (fun m : Str → Option Value => m (Str.ofString "self") = some (.ref x)) (fun m : Str → Option Value => m (Str.ofString "result") = some (.ref T)) (fun m : Str → Option Value => m (Str.ofString "n2i") = some (.ref n2)) (fun m : Str → Option Value => W s₀ B1 ((L, NsP m) :: SX prog w n2 dx (.ref rA) po nf l ((rA, SsP rs) :: Y)) s9) :=
    ⟨_, (up_ne (by decide)).trans (m1 (by decide) hms), (up_ne (by decide)).trans (up_self _ _ _), up_self _ _ _, W9⟩
  -- for node in result
  refine wpAny_execs_cons (for_tup (s₀ := s₀) (R1 _).h (RdJ prog w n2 dx rA x T L po nf l Y np cn N rs) hT (ev_local W9 (m := m2) (by k_mem) hmr2 ⟨rfl, W9⟩) ⟨m2, l, rfl, hda1, hms2, hmr2, hmn2, by simpa using P, rfl⟩ ?_ ?_)
  · rintro pr pv post I As B2 X2 s10 hvs hs2 ⟨m, l2, rfl, hda2, hms, hmr, hmn, P2, hk2⟩ W10
    have hgt : vs[pr.length]? = some pv := by rw [hvs]; simp
    obtain ⟨u, eu, hu⟩ := fR.get hgt
    have htake : rs.take (pr ++ [pv]).length = rs.take pr.length ++ [u] := by rw [List.length_append, List.length_singleton, List.take_add_one, eu]; rfl
    have hG2 := hG1.mono hs2
    refine abs_turn fun Qt hQt => ?_
    refine as_name [(I, As)] W10 fun s11 W11 => ?_
    have m1 : ∀ {y : Str} {u : Value}, y ≠ Str.ofString "node" → m y = some u → up m (Str.ofString "node") pv y = some u := fun h1 h2 => (up_ne h1).trans h2
    obtain ⟨la, d, lb, rfl, hdt, hva⟩ := va_of P2 (t := u) (by rw [hk2]; exact hrs u (List.mem_of_getElem? eu))
    refine wpAny_execs_cons (plainObj_wpAny_Assign_Attribute (ev_global hG2 W11 (v := .int (-1) 197) ?_))
    refine (Ev.ditem (c := ⟨prog, w, _, _, s₀, B2, (I, As) :: (L, NsP (up m (Str.ofString "node") pv)) :: SX prog w n2 dx (.ref rA) po nf (la ++ d :: lb) ((rA, SsP rs) :: Y)⟩) (kvs := prs (la ++ d :: lb)) (t := u) (v := .ref d.ia) (Ev.local (m := up m (Str.ofString "node") pv) (by k_mem) (m1 (by decide) hmn)) (Ev.imp (Ev.local (m := up m (Str.ofString "node") pv) (by k_mem) (up_self _ _ _)) fun u' e => by rw [e]; exact hu) (by simp) hva) s11 _ _ W11 fun s12 v12 e12 W12 => ?_
    subst e12
    refine set_np (L := L) (m := up m (Str.ofString "node") pv) (t' := -1) [(I, As), (L, NsP (up m (Str.ofString "node") pv))] hG2 W12 (by simp) (hda2 d (by simp)) ⟨197, rfl⟩ fun s13 W13 => ?_
    refine wpAny_execs_nil (hQt .next _ ⟨B2, _, Sub.refl _, ⟨_, _, rfl, hda2.upd (d' := { d with np := -1 }) rfl, m1 (by decide) hms, m1 (by decide) hmr, m1 (by decide) hmn, ?_, ?_⟩, W13⟩)
    · refine P2.upd (d' := { d with np := -1 }) rfl ?_ (P2.hc d (by simp)) (fun u' hu' => ⟨?_, rfl⟩) (Nat.le_refl _) (P2.sl d (by simp))
      · show (-1 : Int) = _
        rw [htake, if_pos (by simp [hdt])]
      · rw [htake]
        have : u' ≠ u := fun q => hu' (q.trans hdt.symm)
        by_cases h1 : u' ∈ rs.take pr.length
        · rw [if_pos h1, if_pos (List.mem_append_left _ h1)]
        · rw [if_neg h1, if_neg (by simp [h1, this])]
    · rw [← hk2]; simp
  · rintro B2 X2 s10 hs2 ⟨m, l2, rfl, hda2, hms, hmr, hmn, P2, hk2⟩ W10
    rw [vl, List.take_length] at P2
    have hG2 := hG1.mono hs2
    have hx2 := hs2 _ _ hx1
    have hT2 : B2.IsTuple T vs.toArray := let ⟨o, ho, r⟩ := hT; ⟨o, hs2 _ _ ho, r⟩
    -- self._ready_nodes.clear()
    refine wpAny_execs_cons (wpAny_Expr (wpAny_Call_method0_late rfl rfl ((Ev.own (c := ⟨prog, w, _, _, s₀, B2, (L, NsP m) :: SX prog w n2 dx (.ref rA) po nf l2 ((rA, SsP rs) :: Y)⟩) (kvs := soK (.ref n2) (.ref rA) po nf) (v := .ref rA) hG2 (Ev.local (m := m) (by k_mem) hms) hx2 (by k_mem) rfl) s10 _ _ W10 fun s11 v11 e11 W11 => ?_)))
    subst e11
    obtain ⟨oR2, hoR2, vs2, ⟨n, rfl⟩, fR2⟩ := W11.st.at (a := rA) (P := SsP rs) (by simp)
    have hTy : s11.TypeIs (.ref rA) "list" := ⟨_, hoR2, rfl⟩
    refine ⟨"list", "list.clear", F.plainAttrs_list, F.slot_list_clear, F.type_list_clear, hTy, fun b e => by injection e with e; subst e; exact ⟨_, hoR2, rfl⟩, ?_⟩
    refine callWith_method0 (env := default) (call_meets F.slot_list_clear hTy F.entry_list_clear (F.args_list_clear_1 _) (AutoSeq1.list_clear_list_0 rA vs2.toArray n (by rw [sizeLine_eq]; have := fR2.length; simp; omega)) ⟨hoR2, ?_⟩)
    have W12 : W s₀ B2 (((L, NsP m) :: (n2, DcP prog w (prs l2)) :: (dx, DoP w (soK (.ref n2) (.ref rA) po nf)) :: ndLed l2) ++ (rA, SsP rs) :: Y) s11 := W11
    have W13 := W12.to (tk := s11.toks) (W12.st.upd _ (P' := SsP []) (Heap.SameBut.update (f := Obj.mapSeq fun _ => #[]) ..) ⟨_, Heap.get?_update_self (Obj.mapSeq fun _ => #[]) hoR2 rfl, [], ⟨_, rfl⟩, .nil⟩)
    generalize ({ s11 with heap := s11.heap.update rA (Obj.mapSeq fun _ => #[]), toks := s11.toks } : Shared) = s13 at W13
    have W13 : W s₀ B2 ((L, NsP m) :: SX prog w n2 dx (.ref rA) po nf l2 ((rA, SsP []) :: Y)) s13 := W13
    -- self._npassedout += len(result)
    obtain ⟨kp, tp, rfl⟩ := hpo
    refine wpAny_execs_cons (wpAny_AugAssign_AttributeAny (ev_local W13 (m := m) (by k_mem) hms (get_own1 (kvs := soK (.ref n2) (.ref rA) (.int kp tp) nf) (v := .int kp tp) hG2 W13 hx2 (by k_mem) rfl rfl (by kernel_rfl) (by kernel_rfl) (by kernel_rfl) fun s14 W14 => ?_)))
    refine (len_tup (c := ⟨prog, w, _, _, s₀, B2, _⟩) (T := T) (vs := vs) hG2 (Ev.local (m := m) (by k_mem) hmr) hT2 (by omega)) s14 _ _ W14 fun s15 v15 e15 W15 => ?_
    obtain ⟨k15, rfl⟩ := e15
    refine wpAny_iadd_int (set_own1 (L := L) (m := m) (kvs := soK (.ref n2) (.ref rA) (.int kp tp) nf) [(L, NsP m), (n2, DcP prog w (prs l2))] hG2 (W15.tok _) (by simp) hx2 (by kernel_rfl) (by kernel_rfl) (by kernel_rfl) (by kernel_rfl) (Nat.le_of_ble_eq_true rfl) fun s16 W16 => ?_)
    refine wpAny_execs_cons (wpAny_Return_some (ev_local W16 (m := m) (by k_mem) hmr ?_))
    exact h B2 l2 _ T vs s16 (hs1.trans hs2) hda2 P2 hk2 ⟨_, _, rfl⟩ (hs2 _ _ hoT) fR (W16.re W16.st.drop)
end
end Mine

end

section
set_option Elab.async false
set_option linter.unusedVariables false
set_option maxRecDepth 100000
set_option maxHeartbeats 4000000
open PySem PySem.W PyProof.Rows PySem.SeqAt
namespace Mine
inductive DnJ (prog : Program) (w : World) (n2 dx rA I0 L x : Addr) (As0 : As) (po nf : Value) (l : List Nd) (Y : Led) (np : Int → Int) (cn : Int → Int → Nat) (N : Nat) (t : Int) (d : Nd) (i : Nat) (B' : Heap) (X' : Led) : Prop
  | mk (m : Str → Option Value) (l' : List Nd) (rs : List Int) (hX : X' = (I0, As0) :: (L, NsP m) :: SX prog w n2 dx (.ref rA) po nf l' ((rA, SsP rs) :: Y)) (h1 : DaOk B' l') (h2 : m (Str.ofString "self") = some (.ref x)) (h3 : m (Str.ofString "n2i") = some (.ref n2))
      (h4 : Pl l' (fun u => if u = t then -2 else np u - ((d.ss.take i).count u : Nat)) cn N) (h5 : l'.map (·.t) = l.map (·.t)) (h6 : ∀ u, u ∈ rs ↔ u ∈ d.ss.take i ∧ np u = ((d.ss.take i).count u : Nat)) (h7 : rs.length ≤ i) (h8 : ∃ e ∈ l', e.sa = d.sa ∧ e.ss = d.ss) : DnJ prog w n2 dx rA I0 L x As0 po nf l Y np cn N t d i B' X'

section
variable {prog : Program} {w : World} {A : Around} {E : Value → Shared → Prop} {s₀ s : Shared} {B : Heap} {X Y Z pre post : Led} {env : Env} {mg mb : Str → Option Value} {x dx n2 rA : Addr} {rd po nf : Value} {l : List Nd} {np : Int → Int} {cn : Int → Int → Nat} {N : Nat}

theorem one_split {α : Type} {v a : α} {pr post : List α} (h : [v] = pr ++ a :: post) : pr = [] ∧ a = v ∧ post = [] := by
  cases pr with
  | nil => simp at h; exact ⟨rfl, h.1.symm, h.2⟩
  | cons b r => simp at h

theorem done_call {t : Int} {v : Value} {Q : Value → Shared → Prop} (hG : G (KF w) mg mb B) (hW : W s₀ B (SX prog w n2 dx (.ref rA) po nf l ((rA, SsP []) :: Y)) s) (hR : Rm A 2 30) (hx : B.get? x = some (instObj 137 dx)) (hn : (n2 == sysModules) = false) (hda : DaOk B l) (P : Pl l np cn N)
    (hv : IsI t v) (hnf : ∃ k, IsI k nf) (hnp : np t = -1) (ht : t ∈ l.map (·.t)) (hcn : ∀ u, 0 < cn t u → u ∈ l.map (·.t) ∧ t < u ∧ (cn t u : Int) ≤ np u) (hN : N ≤ 500)
    (h : ∀ B' l' nf' rs s', Sub B B' → DaOk B' l' → Pl l' (fun u => if u = t then -2 else np u - cn t u) cn N → l'.map (·.t) = l.map (·.t) → (∃ k, IsI k nf') → (∀ u, u ∈ rs ↔ 0 < cn t u ∧ np u = cn t u) → rs.length ≤ N →
      W s₀ B' (SX prog w n2 dx (.ref rA) po nf' l' ((rA, SsP rs) :: Y)) s' → Q .none s') : wpAny (model prog w) A (call (.ref 120) [.ref x, v]) Q E s := by
  refine call_fnV (vs := [v]) (binds := fun T => [(Str.ofString "self", .ref x), (Str.ofString "nodes", T)]) hG hW (by with_unfolding_all rfl) (by with_unfolding_all rfl) (by with_unfolding_all rfl) (by have := hR.d; omega) (by kernel_rfl) (by simp) (by decide) ?_ (by with_unfolding_all rfl) (by with_unfolding_all rfl) (by with_unfolding_all rfl) ?_
  · intro T y hy
    simp only [List.mem_cons, List.not_mem_nil, or_false] at hy
    rcases hy with rfl | rfl <;> with_unfolding_all rfl
  intro B1 L T s1 hs1 hT W1
  obtain ⟨m, hms, hmp, W1⟩ : Ex3 (fun m : Str → Option Value => m (Str.ofString "self") = some (.ref x)) (fun m : Str → Option Value => m (Str.ofString "nodes") = some (.ref T)) (fun m : Str → Option Value => W s₀ B1 ((L, NsP m) :: SX prog w n2 dx (.ref rA) po nf l ((rA, SsP []) :: Y)) s1) := ⟨_, by with_unfolding_all rfl, by with_unfolding_all rfl, W1⟩
  have R1 := hR.deeper (d := 1) (u := 27)
  have hG1 := hG.mono hs1
  have hx1 := hs1 _ _ hx
  have hda1 := hda.mono hs1
  refine wpAny_execs_cons (wpAny_If ((EvT.isNone (c := ⟨prog, w, _, _, s₀, B1, _⟩) (v := .ref rA) (Ev.own (kvs := soK (.ref n2) (.ref rA) po nf) hG1 (Ev.local (m := m) (by k_mem) hms) hx1 (by k_mem) rfl)) s1 _ _ W1 fun s2 W2 => ?_))
  rw [if_neg (by simp)]
  refine wpAny_execs_nil ?_
  -- n2i = self._node2info
  refine wpAny_execs_cons (wpAny_Assign_Name ((Ev.own (c := ⟨prog, w, _, _, s₀, B1, _⟩) (kvs := soK (.ref n2) (.ref rA) po nf) (v := .ref n2) hG1 (Ev.local (m := m) (by k_mem) hms) hx1 (by k_mem) rfl) s2 _ _ W2 fun s3 v3 e3 W3 => ?_))
  subst e3
  refine st_local [] W3 fun s4 W4 => ?_
  obtain ⟨m4, hms4, hmp4, hmn4, W4⟩ : Ex4 (fun m : Str → Option Value => m (Str.ofString "self") = some (.ref x)) (fun m : Str → Option Value => m (Str.ofString "nodes") = some (.ref T)) (fun m : Str → Option Value => m (Str.ofString "n2i") = some (.ref n2)) (fun m : Str → Option Value => W s₀ B1 ((L, NsP m) :: SX prog w n2 dx (.ref rA) po nf l ((rA, SsP []) :: Y)) s4) :=
    ⟨_, (up_ne (by decide)).trans hms, (up_ne (by decide)).trans hmp, up_self _ _ _, W4⟩
  obtain ⟨la, d, lb, hl, hdt, hva⟩ := va_of P ht
  have hdl : d ∈ l := by rw [hl]; simp
  have hdc : ∀ u, d.ss.count u = cn t u := fun u => by rw [P.hc d hdl, hdt]
  -- for node in nodes
  refine wpAny_execs_cons (for_tup (s₀ := s₀) (R1 _).h (fun pr B' X' => (pr = [] → X' = (L, NsP m4) :: SX prog w n2 dx (.ref rA) po nf l ((rA, SsP []) :: Y)) ∧ (pr ≠ [] → ∃ m l' nf' rs, X' = (L, NsP m) :: SX prog w n2 dx (.ref rA) po nf' l' ((rA, SsP rs) :: Y) ∧ DaOk B' l' ∧
      Pl l' (fun u => if u = t then -2 else np u - cn t u) cn N ∧ l'.map (·.t) = l.map (·.t) ∧ (∃ k, IsI k nf') ∧ (∀ u, u ∈ rs ↔ 0 < cn t u ∧ np u = cn t u) ∧ rs.length ≤ N)) hT (ev_local W4 (m := m4) (by k_mem) hmp4 ⟨rfl, W4⟩) ⟨fun _ => rfl, fun q => absurd rfl q⟩ ?_ ?_)
  · rintro pr pv post I0 As0 B2 X2 s5 hvs hs2 ⟨hX, -⟩ W5
    obtain ⟨rfl, rfl, rfl⟩ := one_split hvs
    have hX := hX rfl
    subst hX
    have hG2 := hG1.mono hs2
    have hx2 := hs2 _ _ hx1
    have hda2 := hda1.mono hs2
    refine abs_turn fun Qt hQt => ?_
    refine as_name [(I0, As0)] W5 fun s6 W6 => ?_
    obtain ⟨m6, hms, hmn, hmv, W6⟩ : Ex4 (fun m : Str → Option Value => m (Str.ofString "self") = some (.ref x)) (fun m : Str → Option Value => m (Str.ofString "n2i") = some (.ref n2)) (fun m : Str → Option Value => m (Str.ofString "node") = some pv) (fun m : Str → Option Value => W s₀ B2 ((I0, As0) :: (L, NsP m) :: SX prog w n2 dx (.ref rA) po nf l ((rA, SsP []) :: Y)) s6) :=
      ⟨_, (up_ne (by decide)).trans hms4, (up_ne (by decide)).trans hmn4, up_self _ _ _, W6⟩
    -- if (nodeinfo := n2i.get(node)) is None
    refine wpAny_execs_cons (wpAny_If (wpAny_isTrue_Compare1 (wpAny_NamedExpr ((Ev.dget (c := ⟨prog, w, _, _, s₀, B2, (I0, As0) :: (L, NsP m6) :: SX prog w n2 dx (.ref rA) po nf l ((rA, SsP []) :: Y)⟩) (kvs := prs l) (t := t) (Ev.local (m := m6) (by k_mem) hmn) (Ev.imp (Ev.local (m := m6) (by k_mem) hmv) fun u e => by rw [e]; exact hv) (by simp) hn) s6 _ _ W6 fun s7 v7 e7 W7 => ?_)) (by with_unfolding_all rfl)))
    rw [hva] at e7
    have e7 : v7 = .ref d.ia := e7
    subst e7
    refine as_name [(I0, As0)] W7 fun s8 W8 => wpAny_Constant_none (is_none_gen (wpAny_truthy_bool ?_))
    rw [if_neg (by simp)]
    refine wpAny_execs_nil ?_
    obtain ⟨m8, hms, hmn, hmi, W8⟩ : Ex4 (fun m : Str → Option Value => m (Str.ofString "self") = some (.ref x)) (fun m : Str → Option Value => m (Str.ofString "n2i") = some (.ref n2)) (fun m : Str → Option Value => m (Str.ofString "nodeinfo") = some (.ref d.ia)) (fun m : Str → Option Value => W s₀ B2 ((I0, As0) :: (L, NsP m) :: SX prog w n2 dx (.ref rA) po nf l ((rA, SsP []) :: Y)) s8) :=
      ⟨_, (up_ne (by decide)).trans hms, (up_ne (by decide)).trans hmn, up_self _ _ _, W8⟩
    have md := mem_nd hdl
    have hnpd : d.np = -1 := by rw [P.hp d hdl, hdt, hnp]
    -- stat = nodeinfo.npredecessors
    refine wpAny_execs_cons (wpAny_Assign_Name ((Ev.preds (c := ⟨prog, w, _, _, s₀, B2, (I0, As0) :: (L, NsP m8) :: SX prog w n2 dx (.ref rA) po nf l ((rA, SsP []) :: Y)⟩) (t := d.t) (np := d.np) (sa := d.sa) (da := d.da) hG2 (Ev.local (m := m8) (by k_mem) hmi) (by simp [md.1]) (hda2 d hdl)) s8 _ _ W8 fun s9 v9 e9 W9 => ?_))
    rw [hnpd] at e9
    obtain ⟨k9, rfl⟩ := e9
    refine st_local [(I0, As0)] W9 fun s10 W10 => ?_
    obtain ⟨m10, hms, hmn, hmi, hmst, W10⟩ : Ex5 (fun m : Str → Option Value => m (Str.ofString "self") = some (.ref x)) (fun m : Str → Option Value => m (Str.ofString "n2i") = some (.ref n2)) (fun m : Str → Option Value => m (Str.ofString "nodeinfo") = some (.ref d.ia)) (fun m : Str → Option Value => m (Str.ofString "stat") = some (.int (-1) k9)) (fun m : Str → Option Value => W s₀ B2 ((I0, As0) :: (L, NsP m) :: SX prog w n2 dx (.ref rA) po nf l ((rA, SsP []) :: Y)) s10) :=
      ⟨_, (up_ne (by decide)).trans hms, (up_ne (by decide)).trans hmn, (up_ne (by decide)).trans hmi, up_self _ _ _, W10⟩
    -- if stat != _NODE_OUT
    refine wpAny_execs_cons (wpAny_If ((Ev.neI (c := ⟨prog, w, _, _, s₀, B2, (I0, As0) :: (L, NsP m10) :: SX prog w n2 dx (.ref rA) po nf l ((rA, SsP []) :: Y)⟩) (a := -1) (b := -1) (Ev.imp (Ev.local (m := m10) (by k_mem) hmst) fun u e => ⟨k9, e⟩) (Ev.imp (Ev.glob (v := .int (-1) 197) hG2 (by with_unfolding_all rfl)) fun u e => ⟨197, e⟩)) s10 _ _ W10 fun s11 W11 => ?_))
    rw [if_neg (by decide)]
    refine wpAny_execs_nil ?_
    -- nodeinfo.npredecessors = _NODE_DONE
    refine wpAny_execs_cons (plainObj_wpAny_Assign_Attribute (ev_global hG2 W11 (v := .int (-2) 200) (ev_local W11 (m := m10) (by k_mem) hmi ?_)))
    rw [hl] at W11
    refine set_np (L := L) (m := m10) (t' := -2) [(I0, As0), (L, NsP m10)] hG2 W11 (by simp) (hda2 d hdl) ⟨200, rfl⟩ fun s12 W12 => ?_
    have P12 : Pl (la ++ { d with np := -2 } :: lb) (fun u => if u = t then -2 else np u) cn N := by
      have P' := P
      rw [hl] at P'
      refine P'.upd (d' := { d with np := -2 }) rfl ?_ (P'.hc d (by simp)) (fun u hu => ⟨?_, rfl⟩) (Nat.le_refl _) (P'.sl d (by simp))
      · show (-2 : Int) = _
        rw [if_pos hdt]
      · rw [if_neg (fun q => hu (q.trans hdt.symm))]
    have hda12 : DaOk B2 (la ++ { d with np := -2 } :: lb) := by
      have hd' := hda2
      rw [hl] at hd'
      exact hd'.upd (d' := { d with np := -2 }) rfl
    have hk12 : (la ++ { d with np := -2 } :: lb).map (·.t) = l.map (·.t) := by rw [hl]; simp
    have hd12 : ({ d with np := -2 } : Nd) ∈ la ++ { d with np := -2 } :: lb := by simp
    have md12 := mem_nd hd12
    -- for successor in nodeinfo.successors
    refine wpAny_execs_cons (wpAny_For ((Ev.succ (c := ⟨prog, w, _, _, s₀, B2, (I0, As0) :: (L, NsP m10) :: SX prog w n2 dx (.ref rA) po nf (la ++ { d with np := -2 } :: lb) ((rA, SsP []) :: Y)⟩) (t := d.t) (np := -2) (sa := d.sa) (da := d.da) hG2 (Ev.local (m := m10) (by k_mem) hmi) (by have := md12.1; simp only [List.mem_cons, List.mem_append]; exact .inr (.inr (.inr (.inr (.inl this))))) (hda2 d hdl)) s12 _ _ W12 fun s13 v13 e13 W13 => ?_))
    subst e13
    obtain ⟨oS, hoS, us, pS, fS⟩ := W13.st.at (a := d.sa) (P := SsP d.ss) (by have := md12.2; simp only [List.mem_cons, List.mem_append]; exact .inr (.inr (.inr (.inr (.inl this)))))
    refine wpAny_pyIter_list (pS.isList hoS) ?_
    refine for_it (s₀ := s₀) (B := B2) (X := (I0, As0) :: (L, NsP m10) :: SX prog w n2 dx (.ref rA) po nf (la ++ { d with np := -2 } :: lb) ((rA, SsP []) :: Y)) (it_ss (R1 _).h s13.heap.objs.size d.sa d.ss)
      (DnJ prog w n2 dx rA I0 L x As0 po nf l Y np cn N t d) ?_ ?_ ?_ ?_ ?_
    · rintro i B' X' h hs ⟨m, l', rs, rfl, -, -, -, -, -, -, -, e, he, e1, e2⟩ H
      obtain ⟨o, ho, vs, p, f⟩ := H.at (a := e.sa) (P := SsP e.ss) (by have := (mem_nd he).2; simp [this])
      rw [e1] at ho; rw [e2] at f
      exact ⟨vs, p.isList ho, f⟩
    · exact W13.to (tk := s13.toks) (W13.st.new rfl ⟨rfl, rfl⟩)
    · exact ⟨m10, _, [], rfl, hda12, hms, hmn, by simpa using P12, hk12, fun u => by simp, Nat.le_refl _, _, hd12, rfl, rfl⟩
    · rintro i sv B3 X3 s14 hi ⟨u, hu, hsv⟩ hs3 ⟨m, l3, rs, rfl, hda3, hms, hmn, P3, hk3, hrs, hrl, e0, he0, he1, he2⟩ W14
      have hG3 := hG2.mono hs3
      have hx3 := hs3 _ _ hx2
      have huin : u ∈ d.ss := List.mem_of_getElem? hu
      have hcu : 0 < cn t u := by rw [← hdc]; exact List.count_pos_iff.mpr huin
      obtain ⟨huk, htu, hle⟩ := hcn u hcu
      have hut : u ≠ t := by omega
      have htake : d.ss.take (i + 1) = d.ss.take i ++ [u] := by rw [List.take_add_one, hu]; rfl
      have hcle : ((d.ss.take (i + 1)).count u : Nat) ≤ cn t u := by rw [← hdc]; exact List.Sublist.count_le _ (List.take_sublist _ _)
      rw [htake, List.count_append, List.count_singleton_self] at hcle
      generalize hpI : (s13.heap.objs.size, LIterP d.sa (i + 1)) = pI at W14
      refine abs_turn fun Qu hQu => ?_
      refine as_name [pI, (I0, As0)] W14 fun s15 W15 => ?_
      obtain ⟨m15, hms, hmn, hmsu, W15⟩ : Ex4 (fun m : Str → Option Value => m (Str.ofString "self") = some (.ref x)) (fun m : Str → Option Value => m (Str.ofString "n2i") = some (.ref n2)) (fun m : Str → Option Value => m (Str.ofString "successor") = some sv) (fun m : Str → Option Value => W s₀ B3 (pI :: (I0, As0) :: (L, NsP m) :: SX prog w n2 dx (.ref rA) po nf l3 ((rA, SsP rs) :: Y)) s15) :=
        ⟨_, (up_ne (by decide)).trans hms, (up_ne (by decide)).trans hmn, up_self _ _ _, W15⟩
      obtain ⟨lc, e, ld, rfl, het, hve⟩ := va_of P3 (t := u) (by rw [hk3]; exact huk)
      have me := mem_nd (l := lc ++ e :: ld) (d := e) (by simp)
      -- successor_info = n2i[successor]
      refine wpAny_execs_cons (wpAny_Assign_Name ((Ev.ditem (c := ⟨prog, w, _, _, s₀, B3, pI :: (I0, As0) :: (L, NsP m15) :: SX prog w n2 dx (.ref rA) po nf (lc ++ e :: ld) ((rA, SsP rs) :: Y)⟩) (kvs := prs (lc ++ e :: ld)) (t := u) (v := .ref e.ia) (Ev.local (m := m15) (by k_mem) hmn) (Ev.imp (Ev.local (m := m15) (by k_mem) hmsu) fun u' q => by rw [q]; exact hsv) (by simp) hve) s15 _ _ W15 fun s16 v16 e16 W16 => ?_))
      subst e16
      refine st_local [pI, (I0, As0)] W16 fun s17 W17 => ?_
      obtain ⟨m17, hms, hmn, hmsu, hmsi, W17⟩ : Ex5 (fun m : Str → Option Value => m (Str.ofString "self") = some (.ref x)) (fun m : Str → Option Value => m (Str.ofString "n2i") = some (.ref n2)) (fun m : Str → Option Value => m (Str.ofString "successor") = some sv) (fun m : Str → Option Value => m (Str.ofString "successor_info") = some (.ref e.ia)) (fun m : Str → Option Value => W s₀ B3 (pI :: (I0, As0) :: (L, NsP m) :: SX prog w n2 dx (.ref rA) po nf (lc ++ e :: ld) ((rA, SsP rs) :: Y)) s17) :=
        ⟨_, (up_ne (by decide)).trans hms, (up_ne (by decide)).trans hmn, (up_ne (by decide)).trans hmsu, up_self _ _ _, W17⟩
      have henp : e.np = np u - ((d.ss.take i).count u : Nat) := by rw [P3.hp e (by simp), het, if_neg hut]
      -- successor_info.npredecessors -= 1
      refine wpAny_execs_cons (wpAny_AugAssign_AttributeAny (ev_local W17 (m := m17) (by k_mem) hmsi ?_))
      refine get_np hG3 W17 (t := e.t) (np := e.np) (sa := e.sa) (da := e.da) (by simp [me.1]) (hda3 e (by simp)) fun s18 v18 e18 W18 => ?_
      obtain ⟨k18, rfl⟩ := e18
      refine wpAny_Constant_int (PyProof.Rows.isub_int ?_)
      refine set_np (L := L) (m := m17) (t' := e.np - 1) [pI, (I0, As0), (L, NsP m17)] hG3 ((W18.tok _).tok _) (by simp) (hda3 e (by simp)) ⟨_, rfl⟩ fun s19 W19 => ?_
      have hda19 : DaOk B3 (lc ++ { e with np := e.np - 1 } :: ld) := hda3.upd (d' := { e with np := e.np - 1 }) rfl
      have P19 : Pl (lc ++ { e with np := e.np - 1 } :: ld) (fun u => if u = t then -2 else np u - ((d.ss.take (i + 1)).count u : Nat)) cn N := by
        refine P3.upd (d' := { e with np := e.np - 1 }) rfl ?_ (P3.hc e (by simp)) (fun u' hu' => ⟨?_, rfl⟩) (Nat.le_refl _) (P3.sl e (by simp))
        · show e.np - 1 = _
          rw [het, if_neg hut, henp, htake, List.count_append, List.count_singleton_self]; omega
        · have : u ≠ u' := fun q => hu' (by rw [← q, het])
          rw [htake, List.count_append, List.count_singleton, if_neg (show ¬ (u == u') = true from by rw [beq_iff_eq]; exact this), Nat.add_zero]
      have hk19 : (lc ++ { e with np := e.np - 1 } :: ld).map (·.t) = l.map (·.t) := by rw [← hk3]; simp
      have he19 : ∃ e' ∈ lc ++ { e with np := e.np - 1 } :: ld, e'.sa = d.sa ∧ e'.ss = d.ss := by
        simp only [List.mem_append, List.mem_cons] at he0
        rcases he0 with q | q | q
        · exact ⟨e0, by simp [q], he1, he2⟩
        · exact ⟨{ e with np := e.np - 1 }, by simp, q ▸ he1, q ▸ he2⟩
        · exact ⟨e0, by simp [q], he1, he2⟩
      have me2 := mem_nd (l := lc ++ { e with np := e.np - 1 } :: ld) (d := { e with np := e.np - 1 }) (by simp)
      -- if successor_info.npredecessors == 0
      refine wpAny_execs_cons (wpAny_If ((Ev.eqI (c := ⟨prog, w, _, _, s₀, B3, pI :: (I0, As0) :: (L, NsP m17) :: SX prog w n2 dx (.ref rA) po nf (lc ++ { e with np := e.np - 1 } :: ld) ((rA, SsP rs) :: Y)⟩) (a := e.np - 1) (b := 0) (Ev.preds (t := e.t) (np := e.np - 1) (sa := e.sa) (da := e.da) hG3 (Ev.local (m := m17) (by k_mem) hmsi) (by have := me2.1; simp only [List.mem_cons, List.mem_append]; exact .inr (.inr (.inr (.inr (.inr (.inl this)))))) (hda3 e (by simp))) Ev.int) s19 _ _ W19 fun s20 W20 => ?_))
      have hmem : ∀ u', u' ≠ u → ((u' ∈ d.ss.take (i + 1) ∧ np u' = ((d.ss.take (i + 1)).count u' : Nat)) ↔ (u' ∈ d.ss.take i ∧ np u' = ((d.ss.take i).count u' : Nat))) := fun u' hu' => by
        rw [htake, List.count_append, List.count_singleton, if_neg (by simpa using fun q : u = u' => hu' q.symm), Nat.add_zero]
        simp [hu']
      by_cases hz : e.np - 1 = 0
      · rw [if_pos (by simpa using hz)]
        have W21 : W s₀ B3 ((pI :: (I0, As0) :: (L, NsP m17) :: (n2, DcP prog w (prs (lc ++ { e with np := e.np - 1 } :: ld))) :: (dx, DoP w (soK (.ref n2) (.ref rA) po nf)) :: ndLed (lc ++ { e with np := e.np - 1 } :: ld)) ++ (rA, SsP rs) :: Y) s20 := W20
        refine wpAny_execs_cons (append_ss (t := u) _ W21 (Ev.own (kvs := soK (.ref n2) (.ref rA) po nf) (v := .ref rA) hG3 (Ev.local (m := m17) (by k_mem) hms) hx3 (by k_mem) rfl) (Ev.imp (Ev.local (m := m17) (by k_mem) hmsu) fun u' q => by rw [q]; exact hsv) (by have := P.sl d hdl; omega) fun s22 W22 => ?_)
        refine wpAny_execs_nil (wpAny_execs_nil (hQu .next _ ⟨B3, _, Sub.refl _, ⟨m17, _, rs ++ [u], rfl, hda19, hms, hmn, P19, hk19, fun u' => ?_, by simp; omega, he19⟩, W22⟩))
        by_cases hu' : u' = u
        · subst hu'
          simp only [List.mem_append, List.mem_singleton, or_true, true_iff]
          rw [htake, List.count_append, List.count_singleton_self]
          exact ⟨by simp, by omega⟩
        · rw [hmem u' hu', ← hrs u']; simp [hu']
      · rw [if_neg (by simpa using hz)]
        refine wpAny_execs_nil (wpAny_execs_nil (hQu .next _ ⟨B3, _, Sub.refl _, ⟨m17, _, rs, rfl, hda19, hms, hmn, P19, hk19, fun u' => ?_, by omega, he19⟩, W20⟩))
        by_cases hu' : u' = u
        · subst hu'
          rw [hrs, htake, List.count_append, List.count_singleton_self]
          constructor
          · rintro ⟨a, b⟩; exfalso; omega
          · rintro ⟨a, b⟩; exfalso; omega
        · rw [hmem u' hu']; exact hrs u'
    · rintro B3 X3 s14 hs3 ⟨m, l3, rs, rfl, hda3, hms, hmn, P3, hk3, hrs, hrl, e0, he0, he1, he2⟩ W14
      rw [List.take_length] at P3 hrs
      have hG3 := hG2.mono hs3
      have hx3 := hs3 _ _ hx2
      -- self._nfinished += 1
      obtain ⟨kn, tn, rfl⟩ := hnf
      refine wpAny_execs_cons (wpAny_AugAssign_AttributeAny (ev_local W14 (m := m) (by k_mem) hms (get_own1 (kvs := soK (.ref n2) (.ref rA) po (.int kn tn)) (v := .int kn tn) hG3 W14 hx3 (by k_mem) rfl rfl (by kernel_rfl) (by kernel_rfl) (by kernel_rfl) fun s15 W15 => ?_)))
      refine wpAny_Constant_int (wpAny_iadd_int (set_own1 (L := L) (m := m) (kvs := soK (.ref n2) (.ref rA) po (.int kn tn)) [(I0, As0), (L, NsP m), (n2, DcP prog w (prs l3))] hG3 ((W15.tok _).tok _) (by simp) hx3 (by kernel_rfl) (by kernel_rfl) (by kernel_rfl) (by kernel_rfl) (Nat.le_of_ble_eq_true rfl) fun s16 W16 => ?_))
      refine wpAny_execs_nil (hQt .next _ ⟨B3, _, hs3, ⟨fun q => absurd q (by simp), fun _ => ⟨m, l3, _, rs, rfl, hda3, ?_, hk3, ⟨_, _, rfl⟩, fun u => ?_, ?_⟩⟩, W16⟩)
      · have e : (fun u => if u = t then (-2 : Int) else np u - ((d.ss.count u : Nat) : Int)) = fun u => if u = t then -2 else np u - (cn t u : Nat) := by funext u; rw [hdc]
        rw [← e]; exact P3
      · rw [hrs u, hdc, ← hdc, List.count_pos_iff]
      · have := P.sl d hdl; omega
  · rintro B2 X2 s5 hs2 ⟨-, hX⟩ W5
    obtain ⟨m, l', nf', rs, rfl, hda', P', hk', hnf', hrs', hrl'⟩ := hX (by simp)
    exact wpAny_execs_nil (h B2 l' nf' rs s5 (hs1.trans hs2) hda' P' hk' hnf' hrs' hrl' (W5.re W5.st.drop))
end
end Mine

end

section
set_option Elab.async false
set_option linter.unusedVariables false
namespace Mine
def preds (arcs : List (Int × Int)) (t : Int) : List Int := (arcs.filter fun a => decide (a.2 = t)).map (·.1)
theorem mem_preds {arcs : List (Int × Int)} {t a : Int} : a ∈ preds arcs t ↔ (a, t) ∈ arcs := by
  unfold preds
  simp only [List.mem_map, List.mem_filter, decide_eq_true_eq]
  constructor
  · rintro ⟨⟨x, y⟩, ⟨h1, h2⟩, h3⟩
    simp only at h2 h3
    subst h2 h3; exact h1
  · intro h; exact ⟨(a, t), ⟨h, rfl⟩, rfl⟩
theorem preds_len (arcs : List (Int × Int)) (t : Int) : (preds arcs t).length ≤ arcs.length := by
  unfold preds; rw [List.length_map]; exact List.length_filter_le _ _
def out (p xs : List Int) : Nat := (xs.filter fun a => !decide (a ∈ p)).length
theorem out_snoc {p : List Int} {t : Int} (h : t ∉ p) : ∀ xs : List Int, out p xs = out (p ++ [t]) xs + xs.count t
  | [] => rfl
  | x :: xs => by
    have ih := out_snoc h xs
    unfold out at ih ⊢
    by_cases h1 : x = t
    · subst h1
      simp [h, ih]
      omega
    · by_cases h2 : x ∈ p
      · simp [h1, h2, ih]
      · simp [h1, h2, ih]
        omega
theorem out_zero {p xs : List Int} : out p xs = 0 ↔ ∀ a ∈ xs, a ∈ p := by
  unfold out
  rw [List.length_eq_zero_iff, List.filter_eq_nil_iff]
  simp
theorem out_nil (xs : List Int) : out [] xs = xs.length := by simp [out]
abbrev Rg (u : Int) : Prop := 0 ≤ u ∧ u < 4
structure TInv (arcs : List (Int × Int)) (p : List Int) (np : Int → Int) (ws : List Int) : Prop where
  h1 : ∀ u, Rg u → np u = if u ∈ p then -2 else if out p (preds arcs u) = 0 then -1 else (out p (preds arcs u) : Int)
  h2 : ∀ u, u ∈ ws ↔ Rg u ∧ out p (preds arcs u) = 0
theorem TInv.start {arcs : List (Int × Int)} {np : Int → Int} {rs : List Int} (hnp : ∀ u, Rg u → np u = (preds arcs u).length) (hrs : ∀ u, u ∈ rs ↔ Rg u ∧ np u = 0) : TInv arcs [] (fun u => if u ∈ rs then -1 else np u) rs := by
  refine ⟨fun u hu => ?_, fun u => ?_⟩
  · simp only [List.not_mem_nil, if_false, out_nil]
    by_cases h : (preds arcs u).length = 0
    · rw [if_pos h, if_pos ((hrs u).mpr ⟨hu, by rw [hnp u hu, h]; rfl⟩)]
    · rw [if_neg h, if_neg fun q => h (by have := ((hrs u).mp q).2; rw [hnp u hu] at this; omega), hnp u hu]
  · rw [hrs, out_nil]
    constructor
    · rintro ⟨a, b⟩; rw [hnp u a] at b; exact ⟨a, by omega⟩
    · rintro ⟨a, b⟩; exact ⟨a, by rw [hnp u a, b]; rfl⟩
section
variable {arcs : List (Int × Int)} {o p q : List Int} {t : Int} {np : Int → Int} {ws rs : List Int}
theorem TInv.facts (hv : Valid arcs) (ho : OrdOK arcs o) (e : o = p ++ t :: q) (T : TInv arcs p np ws) : Rg t ∧ np t = -1 ∧ t ∉ p ∧ (∀ u ∈ p, out p (preds arcs u) = 0) ∧ ∀ u, Rg u → 0 < (preds arcs u).count t → t < u ∧ (((preds arcs u).count t : Nat) : Int) ≤ np u ∧ u ∉ p ∧ np u = out p (preds arcs u) := by
  have hr : Rg t := ho.rng t (by rw [e]; simp)
  have hp : t ∉ p := fun hm => by
    have := ho.nd
    rw [e, List.nodup_append] at this
    exact this.2.2 t hm t (by simp) rfl
  have h0 : out p (preds arcs t) = 0 := out_zero.mpr fun a ha => ho.pre p t q e (a, t) (mem_preds.mp ha) rfl
  have hc : ∀ u ∈ p, out p (preds arcs u) = 0 := fun u hu => by
    obtain ⟨p1, p2, rfl⟩ := List.append_of_mem hu
    exact out_zero.mpr fun a ha => List.mem_append_left _ (ho.pre p1 u (p2 ++ t :: q) (by rw [e]; simp) (a, u) (mem_preds.mp ha) rfl)
  refine ⟨hr, by rw [T.h1 t hr, if_neg hp, if_pos h0], hp, hc, fun u hu hcu => ?_⟩
  have hm := List.count_pos_iff.mp hcu
  have ha := hv _ (mem_preds.mp hm)
  have os := out_snoc hp (preds arcs u)
  have hup : u ∉ p := fun hm' => by have := hc u hm'; omega
  have e1 : np u = out p (preds arcs u) := by rw [T.h1 u hu, if_neg hup, if_neg (by omega)]
  exact ⟨ha.2.1, by rw [e1]; omega, hup, e1⟩
theorem TInv.step (hv : Valid arcs) (ho : OrdOK arcs o) (e : o = p ++ t :: q) (T : TInv arcs p np ws) {cn : Int → Int → Nat} (hcn : ∀ u, cn t u = if Rg u then (preds arcs u).count t else 0) (hrs : ∀ u, u ∈ rs ↔ 0 < cn t u ∧ np u = cn t u) :
    TInv arcs (p ++ [t]) (fun u => if u ∈ rs then -1 else (if u = t then -2 else np u - cn t u)) (ws ++ rs) := by
  obtain ⟨hr, hnt, hp, hc, hcu⟩ := T.facts hv ho e
  have htr : t ∉ rs := fun hm => by
    have := ((hrs t).mp hm).2
    rw [hnt] at this; omega
  refine ⟨fun u hu => ?_, fun u => ?_⟩
  · have os := out_snoc hp (preds arcs u)
    have ec : cn t u = (preds arcs u).count t := by rw [hcn, if_pos hu]
    by_cases hut : u = t
    · subst hut
      simp [htr]
    · by_cases hup : u ∈ p
      · have h0 := hc u hup
        have c0 : cn t u = 0 := by omega
        have hnr : u ∉ rs := fun hm => by have := ((hrs u).mp hm).1; omega
        simp only [hnr, if_false, hut, List.mem_append, hup, true_or, if_true, c0]
        rw [T.h1 u hu, if_pos hup]; rfl
      · have hnp : u ∉ p ++ [t] := by simp [hup, hut]
        rw [if_neg hnp]
        by_cases hcz : cn t u = 0
        · have hnr : u ∉ rs := fun hm => by have := ((hrs u).mp hm).1; omega
          have eo : out (p ++ [t]) (preds arcs u) = out p (preds arcs u) := by omega
          simp only [hnr, if_false, hut, hcz]
          rw [T.h1 u hu, if_neg hup, eo]; simp
        · obtain ⟨h1, h2, h3, h4⟩ := hcu u hu (by omega)
          by_cases hz : out (p ++ [t]) (preds arcs u) = 0
          · rw [if_pos hz, if_pos ((hrs u).mpr ⟨by omega, by rw [h4]; omega⟩)]
          · rw [if_neg hz, if_neg fun hm => hz (by have := ((hrs u).mp hm).2; rw [h4] at this; omega), if_neg hut, h4]
            omega
  · rw [List.mem_append, T.h2, hrs]
    have os := out_snoc hp (preds arcs u)
    constructor
    · rintro (⟨a, b⟩ | ⟨a, b⟩)
      · exact ⟨a, by omega⟩
      · have hu : Rg u := by
          rw [hcn] at a
          by_cases hu : Rg u
          · exact hu
          · rw [if_neg hu] at a; omega
        have ec : cn t u = (preds arcs u).count t := by rw [hcn, if_pos hu]
        obtain ⟨h1, h2, h3, h4⟩ := hcu u hu (by omega)
        exact ⟨hu, by rw [h4] at b; omega⟩
    · rintro ⟨a, b⟩
      have ec : cn t u = (preds arcs u).count t := by rw [hcn, if_pos a]
      by_cases hcz : (preds arcs u).count t = 0
      · exact .inl ⟨a, by omega⟩
      · obtain ⟨h1, h2, h3, h4⟩ := hcu u a (by omega)
        exact .inr ⟨by omega, by rw [h4]; omega⟩
theorem TInv.wt (T : TInv arcs o np ws) (u : Int) : (u ∈ ws ∧ u ∉ o) ↔ Wt arcs o u := by
  rw [T.h2, out_zero]
  unfold Wt
  constructor
  · rintro ⟨⟨a, b⟩, c⟩
    exact ⟨a, c, fun x hx e => b x.1 (mem_preds.mpr (by rw [← e]; exact hx))⟩
  · rintro ⟨a, c, b⟩
    exact ⟨⟨a, fun x hx => b (x, u) (mem_preds.mp hx) rfl⟩, c⟩
end
end Mine

end

section
set_option Elab.async false
set_option linter.unusedVariables false
set_option maxRecDepth 100000
set_option maxHeartbeats 4000000
open PySem PySem.W PyProof.Rows PySem.SeqAt
namespace Mine
section
variable {prog : Program} {w : World} {A : Around} {E : Value → Shared → Prop} {s₀ s : Shared} {B : Heap} {X Y Z pre post : Led} {env : Env} {mg mb : Str → Option Value} {x dx C L : Addr} {m : Str → Option Value} {kvs : List (Str × Value)} {name : Str} {K : Frag}

/-- xs.extend(t), t a tuple -/
theorem extend_tup {o e : Expr} {apos pos p' : Pos} {D : Addr} {us : List Value} {Q : Flow → Shared → Prop} (pre : Led) (hW : W s₀ B (pre ++ (D, LsP us) :: post) s)
    (ho : Ev ⟨prog, w, A, env, s₀, B, pre ++ (D, LsP us) :: post⟩ o (· = .ref D))
    (h : ∀ s₁, W s₀ B (pre ++ (D, LsP us) :: post) s₁ → wpAny (model prog w) A (eval e env) (fun v s₂ => ∃ B' pre' post' T ws, v = .ref T ∧ W s₀ B' (pre' ++ (D, LsP us) :: post') s₂ ∧ B'.get? T = some { cls := .type "tuple", data := .seq ws.toArray } ∧ us.length + ws.length ≤ 2 ^ 20 ∧
      (∀ s', W s₀ B' (pre' ++ (D, LsP (us ++ ws)) :: post') s' → Q .next s')) E s₁)
    (hbase : attributeBase o "extend" env (eval o env) = eval o env := by rfl)
    (hns : starEach [e] env = [(false, eval e env)] := by rfl)
    (hline : (apos.endLine == pos.line) = true := by rfl)
    (hi : interactive env = false := by rfl) (hs : swapsWith (.Call (.Attribute o "extend" apos) [e] [] pos) none p'.line env = pure false := by rfl) :
    wpAny (model prog w) A (exec (.Expr (.Call (.Attribute o "extend" apos) [e] [] pos) p') env) Q E s := by
  refine wpAny_Expr ?_ hi hs
  refine wpAny_Call_method hbase (by rw [hns]; rfl) hline F.plainAttrs_list F.slot_list_extend F.type_list_extend (ho s _ _ hW fun s₁ v ev W1 => ?_)
  subst ev
  obtain ⟨n, hD⟩ := LAt.lsP (a := D) (vs := us) (.inr (by simp)) W1.st
  refine ⟨⟨_, hD, rfl⟩, (fun a ea => by cases ea; exact ⟨_, hD, rfl⟩), ?_⟩
  rw [hns]
  refine Calls.callWith_builtin rfl (Calls.evalArgs_plain (Calls.spliced_cons (wpAny_mono (h s₁ W1) (fun v s₂ h₂ => Calls.spliced_nil ?_) fun _ _ x => x)))
  obtain ⟨B', pre', post', T, ws, rfl, W2, hT, hz, k⟩ := h₂
  obtain ⟨n1, hD1⟩ := LAt.lsP (a := D) (vs := us) (.inr (by simp)) W2.st
  have hpw : (2 : Nat) ^ 20 ≤ sizeLine := by rw [sizeLine_eq]; decide
  refine call_meets F.slot_list_extend ⟨_, hD1, rfl⟩ F.entry_list_extend (F.args_list_extend_2 _ _) (AutoSeq1.list_extend_list_tuple_0 D us.toArray n1 T ws.toArray 0 (by simp [Builtin.List.listTooLong]; omega) (by simp; omega) (by simp; omega)) ⟨hD1, W2.st.sub _ _ hT, ?_⟩
  refine k _ (W2.to (tk := s₂.toks) (W2.st.upd pre' (Heap.SameBut.update ..) (LsP.of ?_)))
  have e' := PySem.IsL.update hD1 (fun xs => xs ++ ws.toArray)
  have e2 : us.toArray ++ ws.toArray = (us ++ ws).toArray := by simp
  rw [e2] at e'
  exact ⟨_, e'⟩

/-- *e, e a list -/
theorem star_ls {a : Addr} {us : List Value} {Q : List Value → Shared → Prop} (hW : W s₀ B X s) (hL : (L, NsP m) ∈ X) (hm : (a, LsP us) ∈ X) (hne : a ≠ L) (hz : us.length ≤ 1000) (h : ∀ s', W s₀ B X s' → Q us s') : StarOf (model prog w) A E (.ref a) Q s := by
  obtain ⟨o, ho, n, rfl⟩ := hW.st.at hm
  refine star_seq (T := "list") (ws := us) (fr_of hW.st hL) (news_of s.heap L) (mem_others.mpr ⟨hne, ho⟩) rfl rfl (.inl rfl) (by simp) (by rw [sizeLine_eq]; simp; omega) fun h' F' N' => ?_
  exact h _ (hW.to (tk := s.toks) (hW.st.fromOthers hL F'.ns fun b ob hb e => (N' (b, ob) (mem_others.mpr ⟨hb, e⟩)).1))

/-- x.name(e1, *e2) -/
theorem call_methS {f : Addr} {o e1 e2 : Expr} {apos pos p : Pos} {Q : Value → Shared → Prop} (hG : G K mg mb B) (hW : W s₀ B X s) (ho : Ev ⟨prog, w, A, env, s₀, B, X⟩ o (· = .ref x)) (hx : B.get? x = some (instObj C dx)) (hm : (dx, DoP w kvs) ∈ X)
    (hl : getK name kvs = none) (hg : plainGet K C name = true) (hh : hasDictIn K C = true) (hf : findIn K (.ref C) name = some (some (.ref f))) (ht : isFn K (.ref f) = true)
    (hgf : specialIn K (.ref f) "__get__" = some (some (.builtin "function.__get__"))) (htk : takesIn K (.ref f) = some false) (hc : copiedNames.contains name = false) (hfn : fnIn K f = true)
    (h : ∀ s₁ B₁, Sub B B₁ → W s₀ B₁ X s₁ → wpAny (model prog w) A (eval e1 env) (fun v1 s₂ => wpAny (model prog w) A (eval e2 env) (fun v2 s₃ => StarOf (model prog w) A E v2 (fun here s₄ => (∃ B' X', Sub B₁ B' ∧ W s₀ B' X' s₄) ∧
      codeAny (model prog w) A (.call (.ref f) ⟨.ref x :: v1 :: here, []⟩) (fun r s' => match r with | .ok (.ret v) => Q v s' | .ok _ => False | .error e => E e s') s₄) s₃) E s₂) E s₁)
    (hbase : attributeBase o name env (eval o env) = eval o env := by rfl)
    (he : starEach [e1, .Starred e2 p] env = (false, eval e1 env) :: starEach [.Starred e2 p] env := by rfl)
    (hform : methodCallForm ([e1, .Starred e2 p].length + ([] : List Keyword).length) (backTo pos (starEach [e1, .Starred e2 p] env)) (backToKw pos (keywordEach [] env)) = false := by rfl) :
    wpAny (model prog w) A (eval (.Call (.Attribute o name apos) [e1, .Starred e2 p] [] pos) env) Q E s := by
  rw [arm_eval_Call, hbase]
  refine wpAny_bind (ho s _ _ hW fun s₁ ov e W1 => wpAny_bind (wpAny_standAt ?_))
  subst e
  unfold methodCall calleeOf methodCallPos
  simp only [hform, Bool.false_eq_true, if_false, Bool.not_false, Bool.true_or, if_true]
  obtain ⟨od, hod, es, n, rfl, fe⟩ := W1.st.at hm
  have X₀ := hG.kin.keeps W1.st.sub
  have I := inst_at (W1.st.sub _ _ hx) hod
  refine wpAny_bind (wpAny_holding (wpAny_bind (get_bind X₀ I (plainGet_of hg).1 (findObj_fn hh hf hgf htk hc (by show lookIn name (dictOf es n) = _; rw [lookIn_dict, getL_of name fe, hl])) (plainGet_of hg).2
    (wpAny_call (fn_get (s := { s₁ with toks := s₁.toks + 1 }) X₀ (beq_iff_eq.mp ht) (handed_on rfl ?_))))))
  have W2 := (W1.tok (s₁.toks + 1)).to (tk := s₁.toks + 1) ((W1.tok (s₁.toks + 1)).st.new (o := methodObj (.ref f) (.ref x)) rfl (P := ObjP (methodObj (.ref f) (.ref x))) rfl)
  obtain ⟨B1, oq, hs1, hoq, pq, H1⟩ := W2.st.freeze
  rw [show oq = methodObj (.ref f) (.ref x) from pq] at hoq
  have W3 := W2.re H1
  refine wpAny_pure (wpAny_bind (wpAny_pure ?_))
  rw [he]
  refine ks_call (P := MethP K s₁.heap.objs.size f (.ref x)) rfl (keeps_M hfn) ?_
  refine Calls.evalArgs_plain (Calls.spliced_cons (wpAny_mono (h _ B1 hs1 W3) (fun v1 s₂ h₂ => ?_) fun _ _ x => x))
  refine ks_spliced (wpAny_mono h₂ (fun v2 s₃ h₃ => ?_) fun _ _ x => x)
  unfold StarOf at h₃ ⊢
  refine wpAny_mono h₃ (fun b s₄ h₄ => ⟨h₄.1, wpAny_mono h₄.2 (fun here s₅ h₅ => Calls.spliced_nil ?_) fun _ _ x => x⟩) fun _ _ x => x
  obtain ⟨⟨B', X', hs', W5⟩, hc5⟩ := h₅
  have hq : s₅.heap.get? s₁.heap.objs.size = some (methodObj (.ref f) (.ref x)) := W5.st.sub _ _ (hs' _ _ hoq)
  refine ⟨⟨hq, ((hG.kin.keeps hs1).keeps hs').keeps W5.st.sub⟩, wpAny_call (method_call hq ?_)⟩
  have e : (v1 :: (here ++ []) : List Value) = v1 :: here := by simp
  show codeAny (model prog w) A (.call (.ref f) ⟨.ref x :: (v1 :: (here ++ [])), []⟩) _ _
  rw [e]
  exact hc5
end
end Mine

end

section
set_option Elab.async false
set_option linter.unusedVariables false
set_option maxRecDepth 100000
set_option maxHeartbeats 4000000
open PySem PySem.W PyProof.Rows PySem.SeqAt
namespace Mine
abbrev thgs : List Int := [2, 0, 3, 1]
theorem mem_thgs {u : Int} : u ∈ thgs ↔ Rg u := by
  constructor
  · intro h
    simp only [List.mem_cons, List.not_mem_nil, or_false] at h
    rcases h with rfl | rfl | rfl | rfl <;> exact ⟨by decide, by decide⟩
  · rintro ⟨a, b⟩
    have := four_of ⟨a, b⟩
    rcases this with rfl | rfl | rfl | rfl <;> simp
theorem thgs_new {k : Nat} {t : Int} (h : thgs[k]? = some t) : t ∉ thgs.take k := by
  have nd : thgs.Nodup := by decide
  intro hm
  obtain ⟨j, hj, e⟩ := List.getElem_of_mem hm
  rw [List.getElem_take] at e
  have hk : k < thgs.length := by
    rcases Nat.lt_or_ge k thgs.length with q | q
    · exact q
    · rw [List.getElem?_eq_none q] at h; cases h
  rw [List.getElem?_eq_getElem hk] at h
  have h' : thgs[k] = t := Option.some.inj h
  have hj' : j < k := by have := hj; rw [List.length_take] at this; omega
  have := (List.getElem_inj (h₀ := by omega) (h₁ := hk) nd).mp (e.trans h'.symm)
  omega
theorem sumU_le {N : Nat} : ∀ {l : List Nd}, (∀ d ∈ l, d.ss.length ≤ N) → sumU l (fun _ => false) ≤ l.length * (N + 1)
  | [], _ => by simp [sumU]
  | d :: r, h => by
    have ih := sumU_le (l := r) fun e he => h e (.tail _ he)
    have := h d (.head _)
    rw [sumU_cons, List.length_cons, Nat.succ_mul]
    simp
    omega
section
variable {prog : Program} {w : World} {s₀ s : Shared} {B : Heap} {Y : Led} {n2 dx : Addr} {rd po nf : Value} {l : List Nd}
theorem W.toY2 {p r : Addr × As} (h : W s₀ B (p :: SX prog w n2 dx rd po nf l (r :: Y)) s) : W s₀ B (SX prog w n2 dx rd po nf l (r :: p :: Y)) s := by
  refine h.perm ?_
  have e : ∀ Y : Led, SX prog w n2 dx rd po nf l (r :: Y) = ((n2, DcP prog w (prs l)) :: (dx, DoP w (soK (.ref n2) rd po nf)) :: (ndLed l ++ [r])) ++ Y := by intro Y; simp
  rw [e, e]
  exact List.perm_middle.symm
theorem W.ofY2 {p r : Addr × As} (h : W s₀ B (SX prog w n2 dx rd po nf l (r :: p :: Y)) s) : W s₀ B (p :: SX prog w n2 dx rd po nf l (r :: Y)) s := by
  refine h.perm ?_
  have e : ∀ Y : Led, SX prog w n2 dx rd po nf l (r :: Y) = ((n2, DcP prog w (prs l)) :: (dx, DoP w (soK (.ref n2) rd po nf)) :: (ndLed l ++ [r])) ++ Y := by intro Y; simp
  rw [e, e]
  exact List.perm_middle
end

inductive WtJ (prog : Program) (w : World) (n2 dx x aA oA L : Addr) (po nf : Value) (X : Led) (arcs : List (Int × Int)) (B2 : Heap) (pr : List Value) (B' : Heap) (X' : Led) : Prop
  | mk (m : Str → Option Value) (c : Option Value) (l : List Nd) (N : Nat) (hX : X' = SX prog w n2 dx .none po nf l ((L, NsP m) :: (L + 1 + 1, CellP c) :: (L + 1, CellP (some (.ref oA))) :: X)) (h1 : Sub B2 B') (h2 : m (Str.ofString "arcs") = some (.ref aA)) (h3 : m (Str.ofString "sorter") = some (.ref x)) (h4 : DaOk B' l)
      (h5 : Pl l (fun u => if u ∈ thgs.take pr.length then ((preds arcs u).length : Int) else 0) (fun a u => if u ∈ thgs.take pr.length then (preds arcs u).count a else 0) N) (h6 : N ≤ 5 * pr.length) (h7 : l.length ≤ 6 * pr.length)
      (h8 : ∀ u, u ∈ l.map (·.t) ↔ u ∈ thgs.take pr.length ∨ ∃ t ∈ thgs.take pr.length, u ∈ preds arcs t) : WtJ prog w n2 dx x aA oA L po nf X arcs B2 pr B' X'
inductive WtK (prog : Program) (w : World) (n2 dx x rA wA oA L : Addr) (X : Led) (arcs : List (Int × Int)) (o : List Int) (N : Nat) (B5 : Heap) (pr : List Value) (B' : Heap) (X' : Led) : Prop
  | mk (m : Str → Option Value) (c : Option Value) (l : List Nd) (po nf : Value) (np : Int → Int) (ws : List Int) (wv : List Value) (hX : X' = SX prog w n2 dx (.ref rA) po nf l ((rA, SsP []) :: (wA, LsP wv) :: (L, NsP m) :: (L + 1 + 1, CellP c) :: (L + 1, CellP (some (.ref oA))) :: X)) (h1 : Sub B5 B') (h2 : m (Str.ofString "sorter") = some (.ref x)) (h3 : m (Str.ofString "waiting") = some (.ref wA)) (h4 : DaOk B' l)
      (h5 : Pl l np (fun a u => if Rg u then (preds arcs u).count a else 0) N) (h6 : ∀ u, u ∈ l.map (·.t) ↔ Rg u) (h7 : ∃ k, IsI k po) (h8 : ∃ k, IsI k nf) (h9 : F2 (RInt emptyH) wv ws) (h10 : TInv arcs (o.take pr.length) np ws) (h11 : ws.length ≤ 100 + 100 * pr.length) : WtK prog w n2 dx x rA wA oA L X arcs o N B5 pr B' X'

theorem wait_call (w : World) : WaitSpec w := by
  intro prog A E s₀ s B X mg mb v u arcs o Q hG hW hR hF hv hu hval hlen ho h
  obtain ⟨aA, aV, rfl, aO, aF⟩ := hv
  obtain ⟨oA, oV, rfl, oO, oF⟩ := hu
  have al := aF.length
  have ol := oF.length
  have ol4 : o.length ≤ 4 := nodup_len (ys := [0, 1, 2, 3]) ho.nd fun x hx => by
    have := ho.rng x hx
    have := four_of this
    simpa using this
  refine call_fnC (binds := [(Str.ofString "arcs", .ref aA), (Str.ofString "order", .ref oA)]) hG hW (by with_unfolding_all rfl) (by with_unfolding_all rfl) (by with_unfolding_all rfl) (by have := hR.d; omega) (by with_unfolding_all rfl) (by with_unfolding_all rfl) ?_ ?_ (by with_unfolding_all rfl) (by with_unfolding_all rfl) (by with_unfolding_all rfl) ?_
  · intro L x hx
    rcases List.mem_cons.mp hx with rfl | hx
    · exact .inl (by with_unfolding_all rfl)
    · rcases List.mem_singleton.mp hx with rfl
      exact .inr ⟨by with_unfolding_all rfl, by with_unfolding_all rfl⟩
  · intro L p hp
    have hp' : p ∈ [(Str.ofString "thing", L + 1 + 1), (Str.ofString "order", L + 1)] := hp
    rcases List.mem_cons.mp hp' with rfl | hp'
    · with_unfolding_all rfl
    · rcases List.mem_singleton.mp hp' with rfl
      with_unfolding_all rfl
  intro L s1 W1
  obtain ⟨m, hma, W2⟩ : Ex2 (fun m : Str → Option Value => m (Str.ofString "arcs") = some (.ref aA)) (fun m : Str → Option Value => W s₀ B ((L, NsP m) :: (L + 1 + 1, CellP none) :: (L + 1, CellP (some (.ref oA))) :: X) s1) := ⟨_, by with_unfolding_all rfl, W1⟩
  clear W1
  have R1 := hR.deeper (d := 5) (u := 197)
  have un : ∀ k, k ≤ 197 → A.units + 3 + k < cLine := fun k hk => by have := (R1 default).u; exact Nat.lt_of_le_of_lt (by show A.units + 3 + _ ≤ A.units + 3 + 197; omega) this
  -- sorter = TopologicalSorter()
  refine wpAny_execs_cons (wpAny_Assign_Name (wpAny_Call_NameR (ev_global hG W2 (v := .ref 137) (cw_fn0 hG W2 (by kernel_rfl) ?_))))
  refine mk_sorter hG W2 ((R1 _).le (by decide) (by decide)) fun B1 x dx n2 po nf s2 hs1 hx hn2 hpo hnf W3 => ?_
  have hG1 := hG.mono hs1
  refine st_local ((n2, DcP prog w (prs [])) :: (dx, DoP w (soK (.ref n2) .none po nf)) :: ndLed []) W3 fun s3 W4 => ?_
  obtain ⟨m1, hma, hmx, W4⟩ : Ex3 (fun m : Str → Option Value => m (Str.ofString "arcs") = some (.ref aA)) (fun m : Str → Option Value => m (Str.ofString "sorter") = some (.ref x)) (fun m : Str → Option Value => W s₀ B1 (SX prog w n2 dx .none po nf [] ((L, NsP m) :: (L + 1 + 1, CellP none) :: (L + 1, CellP (some (.ref oA))) :: X)) s3) := ⟨_, (up_ne (by decide)).trans hma, up_self _ _ _, W4⟩
  -- for thing in [2, 0, 3, 1]
  refine wpAny_execs_cons (for_listE (s₀ := s₀) (R1 _).h (wpAny_List ?_))
  refine Calls.spliced_cons (wpAny_Constant_int (k := 0) (pos := default) ?_)
  refine Calls.spliced_cons (wpAny_Constant_int (k := 0) (pos := default) ?_)
  refine Calls.spliced_cons (wpAny_Constant_int (k := 0) (pos := default) ?_)
  refine Calls.spliced_cons (wpAny_Constant_int (k := 0) (pos := default) ?_)
  refine Calls.spliced_nil ⟨by rw [sizeLine_eq]; simp, ?_⟩
  have W5 := W4.tok (s3.toks + 1 + 1 + 1 + 1)
  have W6 := W5.to (tk := s3.toks + 1 + 1 + 1 + 1) (W5.st.new (o := { cls := .type "list", data := .seq [Value.int 2 s3.toks, .int 0 (s3.toks + 1), .int 3 (s3.toks + 1 + 1), .int 1 (s3.toks + 1 + 1 + 1)].toArray }) rfl (P := LsP [Value.int 2 s3.toks, .int 0 (s3.toks + 1), .int 3 (s3.toks + 1 + 1), .int 1 (s3.toks + 1 + 1 + 1)]) ⟨_, rfl⟩)
  obtain ⟨B2, oD, hs2, hoD, pD, H6⟩ := W6.st.freeze
  have W7 := W6.re H6
  have hG2 := hG1.mono hs2
  have hx2 := hs2 _ _ hx
  have f4 : F2 (RInt emptyH) [Value.int 2 s3.toks, .int 0 (s3.toks + 1), .int 3 (s3.toks + 1 + 1), .int 1 (s3.toks + 1 + 1 + 1)] thgs := .cons ⟨_, rfl⟩ (.cons ⟨_, rfl⟩ (.cons ⟨_, rfl⟩ (.cons ⟨_, rfl⟩ .nil)))
  obtain ⟨vs4, hvs4⟩ : ∃ vs4, vs4 = [Value.int 2 s3.toks, .int 0 (s3.toks + 1), .int 3 (s3.toks + 1 + 1), .int 1 (s3.toks + 1 + 1 + 1)] := ⟨_, rfl⟩
  rw [← hvs4] at pD f4
  have vl4 : vs4.length = 4 := f4.length
  have aO2 : ∃ ob, B2.get? aA = some ob ∧ LsP aV ob := let ⟨ob, hob, p⟩ := aO; ⟨ob, hs2 _ _ (hs1 _ _ hob), p⟩
  have aF2 := (aF.mono (mono_pair mono_int mono_int) hs1).mono (mono_pair mono_int mono_int) hs2
  refine ⟨_, vs4, WtJ prog w n2 dx x aA oA L po nf X arcs B2, B2, _, rfl, W7, ⟨m1, none, [], 0, rfl, Sub.refl _, hma, hmx, (fun _ h => nomatch h), ⟨by simp, (fun _ h => nomatch h), (fun _ h => nomatch h), fun t _ => by simp, (fun _ h => nomatch h)⟩, by simp, by simp, fun u => by simp⟩, ?_, ?_, ?_⟩
  · rintro pr B' X' ⟨m, c, l, N, rfl, hsb, -⟩
    exact .inl ⟨oD, hsb _ _ hoD, pD⟩
  · rintro pr tv post I As B3 X3 s7 hvs hs3 ⟨m, c, l, N, rfl, -, hma, hmx, hda, P, hN, hll, hk⟩ W8
    have hgt : vs4[pr.length]? = some tv := by rw [hvs]; simp
    obtain ⟨t, et, tk, rfl⟩ := f4.get hgt
    have hpl : pr.length < 4 := by have := congrArg List.length hvs; simp at this; omega
    have htake : thgs.take (pr ++ [Value.int t tk]).length = thgs.take pr.length ++ [t] := by rw [List.length_append, List.length_singleton, List.take_add_one, et]; rfl
    have hnew := thgs_new et
    have hG3 := hG2.mono hs3
    have hx3 := hs3 _ _ hx2
    refine abs_turn fun Qt hQt => ?_
    unfold SX at W8
    rw [List.append_cons] at W8
    refine as_nameC (c := L + 1 + 1) ((I, As) :: (n2, DcP prog w (prs l)) :: (dx, DoP w (soK (.ref n2) .none po nf)) :: (ndLed l ++ [(L, NsP m)])) W8 fun s8 W9 => ?_
    have W9 : W s₀ B3 ((I, As) :: SX prog w n2 dx .none po nf l ((L, NsP m) :: (L + 1 + 1, CellP (some (.int t tk))) :: (L + 1, CellP (some (.ref oA))) :: X)) s8 := W9.perm (.of_eq (by simp))
    -- sorter.add(thing, *[..])
    refine wpAny_execs_cons (wpAny_Expr (call_methS (C := 137) (kvs := soK (.ref n2) .none po nf) (f := 87) hG3 W9 (Ev.local (m := m) (by show (L, NsP m) ∈ _; simp) hmx) hx3 (by simp) rfl (by kernel_rfl) (by kernel_rfl) (by kernel_rfl) (by kernel_rfl) (by kernel_rfl) (by kernel_rfl) (by decide +kernel) (by kernel_rfl) fun s9 B4 hs4 W10 => ?_))
    refine ev_cell (c := L + 1 + 1) (v := .int t tk) W10 (by simp) ?_
    have hs24 := hs3.trans hs4
    have aO4 : ∃ ob, B4.get? aA = some ob ∧ LsP aV ob := let ⟨ob, hob, p⟩ := aO2; ⟨ob, hs24 _ _ hob, p⟩
    refine ev_comp_list (RA := RPair RInt RInt) (RB := RInt) (fun a => decide (a.2 = t)) (fun a => a.1) (R1 _).h (fun Q' hq => ev_local W10 (m := m) (by show (L, NsP m) ∈ _; simp) hma hq) W10 (.inl aO4) (aF2.mono (mono_pair mono_int mono_int) hs24) (mono_pair mono_int mono_int) mono_int (by rw [sizeLine_eq]; omega) ?_ ?_
    · rintro a av B5 mc Cn Z s10 ha hs5 ⟨T, v1, v2, rfl, hT, ⟨t1, e1⟩, ⟨t2, e2⟩⟩ W11
      subst e1 e2
      refine cturn_pair (R1 _).h W11 hT (EvT.a (Ev.eqI (Ev.imp (Ev.local (List.Mem.head _) (up_self _ _ _)) fun v e => ⟨t2, e⟩) (Ev.imp (Ev.cell (a := L + 1 + 1) (v := .int t tk) (by simp)) fun v e => ⟨tk, e⟩))) fun B6 hs6 _ => Ev.aR ?_
      exact Ev.imp (Ev.local (List.Mem.head _) ((up_ne (by decide)).trans (up_self _ _ _))) fun v e => ⟨t1, e⟩
    · intro D us B5 s10 hs5 fus W11
      have fus : F2 (RInt emptyH) us (preds arcs t) := fus
      have hul := fus.length
      have hpd := preds_len arcs t
      have hne : D ≠ L := fun q => by
        have nd := W11.st.nd
        rw [List.map_cons, List.nodup_cons] at nd
        exact nd.1 (by rw [q]; simp)
      refine star_ls (L := L) (m := m) (a := D) (us := us) W11 (by simp) (by simp) hne (by omega) fun s11 W12 => ⟨⟨B5, _, hs5, W12⟩, ?_⟩
      have W13 := W12.re W12.st.drop
      refine add_code (ps := preds arcs t) (t := t) (N := N) (hG3.mono (hs4.trans hs5)) W13.toY ((R1 _).le (by decide) (by decide)) (hs5 _ _ (hs4 _ _ hx3)) hn2 (hda.mono (hs4.trans hs5)) (by omega) ⟨tk, rfl⟩ fus P (by omega) fun B6 l6 s12 hs6 hda6 P6 hk6 hl6 W14 => ?_
      have hs36 := (hs4.trans hs5).trans hs6
      refine wpAny_execs_nil (hQt .next _ ⟨B6, _, hs36, ⟨m, some (.int t tk), l6, N + (preds arcs t).length, rfl, hs3.trans hs36, hma, hmx, hda6, ?_, ?_, ?_, fun u => ?_⟩, W14.ofY⟩)
      · rw [htake]
        have e1 : (fun u => if u ∈ thgs.take pr.length ++ [t] then ((preds arcs u).length : Int) else 0) = fun u => (if u ∈ thgs.take pr.length then ((preds arcs u).length : Int) else 0) + if u = t then ((preds arcs t).length : Int) else 0 := by
          funext u
          by_cases h1 : u = t
          · subst h1; simp [hnew]
          · by_cases h2 : u ∈ thgs.take pr.length <;> simp [h1, h2]
        have e2 : (fun a u => if u ∈ thgs.take pr.length ++ [t] then (preds arcs u).count a else 0) = fun a u => (if u ∈ thgs.take pr.length then (preds arcs u).count a else 0) + if u = t then (preds arcs t).count a else 0 := by
          funext a u
          by_cases h1 : u = t
          · subst h1; simp [hnew]
          · by_cases h2 : u ∈ thgs.take pr.length <;> simp [h1, h2]
        rw [e1, e2]; exact P6
      · simp; omega
      · simp; omega
      · rw [hk6, hk, htake]
        simp only [List.mem_append, List.mem_singleton]
        constructor
        · rintro (((h1 | ⟨t', h1, h2⟩) | h1) | h1)
          · exact .inl (.inl h1)
          · exact .inr ⟨t', .inl h1, h2⟩
          · exact .inl (.inr h1)
          · exact .inr ⟨t, .inr rfl, h1⟩
        · rintro ((h1 | h1) | ⟨t', h1 | h1, h2⟩)
          · exact .inl (.inl (.inl h1))
          · exact .inl (.inr h1)
          · exact .inl (.inl (.inr ⟨t', h1, h2⟩))
          · subst h1; exact .inr h2
  · rintro B3 X3 s7 hs3 ⟨m, c, l, N, rfl, -, hma, hmx, hda, P, hN, hll, hk⟩ W8
    rw [vl4] at P hN hll hk
    have hG3 := hG2.mono hs3
    have hx3 := hs3 _ _ hx2
    have ek : ∀ u, u ∈ thgs.take 4 ↔ Rg u := fun u => mem_thgs
    have P1 : Pl l (fun u => if Rg u then ((preds arcs u).length : Int) else 0) (fun a u => if Rg u then (preds arcs u).count a else 0) N := by
      have e1 : (fun u => if u ∈ thgs.take 4 then ((preds arcs u).length : Int) else 0) = fun u => if Rg u then ((preds arcs u).length : Int) else 0 := by funext u; simp only [ek u]
      have e2 : (fun a u => if u ∈ thgs.take 4 then (preds arcs u).count a else 0) = fun a u => if Rg u then (preds arcs u).count a else 0 := by funext a u; simp only [ek u]
      rw [e1, e2] at P; exact P
    have hkr : ∀ u, u ∈ l.map (·.t) ↔ Rg u := fun u => by
      rw [hk]
      constructor
      · rintro (h1 | ⟨t, h1, h2⟩)
        · exact (ek u).mp h1
        · have := hval _ (mem_preds.mp h2)
          exact ⟨this.1, by have := this.2; simp only at this; omega⟩
      · exact fun h1 => .inl ((ek u).mpr h1)
    have hl4 : l.length ≤ 4 := by
      have := nodup_len (xs := l.map (·.t)) (ys := [0, 1, 2, 3]) P1.nd fun y hy => by
        have := (hkr y).mp hy
        have := four_of this
        simpa using this
      simpa using this
    have hup : ∀ d ∈ l, ∀ u ∈ d.ss, d.t < u ∧ u ∈ l.map (·.t) := fun d hd u hu => by
      have hc := P1.hc d hd u
      have hpos := List.count_pos_iff.mpr hu
      by_cases hr : Rg u
      · rw [if_pos hr] at hc
        have hm := List.count_pos_iff.mp (hc ▸ hpos)
        exact ⟨(hval _ (mem_preds.mp hm)).2.1, (hkr u).mpr hr⟩
      · rw [if_neg hr] at hc; omega
    have hsum : sumU l (fun _ => false) ≤ 400 := by
      have h1 := sumU_le P1.sl
      have h2 : l.length * (N + 1) ≤ 4 * (N + 1) := Nat.mul_le_mul_right _ hl4
      omega
    clear P hk hll
    -- sorter.prepare()
    refine wpAny_execs_cons (wpAny_Expr (call_meth (C := 137) (kvs := soK (.ref n2) .none po nf) (f := 92) hG3 W8 (Ev.local (m := m) (by show (L, NsP m) ∈ _; simp) hmx) hx3 (by simp) rfl (by kernel_rfl) (by kernel_rfl) (by kernel_rfl) fun s8 W9 => ?_))
    refine cw_fn0 hG3 W9 (by kernel_rfl) ?_
    refine prep_call hG3 W9 ((R1 _).le (by decide) (by decide)) (hF.deeper (L := L) (m := m) (fun p hp => by simp [hp]) (by simp) rfl rfl) hx3 hn2 hda P1 hup hsum fun B4 rA s9 hs4 W10 => ?_
    have hG4 := hG3.mono hs4
    have hx4 := hs4 _ _ hx3
    have hda4 := hda.mono hs4
    have hzr : ∀ u, u ∈ zeros l ↔ Rg u ∧ (if Rg u then ((preds arcs u).length : Int) else 0) = 0 := fun u => by
      unfold zeros
      simp only [List.mem_map, List.mem_filter, decide_eq_true_eq]
      constructor
      · rintro ⟨d, ⟨hd, hz⟩, rfl⟩
        refine ⟨(hkr d.t).mp (List.mem_map.mpr ⟨d, hd, rfl⟩), ?_⟩
        rw [← P1.hp d hd]; exact hz
      · rintro ⟨h1, h2⟩
        obtain ⟨d, hd, e⟩ := List.mem_map.mp ((hkr u).mpr h1)
        refine ⟨d, ⟨hd, ?_⟩, e⟩
        rw [P1.hp d hd, e]; exact h2
    have hzl : (zeros l).length ≤ 4 := by
      have : (zeros l).length ≤ l.length := by unfold zeros; rw [List.length_map]; exact List.length_filter_le _ _
      omega
    -- waiting = list(sorter.get_ready())
    refine wpAny_execs_cons (wpAny_Assign_Name (wpAny_Call_NameR (ev_builtin hG4 W10 PyProof.Rows.boot_list (PyProof.Rows.callWith_type1 ?_))))
    refine Calls.spliced_cons (call_meth (C := 137) (kvs := soK (.ref n2) (.ref rA) po nf) (f := 99) hG4 W10 (Ev.local (m := m) (by show (L, NsP m) ∈ _; simp) hmx) hx4 (by simp) rfl (by kernel_rfl) (by kernel_rfl) (by kernel_rfl) fun s10 W11 => ?_)
    refine cw_fn0 hG4 W11 (by kernel_rfl) ?_
    refine ready_call hG4 W11 ((R1 _).le (by decide) (by decide)) hx4 hn2 hda4 P1 ⟨_, hpo⟩ (fun u hu => (hkr u).mpr ((hzr u).mp hu).1) (by omega) fun B5 l5 po5 T wv s11 hs5 hda5 P5 hk5 hpo5 hT5 fw5 W12 => Calls.spliced_nil ?_
    have hG5 := hG4.mono hs5
    have hx5 := hs5 _ _ hx4
    have T0 : TInv arcs [] (fun u => if u ∈ zeros l then -1 else if Rg u then ((preds arcs u).length : Int) else 0) (zeros l) := TInv.start (fun u hu => by rw [if_pos hu]) hzr
    have wl5 := fw5.length
    refine call_list_seq T (.inr rfl) (W12.st.sub _ _ hT5) rfl rfl (fun h' c' hk' hD => ?_) (by rw [sizeLine_eq]; simp; omega)
    have W13 : W s₀ B5 ((s11.heap.objs.size, LsP wv) :: SX prog w n2 dx (.ref rA) po5 nf l5 ((rA, SsP []) :: (L, NsP m) :: (L + 1 + 1, CellP c) :: (L + 1, CellP (some (.ref oA))) :: X)) { s11 with heap := h' } :=
      W12.to (tk := s11.toks) (W12.st.addAt hk' (Nat.le_refl _) ⟨_, hD, c', rfl⟩)
    generalize s11.heap.objs.size = wA at W13
    generalize ({ s11 with heap := h' } : Shared) = s13 at W13
    have W14 : W s₀ B5 (((wA, LsP wv) :: (n2, DcP prog w (prs l5)) :: (dx, DoP w (soK (.ref n2) (.ref rA) po5 nf)) :: (ndLed l5 ++ [(rA, SsP [])])) ++ (L, NsP m) :: (L + 1 + 1, CellP c) :: (L + 1, CellP (some (.ref oA))) :: X) s13 := W13.perm (.of_eq (by simp))
    refine st_local _ W14 fun s15 W15 => ?_
    have W15 : W s₀ B5 (((wA, LsP wv) :: (n2, DcP prog w (prs l5)) :: (dx, DoP w (soK (.ref n2) (.ref rA) po5 nf)) :: (ndLed l5 ++ [(rA, SsP [])])) ++ (L, NsP (up m (Str.ofString "waiting") (.ref wA))) :: (L + 1 + 1, CellP c) :: (L + 1, CellP (some (.ref oA))) :: X) s15 := W15
    obtain ⟨m5, hmx, hmw, W16⟩ : Ex3 (fun m : Str → Option Value => m (Str.ofString "sorter") = some (.ref x)) (fun m : Str → Option Value => m (Str.ofString "waiting") = some (.ref wA)) (fun m : Str → Option Value => W s₀ B5 (SX prog w n2 dx (.ref rA) po5 nf l5 ((rA, SsP []) :: (wA, LsP wv) :: (L, NsP m) :: (L + 1 + 1, CellP c) :: (L + 1, CellP (some (.ref oA))) :: X)) s15) :=
      ⟨_, (up_ne (by decide)).trans hmx, up_self _ _ _, W.toY2 (W15.perm (.of_eq (by simp)))⟩
    have hs05 : Sub B B5 := hs1.trans (hs2.trans (hs3.trans (hs4.trans hs5)))
    have oO5 : ∃ ob, B5.get? oA = some ob ∧ LsP oV ob := let ⟨ob, hob, p⟩ := oO; ⟨ob, hs05 _ _ hob, p⟩
    have oF0 : F2 (RInt emptyH) oV o := oF
    clear W2 W3 W4 W5 W6 W7 W8 W9 W10 W11 W12 W13 W14 W15
    -- for thing in order
    refine wpAny_execs_cons (for_listE (s₀ := s₀) (R1 _).h (ev_cell (c := L + 1) (v := .ref oA) W16 (by simp) ?_))
    refine ⟨oA, oV, WtK prog w n2 dx x rA wA oA L X arcs o N B5, B5, _, rfl, W16,
        ⟨m5, c, l5, po5, nf, _, zeros l, wv, rfl, Sub.refl _, hmx, hmw, hda5, P5, fun u => by rw [hk5]; exact hkr u, hpo5, ⟨_, hnf⟩, fw5, by simpa using T0, by omega⟩, ?_, ?_, ?_⟩
    · rintro pr B' X' ⟨m, c, l, po, nf, np, ws, wv, rfl, hsb, -⟩
      exact .inl (let ⟨ob, hob, p⟩ := oO5; ⟨ob, hsb _ _ hob, p⟩)
    · rintro pr tv post I As B6 X6 s16 hvs hs6 ⟨m, c, l, po, nf, np, ws, wv, rfl, -, hmx, hmw, hda6, P6, hkr6, hpo6, hnf6, fw6, T6, hwl⟩ W17
      have hgt : oV[pr.length]? = some tv := by rw [hvs]; simp
      obtain ⟨t, et, tk, rfl⟩ := oF0.get hgt
      have hpl : pr.length < o.length := by
        rcases Nat.lt_or_ge pr.length o.length with q | q
        · exact q
        · rw [List.getElem?_eq_none q] at et; cases et
      have htake : o.take (pr ++ [Value.int t tk]).length = o.take pr.length ++ [t] := by rw [List.length_append, List.length_singleton, List.take_add_one, et]; rfl
      have eo : o = o.take pr.length ++ t :: o.drop (pr.length + 1) := by
        have h1 := List.take_append_drop pr.length o
        rw [List.drop_eq_getElem_cons hpl] at h1
        have h2 : o[pr.length] = t := by rw [List.getElem?_eq_getElem hpl] at et; exact Option.some.inj et
        rw [h2] at h1; exact h1.symm
      obtain ⟨hrt, hnt, -, -, hcu⟩ := T6.facts hval ho eo
      have hG6 := hG5.mono hs6
      have hx6 := hs6 _ _ hx5
      refine abs_turn fun Qu hQu => ?_
      have W18 : W s₀ B6 (((I, As) :: (n2, DcP prog w (prs l)) :: (dx, DoP w (soK (.ref n2) (.ref rA) po nf)) :: (ndLed l ++ [(rA, SsP []), (wA, LsP wv), (L, NsP m)])) ++ (L + 1 + 1, CellP c) :: (L + 1, CellP (some (.ref oA))) :: X) s16 := W17.perm (.of_eq (by simp))
      refine as_nameC (c := L + 1 + 1) _ W18 fun s17 W19 => ?_
      have W20 : W s₀ B6 ((I, As) :: SX prog w n2 dx (.ref rA) po nf l ((rA, SsP []) :: (wA, LsP wv) :: (L, NsP m) :: (L + 1 + 1, CellP (some (.int t tk))) :: (L + 1, CellP (some (.ref oA))) :: X)) s17 := W19.perm (.of_eq (by simp))
      -- sorter.done(thing)
      refine wpAny_execs_cons (wpAny_Expr (call_meth (C := 137) (kvs := soK (.ref n2) (.ref rA) po nf) (f := 120) hG6 W20 (Ev.local (m := m) (by show (L, NsP m) ∈ _; simp) hmx) hx6 (by simp) rfl (by kernel_rfl) (by kernel_rfl) (by kernel_rfl) fun s18 W21 => ?_))
      refine cw_fn (s₀ := s₀) hG6 (by kernel_rfl) (Calls.spliced_cons (ev_cell (c := L + 1 + 1) (v := .int t tk) W21 (by simp) (Calls.spliced_nil ⟨⟨B6, _, Sub.refl _, W21⟩, ?_⟩)))
      refine done_call hG6 W21.toY2 ((R1 _).le (by decide) (by decide)) hx6 hn2 hda6 P6 ⟨tk, rfl⟩ hnf6 hnt ((hkr6 t).mpr hrt) (fun u hu => ?_) (by omega) fun B7 l7 nf7 rs s19 hs7 hda7 P7 hk7 hnf7 hrs7 hrl7 W22 => ?_
      · by_cases hr : Rg u
        · rw [if_pos hr] at hu ⊢
          obtain ⟨h1, h2, -, -⟩ := hcu u hr hu
          exact ⟨(hkr6 u).mpr hr, h1, h2⟩
        · rw [if_neg hr] at hu; omega
      have T7 := T6.step (rs := rs) hval ho eo (cn := fun a u => if Rg u then (preds arcs u).count a else 0) (fun u => rfl) hrs7
      have hG7 := hG6.mono hs7
      have hx7 := hs7 _ _ hx6
      have hkr7 : ∀ u, u ∈ l7.map (·.t) ↔ Rg u := fun u => by rw [hk7]; exact hkr6 u
      -- waiting.extend(sorter.get_ready())
      have W23 : W s₀ B7 (((I, As) :: (n2, DcP prog w (prs l7)) :: (dx, DoP w (soK (.ref n2) (.ref rA) po nf7)) :: (ndLed l7 ++ [(rA, SsP rs)])) ++ (wA, LsP wv) :: (L, NsP m) :: (L + 1 + 1, CellP (some (.int t tk))) :: (L + 1, CellP (some (.ref oA))) :: X) s19 := W22.ofY2.perm (.of_eq (by simp))
      refine wpAny_execs_cons (extend_tup (D := wA) (us := wv) ((I, As) :: (n2, DcP prog w (prs l7)) :: (dx, DoP w (soK (.ref n2) (.ref rA) po nf7)) :: (ndLed l7 ++ [(rA, SsP rs)])) W23 (Ev.local (m := m) (by show (L, NsP m) ∈ _; simp) hmw) fun s20 W24 => ?_)
      have W25 : W s₀ B7 ((I, As) :: SX prog w n2 dx (.ref rA) po nf7 l7 ((rA, SsP rs) :: (wA, LsP wv) :: (L, NsP m) :: (L + 1 + 1, CellP (some (.int t tk))) :: (L + 1, CellP (some (.ref oA))) :: X)) s20 := W24.perm (.of_eq (by simp))
      refine call_meth (C := 137) (kvs := soK (.ref n2) (.ref rA) po nf7) (f := 99) hG7 W25 (Ev.local (m := m) (by show (L, NsP m) ∈ _; simp) hmx) hx7 (by simp) rfl (by kernel_rfl) (by kernel_rfl) (by kernel_rfl) fun s21 W26 => ?_
      refine cw_fn0 hG7 W26 (by kernel_rfl) ?_
      refine ready_call hG7 W26.toY2 ((R1 _).le (by decide) (by decide)) hx7 hn2 hda7 P7 hpo6 (fun u hu => (hkr7 u).mpr (by
        have := ((hrs7 u).mp hu).1
        by_cases hr : Rg u
        · exact hr
        · rw [if_neg hr] at this; omega)) (by omega) fun B8 l8 po8 T8 rv s22 hs8 hda8 P8 hk8 hpo8 hT8 fr8 W27 => ?_
      have rl8 := fr8.length
      have wl6 := fw6.length
      have W28 : W s₀ B8 (((I, As) :: (n2, DcP prog w (prs l8)) :: (dx, DoP w (soK (.ref n2) (.ref rA) po8 nf7)) :: (ndLed l8 ++ [(rA, SsP [])])) ++ (wA, LsP wv) :: (L, NsP m) :: (L + 1 + 1, CellP (some (.int t tk))) :: (L + 1, CellP (some (.ref oA))) :: X) s22 := W27.ofY2.perm (.of_eq (by simp))
      refine ⟨B8, _, _, T8, rv, rfl, W28, ?_, ?_, fun s23 W29 => ?_⟩
      · exact hT8
      · omega
      have W30 : W s₀ B8 ((I, As) :: SX prog w n2 dx (.ref rA) po8 nf7 l8 ((rA, SsP []) :: (wA, LsP (wv ++ rv)) :: (L, NsP m) :: (L + 1 + 1, CellP (some (.int t tk))) :: (L + 1, CellP (some (.ref oA))) :: X)) s23 := W29.perm (.of_eq (by simp))
      have hs68 := hs7.trans hs8
      refine wpAny_execs_nil (hQu .next _ ⟨B8, _, hs68, ⟨m, _, l8, po8, nf7, _, ws ++ rs, wv ++ rv, rfl, hs6.trans hs68, hmx, hmw, hda8, P8, fun u => by rw [hk8]; exact hkr7 u, hpo8, hnf7, fw6.append fr8, by rw [htake]; exact T7, ?_⟩, W30⟩)
      simp only [List.length_append, List.length_singleton]
      omega
    · rintro B6 X6 s16 hs6 ⟨m, c, l, po, nf, np, ws, wv, rfl, -, hmx, hmw, hda6, P6, hkr6, hpo6, hnf6, fw6, T6, hwl⟩ W17
      rw [ol, List.take_length] at T6
      have wl6 := fw6.length
      have hol : oV.length ≤ 4 := by omega
      have oO6 : ∃ ob, B6.get? oA = some ob ∧ LsP oV ob := let ⟨ob, hob, p⟩ := oO5; ⟨ob, hs6 _ _ hob, p⟩
      refine wpAny_execs_cons (wpAny_Return_some ?_)
      refine ev_comp_list (RA := RInt) (RB := RInt) (fun t => !decide (t ∈ o)) (fun t => t) (R1 _).h (fun Q' hq => ev_local W17 (m := m) (by show (L, NsP m) ∈ _; simp) hmw hq) W17 (.inr (by simp)) fw6 mono_int mono_int (by rw [sizeLine_eq]; omega) ?_ ?_
      · rintro t tv B7 mc Cn Z s18 ht hs7 ⟨tk, rfl⟩ W18
        refine cturn_name W18 (EvT.a (Ev.notInL eq_int fun_int (Ev.imp (Ev.local (List.Mem.head _) (up_self _ _ _)) fun v e => ⟨tk, e⟩) (Ev.cell (a := L + 1) (v := .ref oA) (by simp)) (.inl (let ⟨ob, hob, p⟩ := oO6; ⟨ob, hs7 _ _ hob, p⟩)) oF0 (un _ (by omega)))) fun B8 hs8 _ => Ev.aR ?_
        exact Ev.imp (Ev.local (List.Mem.head _) (up_self _ _ _)) fun v e => ⟨tk, e⟩
      · intro D us B7 s18 hs7 fus W18
        obtain ⟨B8, oD, hs8, hoD, pD, H8⟩ := W18.st.freeze
        have e : SX prog w n2 dx (.ref rA) po nf l ((rA, SsP []) :: (wA, LsP wv) :: (L, NsP m) :: (L + 1 + 1, CellP c) :: (L + 1, CellP (some (.ref oA))) :: X) = ((n2, DcP prog w (prs l)) :: (dx, DoP w (soK (.ref n2) (.ref rA) po nf)) :: (ndLed l ++ [(rA, SsP []), (wA, LsP wv), (L, NsP m), (L + 1 + 1, CellP c), (L + 1, CellP (some (.ref oA)))])) ++ X := by simp
        rw [e] at H8
        refine h B8 (.ref D) ((ws.filter fun t => !decide (t ∈ o)).map fun t => t) s18 (hs05.trans (hs6.trans (hs7.trans hs8))) (W18.re (St.dropZ H8)) ⟨D, us, rfl, ⟨oD, hoD, pD⟩, fus⟩ fun t => ?_
        rw [← T6.wt t]
        simp
end Mine

end

theorem PySem.Challenge.cw_oc0184_01_holds : PySem.Challenge.rw_oc0184_01.Holds :=
  Mine.main_of Mine.sld_call Mine.wait_call
